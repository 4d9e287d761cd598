import PyProof.Rows.All
import Wide.All
import OpenK.AllK
import Wide.FinOn
import PySem.Challenge.RW_in0259_01
set_option Elab.async false
set_option maxRecDepth 100000
set_option linter.all false
set_option genInjectivity false
set_option genSizeOf false
set_option bootstrap.genMatcherCode false
set_option compiler.extract_closed false
noncomputable section

-- K0
namespace Mine
open PySem PySem.Calls PyProof.Rows PySem.W

/- the object of the def that stands at the i-th place of the text -/
noncomputable def fnD (i : Nat) (mo : Str) (t : Tok) (c : Addr) : Obj :=
  match PySem.Challenge.pw_in0259_01.main.body[i]? with
  | some (.FunctionDef name args body _ _ _ scope _ _ _) => { cls := .type "function", data := .func { name := name, qualname := name, params := args, body := .stmts body, scope := scope, globals := 3, closure := [], defaults := .none, kwdefaults := .none, pyModule := .str mo t, code := .ref c } }
  | _ => { cls := .none, data := .fields #[] }
noncomputable def en (P : Params) (x : Str) (t : Tok) (v : PySem.Value) : DictEntry := { hash := PyData.keyHash P x, key := .str x t, val := v }
noncomputable def sp (c : Nat) (t u : Tok) : DictEntry := { hash := c, key := .int c t, val := .str ⟨#[92, c]⟩ u }
noncomputable def gl1 (P : Params) : List DictEntry :=
  [en P (Str.ofString "__name__") 165 (.str (Str.ofString "law_in0259_01") 548), en P (Str.ofString "__doc__") 166 .none, en P (Str.ofString "__package__") 167 .none,
    en P (Str.ofString "__loader__") 168 (.builtin "__main__.__loader__#opaque"), en P (Str.ofString "__spec__") 169 .none, en P (Str.ofString "__annotations__") 170 (.ref 6),
    en P (Str.ofString "__builtins__") 171 (.ref 4), en P (Str.ofString "__file__") 173 (.str (Str.ofString "/claim/cut.py") 172), en P (Str.ofString "__cached__") 174 .none]
noncomputable def gl2 (P : Params) : List DictEntry :=
  [en P (Str.ofString "_sre") 275 (.ref 12), en P (Str.ofString "_twin_re_1") 319 (.ref 36), en P (Str.ofString "_special_chars_map") 467 (.ref 38), en P (Str.ofString "escape") 474 (.ref 48),
    en P (Str.ofString "_translate") 495 (.ref 55), en P (Str.ofString "bytes_types") 498 (.ref 56), en P (Str.ofString "_bytes_from_decode_data") 505 (.ref 63), en P (Str.ofString "and_") 515 (.ref 70)]
noncomputable def gl3 (P : Params) : List DictEntry :=
  [en P (Str.ofString "lshift") 523 (.ref 77), en P (Str.ofString "or_") 531 (.ref 84), en P (Str.ofString "rshift") 539 (.ref 91), en P (Str.ofString "xor") 547 (.ref 98),
    en P (Str.ofString "_law_number") 556 (.ref 105), en P (Str.ofString "_law_taken") 562 (.ref 110), en P (Str.ofString "_law_consensus") 568 (.ref 115), en P (Str.ofString "law") 574 (.ref 120)]
noncomputable def spL : List DictEntry :=
  [sp 40 323 327, sp 41 329 333, sp 91 335 339, sp 93 341 345, sp 123 347 351, sp 125 353 357, sp 63 359 363, sp 42 365 369, sp 43 371 375, sp 45 377 381, sp 124 383 387, sp 94 389 393,
    sp 36 395 399, sp 92 401 405, sp 46 407 411, sp 38 413 417, sp 126 419 423, sp 35 425 429, sp 32 431 435, sp 9 437 441, sp 10 443 447, sp 13 449 453, sp 11 455 459, sp 12 461 465]
/- the code of a def without cells (mF), of one with cells (mC) -/
noncomputable def coO (x : Str) (t u l n : Nat) (a b : Addr) (m : List PySem.Value) : Obj :=
  { cls := .type "code", data := .fields ⟨.str x t :: .str x (t + 1) :: .str (Str.ofString "/claim/cut.py") (t + 2) :: .int (.ofNat l) 0 :: .int (.ofNat n) 0 :: .int 0 0 :: .int 0 0 :: .int 3 0 :: .ref a :: .bool true :: .int 276 0 :: .ref b :: .none ::
    (m ++ [.int (.ofNat u) 0, .int (.ofNat l) 0, .str (Str.ofString "/claim/cut.py") (u + 1)])⟩ }
noncomputable def mF (c : Addr) : List PySem.Value := [.ref c, .ref (c + 1), .ref (c + 2)]
noncomputable def mC (c : Addr) : List PySem.Value := [.none, .none, .ref c]
noncomputable def KC : Frag :=
  [(47, coO (Str.ofString "escape") 468 472 5 1 42 43 (mF 44)), (54, coO (Str.ofString "_translate") 477 493 12 3 49 50 (mF 51)), (62, coO (Str.ofString "_bytes_from_decode_data") 499 503 76 1 57 58 (mF 59)),
    (69, coO (Str.ofString "and_") 508 513 89 2 64 65 (mF 66)), (76, coO (Str.ofString "lshift") 516 521 91 2 71 72 (mF 73)), (83, coO (Str.ofString "or_") 524 529 93 2 78 79 (mF 80)),
    (90, coO (Str.ofString "rshift") 532 537 95 2 85 86 (mF 87)), (97, coO (Str.ofString "xor") 540 545 97 2 92 93 (mF 94)), (104, coO (Str.ofString "_law_number") 550 554 100 1 99 100 (mF 101)),
    (109, coO (Str.ofString "_law_taken") 557 560 102 2 106 107 (mC 108)), (114, coO (Str.ofString "_law_consensus") 563 566 107 2 111 112 (mC 113)), (119, coO (Str.ofString "law") 569 572 122 1 116 117 (mC 118))]
noncomputable def KF (P : Params) : Frag :=
  [(3, { cls := .type "dict", data := .dict ⟨gl1 P ++ (gl2 P ++ gl3 P)⟩ 25 }), (38, { cls := .type "dict", data := .dict ⟨spL⟩ 24 }),
    (48, fnD 4 (Str.ofString "re") 320 47), (55, fnD 6 (Str.ofString "cpy313.fnmatch") 475 54), (63, fnD 9 (Str.ofString "cpy313.base64") 496 62),
    (70, fnD 11 (Str.ofString "cpy313.operator") 506 69), (77, fnD 12 (Str.ofString "cpy313.operator") 506 76), (84, fnD 13 (Str.ofString "cpy313.operator") 506 83),
    (91, fnD 14 (Str.ofString "cpy313.operator") 506 90), (98, fnD 15 (Str.ofString "cpy313.operator") 506 97),
    (105, fnD 17 (Str.ofString "law_in0259_01") 548 104), (110, fnD 18 (Str.ofString "law_in0259_01") 548 109), (115, fnD 19 (Str.ofString "law_in0259_01") 548 114), (120, fnD 20 (Str.ofString "law_in0259_01") 548 119)]
noncomputable def KP (P : Params) : Frag := KF P ++ KC
end Mine

-- B1
namespace Mine
open PySem PySem.Calls PyProof.Rows PySem.W

theorem dp {a k j r : Nat} (h : a + k < r) (hk : j ≤ k) : a + j < r := Nat.lt_of_le_of_lt (Nat.add_le_add_left hk _) h
theorem dp0 {a k r : Nat} (h : a + k < r) : a < r := Nat.lt_of_le_of_lt (Nat.le_add_right _ _) h
theorem i_nn (i : Nat) : (0 : Int) ≤ i := Int.natCast_nonneg i
theorem i_lt {i n : Nat} {k : Int} (h : i < n) (hk : ((n : Nat) : Int) ≤ k) : (i : Int) < k := Int.lt_of_lt_of_le (Int.ofNat_lt.mpr h) hk
theorem i_le {i n : Nat} {k : Int} (h : i < n) (hk : ((n : Nat) : Int) ≤ k) : (i : Int) ≤ k := Int.le_of_lt (i_lt h hk)
theorem ok_size {n : Nat} (h : n ≤ 1000) : n ≤ sizeLine := Nat.le_trans h (by rw [sizeLine_eq]; decide)
theorem ml {α β : Type} {f : α → β} {l : List α} {n k : Nat} (h : l.length ≤ n) (hk : n ≤ k) : (l.map f).length ≤ k := by rw [List.length_map]; exact Nat.le_trans h hk
/- a value, its token forgotten -/
inductive AV where
  | none
  | bool (b : Bool)
  | int (i : Int)
  | str (x : Str)
  | byt (b : Array UInt8)
  | ref (a : Addr)
  | bi (id : String)
  | ty (n : String)

noncomputable def AV.Is : AV → PySem.Value → Prop
  | .none, v => v = .none
  | .bool b, v => v = .bool b
  | .int i, v => ∃ t, v = .int i t
  | .str x, v => ∃ t, v = .str x t
  | .byt b, v => ∃ t, v = .bytes b t
  | .ref a, v => v = .ref a
  | .bi id, v => v = .builtin id
  | .ty n, v => v = .type n

noncomputable def optIs : Option AV → Option PySem.Value → Prop
  | none, none => True
  | some a, some v => a.Is v
  | _, _ => False

theorem optIs.some {a : AV} {o : Option PySem.Value} (h : optIs (some a) o) : ∃ v, o = some v ∧ a.Is v := by
  cases o with
  | none => exact h.elim
  | some v => exact ⟨v, rfl, h⟩

inductive Ent where
  | lS (ys : List Str)
  | lI (ns : List Int)
  | tS (ys : List Str)
  | tI (ns : List Int)
  | ce (v : Option AV)
  | nm (m : List (Str × AV))
  | dL (f : Str → Option (List Str))
  | ob (o : Obj)
  | own (P : Obj → Prop)
  | lA (l : List AV)

noncomputable def Ent.At (prog : Program) (w : World) (h : Heap) (a : Addr) : Ent → Prop
  | .lS ys => ∃ vs : List PySem.Value, h.PlainList a vs.toArray ∧ StrsAre vs ys
  | .lI ns => ∃ vs : List PySem.Value, h.PlainList a vs.toArray ∧ IntsAre vs ns
  | .tS ys => ∃ vs : List PySem.Value, IsTup h a vs.toArray ∧ StrsAre vs ys
  | .tI ns => ∃ vs : List PySem.Value, IsTup h a vs.toArray ∧ IntsAre vs ns
  | .ce v => ∃ v', h.IsCell a v' ∧ optIs v v'
  | .nm m => ∃ m', h.Ns a m' ∧ ∀ p ∈ m, ∃ v, m' p.1 = some v ∧ p.2.Is v
  | .ob o => h.get? a = some o
  | .own P => ∃ o, h.get? a = some o ∧ P o ∧ ∀ its n, o.data ≠ .seq its n
  | .lA l => ∃ vs : List PySem.Value, h.PlainList a vs.toArray ∧ Paired AV.Is l vs
  | .dL f => ∃ g, h.MapOf (strKind prog w) a g ∧ ∀ k ys, f k = some ys → ∃ l, g k = some (.ref l) ∧ ∃ vs : List PySem.Value, h.PlainList l vs.toArray ∧ StrsAre vs ys

noncomputable def Up (h h' : Heap) : Prop := ∀ b o, h.get? b = some o → h'.get? b = some o
theorem Up.refl (h : Heap) : Up h h := fun _ _ e => e
theorem Up.trans {a b c : Heap} (x : Up a b) (y : Up b c) : Up a c := fun _ _ e => y _ _ (x _ _ e)

noncomputable def Ent.isDol : Ent → Bool
  | .dL _ => true
  | _ => false

section
variable {prog : Program} {w : World}

theorem mapOf_at {h h' : Heap} {a : Addr} {f : Str → Option PySem.Value} (x : h.MapOf (strKind prog w) a f) (k : ∀ o, h.get? a = some o → h'.get? a = some o) : h'.MapOf (strKind prog w) a f := by
  obtain ⟨o, es, ep, ho, r⟩ := x; exact ⟨o, es, ep, k o ho, r⟩

theorem Ent.At.up {h h' : Heap} {a : Addr} {e : Ent} (k : Up h h') (x : e.At prog w h a) : e.At prog w h' a := by
  cases e with
  | lS ys => obtain ⟨vs, x, y⟩ := x; exact ⟨vs, x.at (k _), y⟩
  | lI ns => obtain ⟨vs, x, y⟩ := x; exact ⟨vs, x.at (k _), y⟩
  | tS ys => obtain ⟨vs, x, y⟩ := x; exact ⟨vs, x.keeps k, y⟩
  | tI ns => obtain ⟨vs, x, y⟩ := x; exact ⟨vs, x.keeps k, y⟩
  | ce v => obtain ⟨v', x, y⟩ := x; exact ⟨v', x.keeps k, y⟩
  | nm m => obtain ⟨m', x, y⟩ := x; exact ⟨m', x.keeps k, y⟩
  | ob o => exact k _ _ x
  | own P => obtain ⟨o, x, y⟩ := x; exact ⟨o, k _ _ x, y⟩
  | lA l => obtain ⟨vs, x, y⟩ := x; exact ⟨vs, x.at (k _), y⟩
  | dL f =>
    obtain ⟨g, x, y⟩ := x
    refine ⟨g, mapOf_at x (k _), fun k' ys e => ?_⟩
    obtain ⟨l, e1, vs, e2, e3⟩ := y k' ys e
    exact ⟨l, e1, vs, e2.at (k _), e3⟩

theorem Ent.At.but {h h' : Heap} {a c : Addr} {e : Ent} (k : Heap.ExtBut c h h') (hac : a ≠ c) (ht : ∀ t its, IsTup h t its → t ≠ c) (hl : e.isDol = false ∨ ∀ l its, h.PlainList l its → l ≠ c) (x : e.At prog w h a) : e.At prog w h' a := by
  cases e with
  | lS ys => obtain ⟨vs, x, y⟩ := x; exact ⟨vs, x.extBut k hac, y⟩
  | lI ns => obtain ⟨vs, x, y⟩ := x; exact ⟨vs, x.extBut k hac, y⟩
  | tS ys => obtain ⟨vs, x, y⟩ := x; exact ⟨vs, x.extBut k hac, y⟩
  | tI ns => obtain ⟨vs, x, y⟩ := x; exact ⟨vs, x.extBut k hac, y⟩
  | ce v => obtain ⟨v', ⟨o, ho, hd⟩, y⟩ := x; exact ⟨v', ⟨o, k _ o hac ho, hd⟩, y⟩
  | nm m => obtain ⟨m', x, y⟩ := x; exact ⟨m', x.extBut k hac, y⟩
  | ob o => exact k _ _ hac x
  | own P => obtain ⟨o, x, y⟩ := x; exact ⟨o, k _ _ hac x, y⟩
  | lA l => obtain ⟨vs, x, y⟩ := x; exact ⟨vs, x.extBut k hac, y⟩
  | dL f =>
    obtain ⟨g, x, y⟩ := x
    refine ⟨g, mapOf_at x (fun o e => k _ o hac e), fun k' ys e => ?_⟩
    obtain ⟨l, e1, vs, e2, e3⟩ := y k' ys e
    have hl := hl.resolve_left fun q => Bool.noConfusion (show true = false from q)
    exact ⟨l, e1, vs, e2.extBut k (hl _ _ e2), e3⟩

theorem Ent.At.there {h : Heap} {a : Addr} {e : Ent} (x : e.At prog w h a) : ∃ o, h.get? a = some o := by
  cases e with
  | lS ys => obtain ⟨vs, ⟨n, x⟩, y⟩ := x; exact ⟨_, x⟩
  | lI ns => obtain ⟨vs, ⟨n, x⟩, y⟩ := x; exact ⟨_, x⟩
  | tS ys => obtain ⟨vs, ⟨o, x, _⟩, y⟩ := x; exact ⟨_, x⟩
  | tI ns => obtain ⟨vs, ⟨o, x, _⟩, y⟩ := x; exact ⟨_, x⟩
  | ce v => obtain ⟨v', ⟨o, x, _⟩, y⟩ := x; exact ⟨_, x⟩
  | nm m => obtain ⟨m', ⟨o, _, _, x, _⟩, y⟩ := x; exact ⟨_, x⟩
  | ob o => exact ⟨_, x⟩
  | own P => obtain ⟨o, x, y⟩ := x; exact ⟨_, x⟩
  | lA l => obtain ⟨vs, ⟨n, x⟩, y⟩ := x; exact ⟨_, x⟩
  | dL f => obtain ⟨g, ⟨o, es, ep, ho, _⟩, y⟩ := x; exact ⟨_, ho⟩
theorem Ent.At.lt {h : Heap} {a : Addr} {e : Ent} (x : e.At prog w h a) : a < h.objs.size := x.there.elim fun _ ho => Heap.lt_size ho

/- a soft place: a namespace or a cell; no list, no tuple lies there -/
theorem ns_noTup {h : Heap} {c : Addr} {m} (x : h.Ns c m) : ∀ t its, IsTup h t its → t ≠ c := by
  rintro t its ⟨o, ho, _, n, hd⟩ rfl
  obtain ⟨o', es, ep, ho', hd', _⟩ := x
  rw [ho] at ho'; cases ho'; rw [hd] at hd'; cases hd'
theorem ns_noList {h : Heap} {c : Addr} {m} (x : h.Ns c m) : ∀ t its, h.PlainList t its → t ≠ c := by
  rintro t its ⟨n, ho⟩ rfl
  obtain ⟨o', es, ep, ho', hd', _⟩ := x
  rw [ho] at ho'; cases ho'; cases hd'
theorem cell_noTup {h : Heap} {c : Addr} {v} (x : h.IsCell c v) : ∀ t its, IsTup h t its → t ≠ c := by
  rintro t its ⟨o, ho, _, n, hd⟩ rfl
  obtain ⟨o', ho', hd'⟩ := x
  rw [ho] at ho'; cases ho'; rw [hd] at hd'; cases hd'
theorem cell_noList {h : Heap} {c : Addr} {v} (x : h.IsCell c v) : ∀ t its, h.PlainList t its → t ≠ c := by
  rintro t its ⟨n, ho⟩ rfl
  obtain ⟨o', ho', hd'⟩ := x
  rw [ho] at ho'; cases ho'; cases hd'
theorem list_noTup {h : Heap} {c : Addr} {its'} (x : h.PlainList c its') : ∀ t its, IsTup h t its → t ≠ c := by
  rintro t its ⟨o, ho, hc, _⟩ rfl
  obtain ⟨n, ho'⟩ := x
  rw [ho] at ho'; cases ho'; simp at hc

theorem own_noTup {h : Heap} {c : Addr} {P} (x : (Ent.own P).At prog w h c) : ∀ t its, IsTup h t its → t ≠ c := by
  rintro t its ⟨o, ho, _, n, hd⟩ rfl
  obtain ⟨o', ho', _, q⟩ := x
  rw [ho] at ho'; cases ho'; exact q _ _ hd
theorem own_noList {h : Heap} {c : Addr} {P} (x : (Ent.own P).At prog w h c) : ∀ t its, h.PlainList t its → t ≠ c := by
  rintro t its ⟨n, ho⟩ rfl
  obtain ⟨o', ho', _, q⟩ := x
  rw [ho] at ho'; cases ho'; exact q _ _ rfl

noncomputable abbrev Led := List (Addr × Ent)

noncomputable def Has (prog : Program) (w : World) (G : Led) (h : Heap) : Prop := ∀ p ∈ G, p.2.At prog w h p.1
theorem Has.up {G : Led} {h h' : Heap} (x : Has prog w G h) (k : Up h h') : Has prog w G h' := fun p hp => (x p hp).up k
theorem Has.nil {h : Heap} : Has prog w [] h := fun _ hp => absurd hp List.not_mem_nil
theorem Has.cons {G : Led} {h : Heap} {a : Addr} {e : Ent} (x : e.At prog w h a) (y : Has prog w G h) : Has prog w ((a, e) :: G) h := fun p hp => by
  rcases List.mem_cons.mp hp with rfl | hp
  · exact x
  · exact y p hp
theorem Has.append {G G' : Led} {h : Heap} (x : Has prog w G h) (y : Has prog w G' h) : Has prog w (G ++ G') h := fun p hp => (List.mem_append.mp hp).elim (x p) (y p)
end

/- what stands of the text's own objects -/
structure Gd (K : Frag) (h : Heap) : Prop where
  X : K.In h
  g : ∃ mg, h.Ns mainGlobals mg
  b : ∃ mb, h.Ns builtinsNs mb ∧ ∀ x : Str, x ≠ "__name__" → mb x = bootBuiltins x
  lim : h.NoLimit
theorem Gd.up {K : Frag} {h h' : Heap} (x : Gd K h) (k : Up h h') : Gd K h' where
  X := x.X.keeps k
  g := x.g.elim fun mg y => ⟨mg, y.keeps k⟩
  b := x.b.elim fun mb y => ⟨mb, y.1.keeps k, y.2⟩
  lim := x.lim.keeps k

inductive Res where
  | av (x : AV)
  | new (e : Ent)
noncomputable def Res.Is (prog : Program) (w : World) (h : Heap) (v : PySem.Value) : Res → Prop
  | .av x => x.Is v
  | .new e => ∃ a, v = .ref a ∧ e.At prog w h a
theorem Res.Is.up {prog : Program} {w : World} {h h' : Heap} {v : PySem.Value} {r : Res} (k : Up h h') (x : r.Is prog w h v) : r.Is prog w h' v := by
  cases r with
  | av x => exact x
  | new e => obtain ⟨a, rfl, x⟩ := x; exact ⟨a, rfl, x.up k⟩

/- all that stood stands; the rest of the state but the tokens is the same -/
structure Kp (s s' : Shared) : Prop where
  ex : ∃ h' tk, s' = { s with heap := h', toks := tk } ∧ Up s.heap h'
theorem Kp.up {s s' : Shared} (x : Kp s s') : Up s.heap s'.heap := by
  obtain ⟨h', tk, rfl, k⟩ := x.ex; exact k
theorem Kp.refl (s : Shared) : Kp s s := ⟨s.heap, s.toks, rfl, fun _ _ e => e⟩
theorem Kp.tok (s : Shared) (t : Nat) : Kp s { s with toks := t } := ⟨s.heap, t, rfl, fun _ _ e => e⟩
theorem Kp.tr {a b c : Shared} (x : Kp a b) (y : Kp b c) : Kp a c := by
  obtain ⟨h, t, rfl, k⟩ := x.ex
  obtain ⟨h', t', rfl, k'⟩ := y.ex
  exact ⟨h', t', rfl, fun b o e => k' b o (k b o e)⟩
theorem Kp.push (s : Shared) (o : Obj) : Kp s { s with heap := s.heap.push o } := ⟨_, s.toks, rfl, fun _ _ e => Heap.get?_push_of_some _ e⟩
theorem Kp.pushT (s : Shared) (o : Obj) (t : Nat) : Kp s { s with heap := s.heap.push o, toks := t } := ⟨_, t, rfl, fun _ _ e => Heap.get?_push_of_some _ e⟩
theorem Kp.keeps {s s' : Shared} (x : Kp s s') : Keeps s s' := x.ex
theorem Kp.of {s s' : Shared} (x : Keeps s s') : Kp s s' := ⟨x⟩

/- an expression that gives r and leaves all that stands as it stood -/
noncomputable def Ex (prog : Program) (w : World) (K : Frag) (A : Around) (env : Env) (F : Led) (e : PySem.Expr) (r : Res) : Prop :=
  ∀ (s : Shared) (E : PySem.Value → Shared → Prop) (Q : PySem.Value → Shared → Prop), Gd K s.heap → Has prog w F s.heap → (∀ v s', r.Is prog w s'.heap v → Kp s s' → Q v s') → wpAny (model prog w) A (eval e env) Q E s

/- a test that gives b and leaves all that stands as it stood -/
noncomputable def Tx (prog : Program) (w : World) (K : Frag) (A : Around) (env : Env) (F : Led) (e : PySem.Expr) (b : Bool) : Prop :=
  ∀ (s : Shared) (E : PySem.Value → Shared → Prop) (Q : Bool → Shared → Prop), Gd K s.heap → Has prog w F s.heap → (∀ s', Kp s s' → Q b s') → wpAny (model prog w) A (isTrue e env (eval e env)) Q E s

section
variable {prog : Program} {w : World} {K : Frag} {A : Around} {env : Env} {F : Led}

theorem Ex.local {x : Str} {pos : Pos} {L : Addr} {m : List (Str × AV)} {v : AV} (hm : (L, Ent.nm m) ∈ F) (hv : (x, v) ∈ m) (hL : env.locals = L := by rfl) (hk : env.scope.kind = .function := by rfl)
    (hl : env.kindOf x = some .local := by rfl) (hd : (x == ("__debug__" : Str)) = false := by decide) : Ex prog w K A env F (.Name x pos) (.av v) := by
  intro s E Q _ hF h
  obtain ⟨m', hn, hmm⟩ := hF _ hm
  obtain ⟨v', ev, hv'⟩ := hmm _ hv
  subst hL
  exact wpAny_Name (wpAny_loadName_local hk hl hn ev (h _ _ hv' (Kp.refl s))) hd

theorem Ex.cell {x : Str} {pos : Pos} {c : Addr} {v : AV} (hm : (c, Ent.ce (some v)) ∈ F) (hc : env.cells.lookup x = some c := by rfl) (hk : env.scope.kind = .function := by rfl)
    (hl : env.kindOf x = some .cell := by rfl) (hd : (x == ("__debug__" : Str)) = false := by decide) : Ex prog w K A env F (.Name x pos) (.av v) := by
  intro s E Q _ hF h
  obtain ⟨v', hc', hv'⟩ := hF _ hm
  obtain ⟨v'', rfl, hv''⟩ := hv'.some
  exact wpAny_Name (wpAny_loadName_cell hk hl hc hc' (h _ _ hv'' (Kp.refl s))) hd

theorem Ex.free {x : Str} {pos : Pos} {c : Addr} {v : AV} (hm : (c, Ent.ce (some v)) ∈ F) (hc : env.cells.lookup x = some c := by rfl) (hk : env.scope.kind = .function := by rfl)
    (hl : env.kindOf x = some .free := by rfl) (hd : (x == ("__debug__" : Str)) = false := by decide) (hn : (x == ("__classdict__" : Str)) = false := by decide) : Ex prog w K A env F (.Name x pos) (.av v) := by
  intro s E Q _ hF h
  obtain ⟨v', hc', hv'⟩ := hF _ hm
  obtain ⟨v'', rfl, hv''⟩ := hv'.some
  exact wpAny_Name (wpAny_loadName_free hk hl hc hc' (h _ _ hv'' (Kp.refl s)) hn) hd

theorem Ex.glob {x : Str} {pos : Pos} {v : PySem.Value} {r : AV} (e : nsIn K mainGlobals x = some (some v)) (hr : r.Is v) (hg : env.globals = mainGlobals := by rfl) (hk : env.scope.kind = .function := by rfl)
    (hx : env.kindOf x = some .globalImplicit := by rfl) (hd : (x == ("__debug__" : Str)) = false := by decide) : Ex prog w K A env F (.Name x pos) (.av r) := by
  intro s E Q G _ h
  obtain ⟨mg, hn⟩ := G.g
  exact Name_function_global hk hx (loadGlobal_global (hg ▸ hn) (mg_of G.X hn e) (h _ _ hr (Kp.refl s))) hd

theorem Ex.blt {x : Str} {pos : Pos} {v : PySem.Value} {r : AV} (e : nsIn K mainGlobals x = some none) (hv : bootBuiltins x = some v) (hr : r.Is v) (hn : x ≠ "__name__" := by decide) (hg : env.globals = mainGlobals := by rfl) (hb : env.builtins = builtinsNs := by rfl)
    (hk : env.scope.kind = .function := by rfl) (hx : env.kindOf x = some .globalImplicit := by rfl) (hd : (x == ("__debug__" : Str)) = false := by decide) : Ex prog w K A env F (.Name x pos) (.av r) := by
  intro s E Q G _ h
  obtain ⟨mg, hng⟩ := G.g
  obtain ⟨mb, hnb, hb'⟩ := G.b
  exact Name_function_global hk hx (loadGlobal_builtin (hg ▸ hng) (mg_none_of G.X hng e) (hb ▸ hnb) ((hb' x hn).trans hv) (h _ _ hr (Kp.refl s))) hd

theorem Ex.int {i : Int} {k : Nat} {pos : Pos} : Ex prog w K A env F (.Constant (.int i) k pos) (.av (.int i)) := by
  intro s E Q _ _ h
  exact wpAny_Constant_int (h _ _ ⟨_, rfl⟩ (Kp.tok s _))
theorem Ex.str {x : Str} {k : Nat} {pos : Pos} : Ex prog w K A env F (.Constant (.str x) k pos) (.av (.str x)) := by
  intro s E Q _ _ h
  exact wpAny_Constant_str (h _ _ ⟨_, rfl⟩ (Kp.tok s _))

/- two parts, one after the other -/
theorem Ex.two {l r : PySem.Expr} {a b : Res} (hl : Ex prog w K A env F l a) (hr : Ex prog w K A env F r b) {s : Shared} {E : PySem.Value → Shared → Prop} {Q : PySem.Value → PySem.Value → Shared → Prop} (G : Gd K s.heap) (H : Has prog w F s.heap)
    (h : ∀ v u s', a.Is prog w s'.heap v → b.Is prog w s'.heap u → Kp s s' → Q v u s') : wpAny (model prog w) A (eval l env) (fun v s₁ => wpAny (model prog w) A (eval r env) (fun u s₂ => Q v u s₂) E s₁) E s := by
  refine hl s E _ G H fun v s₁ hv k₁ => ?_
  refine hr s₁ E _ (G.up k₁.up) (H.up k₁.up) fun u s₂ hu k₂ => ?_
  exact h v u s₂ (hv.up k₂.up) hu (k₁.tr k₂)

theorem Ex.bin {l r : PySem.Expr} {op : Operator} {pos : Pos} {a b : Res} {c : Res} (hl : Ex prog w K A env F l a) (hr : Ex prog w K A env F r b)
    (hop : ∀ (v u : PySem.Value) (s : Shared) (E : PySem.Value → Shared → Prop) (Q : PySem.Value → Shared → Prop), a.Is prog w s.heap v → b.Is prog w s.heap u → Gd K s.heap → Has prog w F s.heap → (∀ v' s', c.Is prog w s'.heap v' → Kp s s' → Q v' s') → wpAny (model prog w) A (binaryOp op v u) Q E s) :
    Ex prog w K A env F (.BinOp l op r pos) c := by
  intro s E Q G H h
  refine wpAny_BinOp (Ex.two hl hr G H fun v u s' hv hu k => ?_)
  exact hop v u s' E Q hv hu (G.up k.up) (H.up k.up) fun v' s'' hv' k' => h v' s'' hv' (k.tr k')

theorem Ex.cmp {l r : PySem.Expr} {op : CmpOp} {pos : Pos} {a b : Res} {c : Bool} (hl : Ex prog w K A env F l a) (hr : Ex prog w K A env F r b)
    (hop : ∀ (v u : PySem.Value) (s : Shared) (E : PySem.Value → Shared → Prop) (Q : PySem.Value → Shared → Prop), a.Is prog w s.heap v → b.Is prog w s.heap u → Gd K s.heap → Has prog w F s.heap → (∀ s', Kp s s' → Q (.bool c) s') → wpAny (model prog w) A (compareOp op v u) Q E s)
    (hm : behindInMarks op r = false := by with_unfolding_all rfl) : Ex prog w K A env F (.Compare l [op] [r] pos) (.av (.bool c)) := by
  intro s E Q G H h
  refine wpAny_Compare1 (Ex.two hl hr G H fun v u s' hv hu k => ?_) hm
  exact hop v u s' E Q hv hu (G.up k.up) (H.up k.up) fun s'' k' => h _ s'' rfl (k.tr k')

theorem Tx.cmp {l r : PySem.Expr} {op : CmpOp} {pos : Pos} {a b : Res} {c : Bool} (hl : Ex prog w K A env F l a) (hr : Ex prog w K A env F r b)
    (hop : ∀ (v u : PySem.Value) (s : Shared) (E : PySem.Value → Shared → Prop) (Q : PySem.Value → Shared → Prop), a.Is prog w s.heap v → b.Is prog w s.heap u → Gd K s.heap → Has prog w F s.heap → (∀ s', Kp s s' → Q (.bool c) s') → wpAny (model prog w) A (compareOp op v u) Q E s)
    (hm : behindInMarks op r = false := by with_unfolding_all rfl) : Tx prog w K A env F (.Compare l [op] [r] pos) c := by
  intro s E Q G H h
  refine wpAny_isTrue_Compare1 (Ex.two hl hr G H fun v u s' hv hu k => ?_) hm
  exact hop v u s' E _ hv hu (G.up k.up) (H.up k.up) fun s'' k' => wpAny_truthy_bool (h s'' (k.tr k'))

theorem Tx.and_nil : ∀ (s : Shared) (E : PySem.Value → Shared → Prop) (Q : Bool → Shared → Prop), (∀ s', Kp s s' → Q true s') → wpAny (model prog w) A (allTrue .And [] env) Q E s :=
  fun s _ _ h => wpAny_allTrue_And_nil (h s (Kp.refl s))

/- all of several tests, in order -/
noncomputable def Ax (prog : Program) (w : World) (K : Frag) (A : Around) (env : Env) (F : Led) (es : List PySem.Expr) (b : Bool) : Prop :=
  ∀ (s : Shared) (E : PySem.Value → Shared → Prop) (Q : Bool → Shared → Prop), Gd K s.heap → Has prog w F s.heap → (∀ s', Kp s s' → Q b s') → wpAny (model prog w) A (allTrue .And es env) Q E s
theorem Ax.nil : Ax prog w K A env F [] true := fun s _ _ _ _ h => wpAny_allTrue_And_nil (h s (Kp.refl s))
theorem Ax.cons {e : PySem.Expr} {es : List PySem.Expr} {b c : Bool} (he : Tx prog w K A env F e b) (hs : b = true → Ax prog w K A env F es c) : Ax prog w K A env F (e :: es) (b && c) := by
  intro s E Q G H h
  refine wpAny_allTrue_And_cons (he s E _ G H fun s₁ k₁ => ?_)
  cases b with
  | true => exact hs rfl s₁ E Q (G.up k₁.up) (H.up k₁.up) fun s₂ k₂ => h s₂ (k₁.tr k₂)
  | false => exact h s₁ k₁
theorem Tx.and {es : List PySem.Expr} {pos : Pos} {b : Bool} (h : Ax prog w K A env F es b) : Tx prog w K A env F (.BoolOp .And es pos) b := fun s E Q G H q => wpAny_isTrue_BoolOp (h s E Q G H q)
end

/- a name's value set -/
noncomputable def setAl (x : Str) (v : AV) (m : List (Str × AV)) : List (Str × AV) := (x, v) :: m.filter fun p => p.1 != x

/- the state within a def's body: what stood at the call stands; G: what the body has made and keeps -/
structure St (prog : Program) (w : World) (s₀ : Shared) (G : Led) (s : Shared) : Prop where
  kp : Kp s₀ s
  has : Has prog w G s.heap
  fresh : ∀ p ∈ G, s₀.heap.get? p.1 = none
  nd : (G.map (·.1)).Nodup

section
variable {prog : Program} {w : World} {s₀ s s' : Shared} {G : Led}
theorem St.keep (S : St prog w s₀ G s) (k : Kp s s') : St prog w s₀ G s' := ⟨S.kp.tr k, S.has.up k.up, S.fresh, S.nd⟩
theorem St.all {F : Led} (S : St prog w s₀ G s) (hF : Has prog w F s₀.heap) : Has prog w (G ++ F) s.heap := S.has.append (hF.up S.kp.up)
theorem St.gd {K : Frag} (S : St prog w s₀ G s) (D : Gd K s₀.heap) : Gd K s.heap := D.up S.kp.up
theorem St.perm {G' : Led} (S : St prog w s₀ G s) (p : G'.Perm G) : St prog w s₀ G' s :=
  ⟨S.kp, fun x hx => S.has x (p.mem_iff.mp hx), fun x hx => S.fresh x (p.mem_iff.mp hx), (p.map (·.1)).nodup_iff.mpr S.nd⟩
theorem St.drop {G' : Led} (S : St prog w s₀ G s) (p : G'.Sublist G) : St prog w s₀ G' s :=
  ⟨S.kp, fun x hx => S.has x (p.subset hx), fun x hx => S.fresh x (p.subset hx), (p.map (·.1)).nodup S.nd⟩

/- something new onto the ledger: made behind s, where s stands as S says -/
theorem St.add {a : Addr} {e : Ent} (S : St prog w s₀ G s) (k : Kp s s') (hn : s.heap.get? a = none) (he : e.At prog w s'.heap a) : St prog w s₀ ((a, e) :: G) s' := by
  have f : ∀ p ∈ G, p.1 ≠ a := fun p hp q => by
    obtain ⟨o, ho⟩ := (S.has p hp).there
    rw [q, hn] at ho; cases ho
  refine ⟨S.kp.tr k, (S.has.up k.up).cons he, fun p hp => ?_, ?_⟩
  · rcases List.mem_cons.mp hp with rfl | hp
    · cases q : s₀.heap.get? a with
      | none => rfl
      | some o => have := S.kp.up a o q; rw [hn] at this; cases this
    · exact S.fresh p hp
  · rw [List.map_cons, List.nodup_cons]
    refine ⟨fun hm => ?_, S.nd⟩
    obtain ⟨p, hp, e⟩ := List.mem_map.mp hm
    exact f p hp e

/- one soft entry changed -/
theorem St.soft {a : Addr} {e e' : Ent} {h' : Heap} {tk : Nat} (S : St prog w s₀ ((a, e) :: G) s) (hs : Heap.SameBut a s.heap h') (he : e'.At prog w h' a) (ht : ∀ t its, IsTup s.heap t its → t ≠ a) (hl : ∀ l its, s.heap.PlainList l its → l ≠ a) :
    St prog w s₀ ((a, e') :: G) { s with heap := h', toks := tk } := by
  have nd := S.nd
  rw [List.map_cons, List.nodup_cons] at nd
  have ha := S.fresh _ (List.mem_cons_self)
  obtain ⟨h₁, t₁, es, k⟩ := S.kp.ex
  refine ⟨⟨h', tk, by rw [es], fun b o q => ?_⟩, fun p hp => ?_, fun p hp => ?_, ?_⟩
  · refine hs.extBut b o (fun z => ?_) (S.kp.up b o q)
    subst z; rw [ha] at q; cases q
  · rcases List.mem_cons.mp hp with rfl | hp
    · exact he
    · exact (S.has p (List.mem_cons_of_mem _ hp)).but hs.extBut (fun z => nd.1 (by have q := List.mem_map_of_mem (f := Prod.fst) hp; rw [z] at q; exact q)) ht (.inr hl)
  · rcases List.mem_cons.mp hp with rfl | hp
    · exact ha
    · exact S.fresh p (List.mem_cons_of_mem _ hp)
  · rw [List.map_cons, List.nodup_cons]; exact nd

/- a list changed -/
theorem St.list {a : Addr} {e e' : Ent} {h' : Heap} {tk : Nat} {its : Array PySem.Value} (S : St prog w s₀ ((a, e) :: G) s) (hp : s.heap.PlainList a its) (hs : Heap.SameBut a s.heap h') (he : e'.At prog w h' a) (hd : ∀ p ∈ G, p.2.isDol = false) :
    St prog w s₀ ((a, e') :: G) { s with heap := h', toks := tk } := by
  have nd := S.nd
  rw [List.map_cons, List.nodup_cons] at nd
  have ha := S.fresh _ (List.mem_cons_self)
  obtain ⟨h₁, t₁, es, k⟩ := S.kp.ex
  refine ⟨⟨h', tk, by rw [es], fun b o q => ?_⟩, fun p hp => ?_, fun p hp => ?_, ?_⟩
  · refine hs.extBut b o (fun z => ?_) (S.kp.up b o q)
    subst z; rw [ha] at q; cases q
  · rcases List.mem_cons.mp hp with rfl | hp
    · exact he
    · exact (S.has p (List.mem_cons_of_mem _ hp)).but hs.extBut (fun z => nd.1 (by have q := List.mem_map_of_mem (f := Prod.fst) hp; rw [z] at q; exact q)) (list_noTup ‹_›) (.inl (hd p hp))
  · rcases List.mem_cons.mp hp with rfl | hp
    · exact ha
    · exact S.fresh p (List.mem_cons_of_mem _ hp)
  · rw [List.map_cons, List.nodup_cons]; exact nd

/- one soft entry let go -/
theorem St.gone {a : Addr} {e : Ent} {h' : Heap} {tk : Nat} (S : St prog w s₀ ((a, e) :: G) s) (hs : Heap.ExtBut a s.heap h') (ht : ∀ t its, IsTup s.heap t its → t ≠ a) (hl : ∀ l its, s.heap.PlainList l its → l ≠ a) :
    St prog w s₀ G { s with heap := h', toks := tk } := by
  have nd := S.nd
  rw [List.map_cons, List.nodup_cons] at nd
  have ha := S.fresh _ (List.mem_cons_self)
  obtain ⟨h₁, t₁, es, k⟩ := S.kp.ex
  refine ⟨⟨h', tk, by rw [es], fun b o q => ?_⟩, fun p hp => ?_, fun p hp => S.fresh p (List.mem_cons_of_mem _ hp), nd.2⟩
  · refine hs b o (fun z => ?_) (S.kp.up b o q)
    subst z; rw [ha] at q; cases q
  · exact (S.has p (List.mem_cons_of_mem _ hp)).but hs (fun z => nd.1 (by have q := List.mem_map_of_mem (f := Prod.fst) hp; rw [z] at q; exact q)) ht (.inr hl)

variable {A : Around} {env : Env} {M : Model} {E : PySem.Value → Shared → Prop} {Q : Unit → Shared → Prop}
theorem St.store {L : Addr} {m : List (Str × AV)} {x : Str} {v : PySem.Value} {av : AV} (S : St prog w s₀ ((L, .nm m) :: G) s) (hv : av.Is v) (h : ∀ s', St prog w s₀ ((L, .nm (setAl x av m)) :: G) s' → Q () s')
    (hL : env.locals = L := by rfl) (hl : env.kindOf x = some .local := by rfl) (hp : (env.scope.kind == .class || (env.scope.kind == .module && env.locals != env.globals)) = false := by rfl) : wpAny M A (storeName env x v) Q E s := by
  subst hL
  obtain ⟨m', hn, hm⟩ := S.has _ (List.mem_cons_self)
  refine wpAny_storeName_local hl hn (fun h' hn' hs => h _ (S.soft hs ⟨_, hn', fun p hp => ?_⟩ (ns_noTup hn) (ns_noList hn))) hp
  rcases List.mem_cons.mp hp with rfl | hp
  · exact ⟨v, if_pos rfl, hv⟩
  · have z := List.mem_filter.mp hp
    obtain ⟨u, e, hu⟩ := hm p z.1
    exact ⟨u, by rw [if_neg (by simpa using z.2)]; exact e, hu⟩

theorem St.storeC {L c : Addr} {v₀ : Option AV} {x : Str} {v : PySem.Value} {av : AV} (S : St prog w s₀ ((c, .ce v₀) :: G) s) (hv : av.Is v) (h : ∀ s', St prog w s₀ ((c, .ce (some av)) :: G) s' → Q () s')
    (hk : env.scope.kind = .function := by rfl) (hl : env.kindOf x = some .cell := by rfl) (hc : env.cells.lookup x = some c := by rfl) : wpAny M A (storeName env x v) Q E s := by
  obtain ⟨v', hn, hm⟩ := S.has _ (List.mem_cons_self)
  exact wpAny_storeName_cell hk hl hc hn fun h' hc' hs => h _ (S.soft (tk := s.toks) hs ⟨_, hc', hv⟩ (cell_noTup hn) (cell_noList hn))
end
end Mine

-- B2
namespace Mine
open PySem PySem.Calls PyProof.Rows PySem.W

section
variable {prog : Program} {w : World} {K : Frag} {A : Around} {env : Env} {F : Led} {l r : PySem.Expr} {pos : Pos} {a b : Int}

theorem Ex.addI (hl : Ex prog w K A env F l (.av (.int a))) (hr : Ex prog w K A env F r (.av (.int b))) : Ex prog w K A env F (.BinOp l .Add r pos) (.av (.int (a + b))) :=
  Ex.bin hl hr fun v u s E Q ⟨t, hv⟩ ⟨t', hu⟩ _ _ h => by subst hv hu; exact add_int (h _ _ ⟨_, rfl⟩ (Kp.tok s _))
theorem Ex.subI (hl : Ex prog w K A env F l (.av (.int a))) (hr : Ex prog w K A env F r (.av (.int b))) : Ex prog w K A env F (.BinOp l .Sub r pos) (.av (.int (a - b))) :=
  Ex.bin hl hr fun v u s E Q ⟨t, hv⟩ ⟨t', hu⟩ _ _ h => by subst hv hu; exact sub_int (h _ _ ⟨_, rfl⟩ (Kp.tok s _))
theorem Ex.mulI (hl : Ex prog w K A env F l (.av (.int a))) (hr : Ex prog w K A env F r (.av (.int b))) (hm : IntMulOk a b := by mul_fits) : Ex prog w K A env F (.BinOp l .Mult r pos) (.av (.int (a * b))) :=
  Ex.bin hl hr fun v u s E Q ⟨t, hv⟩ ⟨t', hu⟩ _ _ h => by subst hv hu; exact mul_int (h _ _ ⟨_, rfl⟩ (Kp.tok s _)) hm
theorem Ex.divI (hl : Ex prog w K A env F l (.av (.int a))) (hr : Ex prog w K A env F r (.av (.int b))) (hb : b ≠ 0) (hs : b.natAbs < 1073741824) : Ex prog w K A env F (.BinOp l .FloorDiv r pos) (.av (.int (a.fdiv b))) :=
  Ex.bin hl hr fun v u s E Q ⟨t, hv⟩ ⟨t', hu⟩ _ _ h => by subst hv hu; exact floordiv_int hb (h _ _ ⟨_, rfl⟩ (Kp.tok s _)) (Or.inl (PyProof.noPylong_small hs))
theorem Ex.modI (hl : Ex prog w K A env F l (.av (.int a))) (hr : Ex prog w K A env F r (.av (.int b))) (hb : b ≠ 0) : Ex prog w K A env F (.BinOp l .Mod r pos) (.av (.int (a.fmod b))) :=
  Ex.bin hl hr fun v u s E Q ⟨t, hv⟩ ⟨t', hu⟩ _ _ h => by subst hv hu; exact mod_int' hb (h _ _ ⟨_, rfl⟩ (Kp.tok s _))
theorem Ex.powI (hl : Ex prog w K A env F l (.av (.int a))) (hr : Ex prog w K A env F r (.av (.int b))) (h0 : 0 ≤ b) (h1 : b ≤ 1000000) (ha : a.natAbs < 2 ^ 64) : Ex prog w K A env F (.BinOp l .Pow r pos) (.av (.int (a ^ b.toNat))) :=
  Ex.bin hl hr fun v u s E Q ⟨t, hv⟩ ⟨t', hu⟩ _ _ h => by subst hv hu; exact pow_int_small h0 h1 ha (h _ _ ⟨_, rfl⟩ (Kp.tok s _))
theorem Ex.andI (hl : Ex prog w K A env F l (.av (.int a))) (hr : Ex prog w K A env F r (.av (.int b))) : Ex prog w K A env F (.BinOp l .BitAnd r pos) (.av (.int (Builtin.bitAnd a b))) :=
  Ex.bin hl hr fun v u s E Q ⟨t, hv⟩ ⟨t', hu⟩ _ _ h => by subst hv hu; exact and_int (h _ _ ⟨_, rfl⟩ (Kp.tok s _))
theorem Ex.orI (hl : Ex prog w K A env F l (.av (.int a))) (hr : Ex prog w K A env F r (.av (.int b))) : Ex prog w K A env F (.BinOp l .BitOr r pos) (.av (.int (Builtin.bitOr a b))) :=
  Ex.bin hl hr fun v u s E Q ⟨t, hv⟩ ⟨t', hu⟩ _ _ h => by subst hv hu; exact or_int (h _ _ ⟨_, rfl⟩ (Kp.tok s _))
theorem Ex.xorI (hl : Ex prog w K A env F l (.av (.int a))) (hr : Ex prog w K A env F r (.av (.int b))) : Ex prog w K A env F (.BinOp l .BitXor r pos) (.av (.int (Builtin.bitXor a b))) :=
  Ex.bin hl hr fun v u s E Q ⟨t, hv⟩ ⟨t', hu⟩ _ _ h => by subst hv hu; exact xor_int (h _ _ ⟨_, rfl⟩ (Kp.tok s _))
theorem Ex.shlI (hl : Ex prog w K A env F l (.av (.int a))) (hr : Ex prog w K A env F r (.av (.int b))) (h0 : 0 ≤ b) (h1 : b ≤ 1000000) (ha : a.natAbs < 2 ^ 64) : Ex prog w K A env F (.BinOp l .LShift r pos) (.av (.int (a * 2 ^ b.toNat))) :=
  Ex.bin hl hr fun v u s E Q ⟨t, hv⟩ ⟨t', hu⟩ _ _ h => by subst hv hu; exact lshift_int_small h0 h1 ha (h _ _ ⟨_, rfl⟩ (Kp.tok s _))

theorem shr_zero {a b : Int} (h0 : 0 ≤ b) (ha : 0 ≤ a) (h : b ≥ ((Builtin.Int.intBits a : Nat) : Int)) : a.fdiv (2 ^ b.toNat) = 0 := by
  rw [Int.fdiv_eq_ediv_of_nonneg _ (Int.le_of_lt (Int.pow_pos (by decide)))]
  refine Int.ediv_eq_zero_of_lt ha ?_
  unfold Builtin.Int.intBits at h
  by_cases hz : a = 0
  · subst hz; exact Int.pow_pos (by decide)
  · have hb : (a == 0) = false := by simpa using hz
    rw [hb] at h
    simp only [Bool.false_eq_true, if_false] at h
    have h2 := @Nat.lt_log2_self a.natAbs
    have h3 : a.natAbs.log2 + 1 ≤ b.toNat := by omega
    have h4 : a.natAbs < 2 ^ b.toNat := Nat.lt_of_lt_of_le h2 (Nat.pow_le_pow_right (by decide) h3)
    have h5 : ((2 ^ b.toNat : Nat) : Int) = (2 : Int) ^ b.toNat := by simp
    omega
theorem Ex.shrI (hl : Ex prog w K A env F l (.av (.int a))) (hr : Ex prog w K A env F r (.av (.int b))) (h0 : 0 ≤ b) (ha : 0 ≤ a) : Ex prog w K A env F (.BinOp l .RShift r pos) (.av (.int (a.fdiv (2 ^ b.toNat)))) :=
  Ex.bin hl hr fun v u s E Q ⟨t, hv⟩ ⟨t', hu⟩ _ _ h => by
    subst hv hu
    by_cases hc : b ≥ ((Builtin.Int.intBits a : Nat) : Int)
    · have e := shr_zero h0 ha hc
      rw [e] at h
      refine AutoIntOps.rshift_1 (by omega) hc ?_
      rw [if_neg (by omega)]
      exact h _ _ ⟨_, rfl⟩ (Kp.tok s _)
    · exact AutoIntOps.rshift_2 (by omega) hc (h _ _ ⟨_, rfl⟩ (Kp.tok s _))

theorem Ex.addS {x y : Str} (hl : Ex prog w K A env F l (.av (.str x))) (hr : Ex prog w K A env F r (.av (.str y))) (hsz : x.length + y.length ≤ sizeLine) : Ex prog w K A env F (.BinOp l .Add r pos) (.av (.str (x ++ y))) :=
  Ex.bin hl hr fun v u s E Q ⟨t, hv⟩ ⟨t', hu⟩ _ _ h => by subst hv hu; exact add_str (fun t' tk => h _ _ ⟨_, rfl⟩ (Kp.tok s _)) hsz

theorem Tx.eqI (hl : Ex prog w K A env F l (.av (.int a))) (hr : Ex prog w K A env F r (.av (.int b))) (hm : behindInMarks .Eq r = false := by rfl) : Tx prog w K A env F (.Compare l [.Eq] [r] pos) (a == b) :=
  Tx.cmp hl hr (fun v u s E Q ⟨t, hv⟩ ⟨t', hu⟩ _ _ h => by subst hv hu; exact eq_int (h s (Kp.refl s))) hm
theorem Tx.neI (hl : Ex prog w K A env F l (.av (.int a))) (hr : Ex prog w K A env F r (.av (.int b))) (hm : behindInMarks .NotEq r = false := by rfl) : Tx prog w K A env F (.Compare l [.NotEq] [r] pos) (a != b) :=
  Tx.cmp hl hr (fun v u s E Q ⟨t, hv⟩ ⟨t', hu⟩ _ _ h => by subst hv hu; exact ne_int (h s (Kp.refl s))) hm
theorem Tx.ltI (hl : Ex prog w K A env F l (.av (.int a))) (hr : Ex prog w K A env F r (.av (.int b))) (hm : behindInMarks .Lt r = false := by rfl) : Tx prog w K A env F (.Compare l [.Lt] [r] pos) (decide (a < b)) :=
  Tx.cmp hl hr (fun v u s E Q ⟨t, hv⟩ ⟨t', hu⟩ _ _ h => by subst hv hu; exact lt_int (h s (Kp.refl s))) hm
theorem Tx.eqS {x y : Str} (hl : Ex prog w K A env F l (.av (.str x))) (hr : Ex prog w K A env F r (.av (.str y))) (hm : behindInMarks .Eq r = false := by rfl) : Tx prog w K A env F (.Compare l [.Eq] [r] pos) (x == y) :=
  Tx.cmp hl hr (fun v u s E Q ⟨t, hv⟩ ⟨t', hu⟩ _ _ h => by subst hv hu; exact eq_str (h s (Kp.refl s))) hm
theorem list_beq_str (x y : Str) : (x.cps.toList == y.cps.toList) = (x == y) := by
  rw [Bool.eq_iff_iff, beq_iff_eq, beq_iff_eq]
  exact ⟨fun h => Str.ext' (Array.ext' h), fun h => by rw [h]⟩
theorem Tx.neS {x y : Str} (hl : Ex prog w K A env F l (.av (.str x))) (hr : Ex prog w K A env F r (.av (.str y))) (hm : behindInMarks .NotEq r = false := by rfl) : Tx prog w K A env F (.Compare l [.NotEq] [r] pos) (x != y) :=
  Tx.cmp hl hr (fun v u s E Q ⟨t, hv⟩ ⟨t', hu⟩ _ _ h => by
    subst hv hu
    refine P.ne_str ?_
    have e : (x.cps.toList != y.cps.toList) = (x != y) := by unfold bne; rw [list_beq_str]
    rw [e]; exact h s (Kp.refl s)) hm

theorem Tx.inL {x : Str} {ys : List Str} (hl : Ex prog w K A env F l (.av (.str x))) {c : Addr} (hr : Ex prog w K A env F r (.av (.ref c))) (hc : (c, Ent.lS ys) ∈ F)
    (hm : behindInMarks .In r = false := by with_unfolding_all rfl) : Tx prog w K A env F (.Compare l [.In] [r] pos) (ys.any (· == x)) :=
  Tx.cmp hl hr (fun v u s E Q ⟨t, hv⟩ hu _ H h => by
    subst hv; cases hu
    obtain ⟨vs, p, i⟩ := H _ hc
    exact in_list_strs p.isList i (h s (Kp.refl s))) hm
theorem Tx.notInL {x : Str} {ys : List Str} (hl : Ex prog w K A env F l (.av (.str x))) {c : Addr} (hr : Ex prog w K A env F r (.av (.ref c))) (hc : (c, Ent.lS ys) ∈ F)
    (hm : behindInMarks .NotIn r = false := by with_unfolding_all rfl) : Tx prog w K A env F (.Compare l [.NotIn] [r] pos) (!(ys.any (· == x))) :=
  Tx.cmp hl hr (fun v u s E Q ⟨t, hv⟩ hu _ H h => by
    subst hv; cases hu
    obtain ⟨vs, p, i⟩ := H _ hc
    exact notin_list_strs p.isList i (h s (Kp.refl s))) hm
/- in a list that the expression gives -/
theorem Tx.inN {x : Str} {ys : List Str} (hl : Ex prog w K A env F l (.av (.str x))) (hr : Ex prog w K A env F r (.new (.lS ys)))
    (hm : behindInMarks .In r = false := by with_unfolding_all rfl) : Tx prog w K A env F (.Compare l [.In] [r] pos) (ys.any (· == x)) :=
  Tx.cmp hl hr (fun v u s E Q ⟨t, hv⟩ hu _ H h => by
    subst hv
    obtain ⟨c, rfl, vs, p, i⟩ := hu
    exact in_list_strs p.isList i (h s (Kp.refl s))) hm
theorem Tx.inT {x : Str} {ys : List Str} (hl : Ex prog w K A env F l (.av (.str x))) (hr : Ex prog w K A env F r (.new (.tS ys)))
    (hm : behindInMarks .In r = false := by with_unfolding_all rfl) : Tx prog w K A env F (.Compare l [.In] [r] pos) (ys.any (· == x)) :=
  Tx.cmp hl hr (fun v u s E Q ⟨t, hv⟩ hu _ H h => by
    subst hv
    obtain ⟨c, rfl, vs, p, i⟩ := hu
    exact in_tuple_strs p (by simpa using i) (h s (Kp.refl s))) hm

/- two lists of ints compared -/
theorem Tx.eqLI {ns ms : List Int} (hu : A.units + 64 < cLine) (hl : Ex prog w K A env F l (.new (.lI ns))) (hr : Ex prog w K A env F r (.new (.lI ms))) (hm : behindInMarks .Eq r = false := by rfl) : Tx prog w K A env F (.Compare l [.Eq] [r] pos) (decide (ns = ms)) :=
  Tx.cmp hl hr (fun v u s E Q h1 h2 _ H h => by
    obtain ⟨c, rfl, vs, p, i⟩ := h1
    obtain ⟨c', rfl, vs', p', i'⟩ := h2
    exact eq_intsK p.isList i p'.isList i' hu (h s (Kp.refl s))) hm
theorem Ex.eqLI {ns ms : List Int} (hu : A.units + 64 < cLine) (hl : Ex prog w K A env F l (.new (.lI ns))) (hr : Ex prog w K A env F r (.new (.lI ms))) (hm : behindInMarks .Eq r = false := by rfl) : Ex prog w K A env F (.Compare l [.Eq] [r] pos) (.av (.bool (decide (ns = ms)))) :=
  Ex.cmp hl hr (fun v u s E Q h1 h2 _ H h => by
    obtain ⟨c, rfl, vs, p, i⟩ := h1
    obtain ⟨c', rfl, vs', p', i'⟩ := h2
    exact eq_intsK p.isList i p'.isList i' hu (h s (Kp.refl s))) hm

theorem readsAll_of_strs {h : Heap} : ∀ {vs : List PySem.Value} {ys : List Str}, StrsAre vs ys → ReadsAll h vs (ys.map PyData.str) [] :=
  strs_readAll h
end
end Mine

-- B3
namespace Mine
open PySem PySem.Calls PyProof.Rows PySem.W

theorem lt3 {P : Nat → Prop} {i : Nat} (h : i < 3) (h0 : P 0) (h1 : P 1) (h2 : P 2) : P i := by
  rcases (show i = 0 ∨ i = 1 ∨ i = 2 by omega) with rfl | rfl | rfl <;> assumption
theorem lt4 {P : Nat → Prop} {i : Nat} (h : i < 4) (h0 : P 0) (h1 : P 1) (h2 : P 2) (h3 : P 3) : P i := by
  rcases (show i < 3 ∨ i = 3 by omega) with h | rfl
  · exact lt3 h h0 h1 h2
  · exact h3
theorem lt6 {P : Nat → Prop} {i : Nat} (h : i < 6) (h0 : P 0) (h1 : P 1) (h2 : P 2) (h3 : P 3) (h4 : P 4) (h5 : P 5) : P i := by
  rcases (show i < 4 ∨ i = 4 ∨ i = 5 by omega) with h | rfl | rfl
  · exact lt4 h h0 h1 h2 h3
  · exact h4
  · exact h5

inductive Are (prog : Program) (w : World) (h : Heap) : List Res → List PySem.Value → Prop
  | nil : Are prog w h [] []
  | cons {r v rs vs} : r.Is prog w h v → Are prog w h rs vs → Are prog w h (r :: rs) (v :: vs)
theorem Are.one {prog : Program} {w : World} {h : Heap} {r : Res} {vs : List PySem.Value} (x : Are prog w h [r] vs) : ∃ v, vs = [v] ∧ r.Is prog w h v := by
  obtain _ | ⟨hv, x⟩ := x
  cases x
  exact ⟨_, rfl, hv⟩
theorem Are.two {prog : Program} {w : World} {h : Heap} {r r' : Res} {vs : List PySem.Value} (x : Are prog w h [r, r'] vs) : ∃ v u, vs = [v, u] ∧ r.Is prog w h v ∧ r'.Is prog w h u := by
  obtain _ | ⟨hv, x⟩ := x
  obtain ⟨u, rfl, hu⟩ := x.one
  exact ⟨_, u, rfl, hv, hu⟩
theorem len_one {α : Type} {l : List α} (h : l.length = 1) : ∃ x, l = [x] := List.length_eq_one_iff.mp h
theorem len_two {α : Type} {l : List α} (h : l.length = 2) : ∃ x y, l = [x, y] := by
  cases l with
  | nil => cases h
  | cons x l => obtain ⟨y, rfl⟩ := len_one (Nat.succ.inj h); exact ⟨x, y, rfl⟩
theorem len_three {α : Type} {l : List α} (h : l.length = 3) : ∃ x y z, l = [x, y, z] := by
  cases l with
  | nil => cases h
  | cons x l => obtain ⟨y, z, rfl⟩ := len_two (Nat.succ.inj h); exact ⟨x, y, z, rfl⟩
theorem Are.strs {prog : Program} {w : World} {h : Heap} {ys : List Str} : ∀ {vs : List PySem.Value}, Are prog w h (ys.map fun y => .av (.str y)) vs → StrsAre vs ys := by
  induction ys with
  | nil => intro vs x; cases x; exact .nil
  | cons y ys ih => intro vs x; obtain _ | ⟨⟨t, e⟩, r⟩ := x; subst e; exact .cons y t (ih r)
theorem Are.ints {prog : Program} {w : World} {h : Heap} {ys : List Int} : ∀ {vs : List PySem.Value}, Are prog w h (ys.map fun y => .av (.int y)) vs → IntsAre vs ys := by
  induction ys with
  | nil => intro vs x; cases x; exact .nil
  | cons y ys ih => intro vs x; obtain _ | ⟨⟨t, e⟩, r⟩ := x; subst e; exact .cons y t (ih r)
theorem Are.length {prog : Program} {w : World} {h : Heap} {rs vs} (x : Are prog w h rs vs) : vs.length = rs.length := by
  induction x with
  | nil => rfl
  | cons _ _ ih => exact congrArg (· + 1) ih

/- several expressions, one after the other -/
noncomputable def Sx (prog : Program) (w : World) (K : Frag) (A : Around) (env : Env) (F : Led) (es : List PySem.Expr) (rs : List Res) : Prop :=
  ∀ (pos : Pos) (s : Shared) (E : PySem.Value → Shared → Prop) (Q : List PySem.Value → Shared → Prop), Gd K s.heap → Has prog w F s.heap → (∀ vs s', Are prog w s'.heap rs vs → Kp s s' → Q vs s') → wpAny (model prog w) A (spliced (backTo pos (starEach es env))) Q E s

noncomputable def plainE (e : PySem.Expr) : Bool := e.ctorIdx != (PySem.Expr.Starred e default).ctorIdx
theorem star_plain {e : PySem.Expr} {es : List PySem.Expr} {env : Env} (h : plainE e = true) : starEach (e :: es) env = (false, eval e env) :: starEach es env := by
  cases e <;> first | rfl | exact nomatch h

section
variable {prog : Program} {w : World} {K : Frag} {A : Around} {env : Env} {F : Led}

theorem Sx.nil : Sx prog w K A env F [] [] := fun pos s E Q _ _ h => wpAny_items_nil (h [] s .nil (Kp.refl s))
theorem Sx.cons {e : PySem.Expr} {es : List PySem.Expr} {r : Res} {rs : List Res} (he : Ex prog w K A env F e r) (hs : Sx prog w K A env F es rs) (hp : plainE e = true := by rfl) : Sx prog w K A env F (e :: es) (r :: rs) := by
  intro pos s E Q G H h
  refine wpAny_items_cons (he s E _ G H fun v s₁ hv k₁ => ?_) (star_plain hp)
  exact hs pos s₁ E _ (G.up k₁.up) (H.up k₁.up) fun vs s₂ hvs k₂ => h _ s₂ (.cons (hv.up k₂.up) hvs) (k₁.tr k₂)

theorem Ex.tupS {es : List PySem.Expr} {k : Nat} {pos : Pos} {ys : List Str} (h : Sx prog w K A env F es (ys.map fun y => .av (.str y))) (hz : ys.length ≤ 64) : Ex prog w K A env F (.Tuple es k pos) (.new (.tS ys)) := by
  intro s E Q G H q
  refine wpAny_Tuple (h pos s E _ G H fun vs s₁ hvs k₁ => ?_)
  have hl := hvs.length
  rw [List.length_map] at hl
  refine ⟨by rw [hl]; exact ok_size (Nat.le_trans hz (by decide)), q _ _ ⟨_, rfl, vs, IsTup.new _ _, hvs.strs⟩ (k₁.tr (Kp.push s₁ _))⟩
theorem Ex.tupI {es : List PySem.Expr} {k : Nat} {pos : Pos} {ys : List Int} (h : Sx prog w K A env F es (ys.map fun y => .av (.int y))) (hz : ys.length ≤ 64) : Ex prog w K A env F (.Tuple es k pos) (.new (.tI ys)) := by
  intro s E Q G H q
  refine wpAny_Tuple (h pos s E _ G H fun vs s₁ hvs k₁ => ?_)
  have hl := hvs.length
  rw [List.length_map] at hl
  refine ⟨by rw [hl]; exact ok_size (Nat.le_trans hz (by decide)), q _ _ ⟨_, rfl, vs, IsTup.new _ _, hvs.ints⟩ (k₁.tr (Kp.push s₁ _))⟩
theorem Ex.nilS {pos : Pos} : Ex prog w K A env F (.List [] pos) (.new (.lS [])) := by
  intro s E Q G H q
  refine wpAny_List (wpAny_items_nil ⟨Nat.zero_le _, q _ _ ⟨_, rfl, [], ⟨0, Heap.get?_push_size _ rfl⟩, .nil⟩ (Kp.push s _)⟩)
theorem Ex.nilI {pos : Pos} : Ex prog w K A env F (.List [] pos) (.new (.lI [])) := by
  intro s E Q G H q
  refine wpAny_List (wpAny_items_nil ⟨Nat.zero_le _, q _ _ ⟨_, rfl, [], ⟨0, Heap.get?_push_size _ rfl⟩, .nil⟩ (Kp.push s _)⟩)

/- an item -/
theorem Ex.sub {value slice : PySem.Expr} {pos : Pos} {a b c : Res} (hv : Ex prog w K A env F value a) (hs : Ex prog w K A env F slice b)
    (hop : ∀ (v u : PySem.Value) (s : Shared) (E : PySem.Value → Shared → Prop) (Q : PySem.Value → Shared → Prop), a.Is prog w s.heap v → b.Is prog w s.heap u → Gd K s.heap → Has prog w F s.heap → (∀ v' s', c.Is prog w s'.heap v' → Kp s s' → Q v' s') → wpAny (model prog w) A (subscriptTail value slice v u) Q E s) :
    Ex prog w K A env F (.Subscript value slice pos) c := by
  intro s E Q G H h
  refine Subscript_ (Ex.two hv hs G H fun v u s' hv hu k => ?_)
  exact hop v u s' E Q hv hu (G.up k.up) (H.up k.up) fun v' s'' hv' k' => h v' s'' hv' (k.tr k')

noncomputable def plainI (e : PySem.Expr) : Bool := e.ctorIdx != (PySem.Expr.Slice none none none default).ctorIdx
theorem subd_plain {slice : PySem.Expr} (h : plainI slice = true) (o i : PySem.Value) : subscripted slice false o i = operate [o, i] (getItem o i) := by
  cases slice <;> first | rfl | exact nomatch h

theorem Ex.idxS {value slice : PySem.Expr} {pos : Pos} {x : Str} {i : Int} {c : Nat} (hv : Ex prog w K A env F value (.av (.str x))) (hs : Ex prog w K A env F slice (.av (.int i))) (h0 : 0 ≤ i) (hi : i < 1000) (hc : x.cps[i.toNat]? = some c)
    (hp : plainI slice = true := by rfl) : Ex prog w K A env F (.Subscript value slice pos) (.av (.str ⟨#[c]⟩)) :=
  Ex.sub hv hs fun v u s E Q ⟨t, hv⟩ ⟨t', hu⟩ _ _ h => by
    subst hv hu
    have hlt : i.toNat < x.cps.size := (Array.getElem?_eq_some_iff.mp hc).1
    refine tail_any (typeIs_str s x t) slot_str_getitem.lookup (P.getItem_str ?_ ?_ (h _ _ ⟨_, rfl⟩ (Kp.tok s _))) (subd_plain hp _ _)
    · rw [Bool.or_eq_false_iff]; exact ⟨decide_eq_false (by omega), decide_eq_false (by omega)⟩
    · rw [seqIndex_of h0 (show i < ((x.length : Nat) : Int) from (Int.toNat_lt h0).mp hlt)]; exact hc
theorem strsAt {vs : List PySem.Value} {ys : List Str} (h : StrsAre vs ys) {i : Int} {y : Str} (e : ys[i.toNat]? = some y) : ∃ t, vs.toArray[i.toNat]? = some (.str y t) := by
  obtain ⟨t, e'⟩ := h.at e; exact ⟨t, by simpa using e'⟩
theorem intsAt {vs : List PySem.Value} {ys : List Int} (h : IntsAre vs ys) {j : Nat} {y : Int} (e : ys[j]? = some y) : ∃ t, vs[j]? = some (.int y t) := h.get _ _ e

theorem Ex.idxLS {value slice : PySem.Expr} {pos : Pos} {c : Addr} {ys : List Str} {i : Int} {y : Str} (hv : Ex prog w K A env F value (.av (.ref c))) (hm : (c, Ent.lS ys) ∈ F) (hs : Ex prog w K A env F slice (.av (.int i))) (h0 : 0 ≤ i) (hi : i < 1000) (hc : ys[i.toNat]? = some y)
    (hp : plainI slice = true := by rfl) : Ex prog w K A env F (.Subscript value slice pos) (.av (.str y)) :=
  Ex.sub hv hs fun v u s E Q hv ⟨t', hu⟩ _ H h => by
    cases hv; subst hu
    obtain ⟨vs, p, q⟩ := H _ hm
    obtain ⟨t, e⟩ := strsAt q hc
    exact tail_any p.isList.typeIs slot_list_getitem.lookup (wpAny_getItem_list p.isList h0 (by omega) e (h _ _ ⟨_, rfl⟩ (Kp.refl s))) (subd_plain hp _ _)
theorem Ex.idxLI {value slice : PySem.Expr} {pos : Pos} {c : Addr} {ys : List Int} {i : Int} {y : Int} (hv : Ex prog w K A env F value (.av (.ref c))) (hm : (c, Ent.lI ys) ∈ F) (hs : Ex prog w K A env F slice (.av (.int i))) (h0 : 0 ≤ i) (hi : i < 100000) (hc : ys[i.toNat]? = some y)
    (hp : plainI slice = true := by rfl) : Ex prog w K A env F (.Subscript value slice pos) (.av (.int y)) :=
  Ex.sub hv hs fun v u s E Q hv ⟨t', hu⟩ _ H h => by
    cases hv; subst hu
    obtain ⟨vs, p, q⟩ := H _ hm
    obtain ⟨t, e⟩ := intsAt q hc
    exact tail_any p.isList.typeIs slot_list_getitem.lookup (wpAny_getItem_list p.isList h0 (by omega) (by simpa using e) (h _ _ ⟨_, rfl⟩ (Kp.refl s))) (subd_plain hp _ _)
/- an item of a tuple that the expression gives -/
theorem Ex.idxTS {value slice : PySem.Expr} {pos : Pos} {ys : List Str} {i : Int} {y : Str} (hv : Ex prog w K A env F value (.new (.tS ys))) (hs : Ex prog w K A env F slice (.av (.int i))) (h0 : 0 ≤ i) (hi : i < 1000) (hc : ys[i.toNat]? = some y)
    (hp : plainI slice = true := by rfl) : Ex prog w K A env F (.Subscript value slice pos) (.av (.str y)) :=
  Ex.sub hv hs fun v u s E Q hv ⟨t', hu⟩ _ H h => by
    subst hu
    obtain ⟨c, rfl, vs, p, q⟩ := hv
    obtain ⟨t, e⟩ := strsAt q hc
    have hlt : i.toNat < vs.length := by have := (Array.getElem?_eq_some_iff.mp e).1; simpa using this
    exact item_tupleT p (by omega) (by omega) (seqIndex_of h0 ((Int.toNat_lt h0).mp hlt)) (by simpa using e) (h _ _ ⟨_, rfl⟩ (Kp.refl s)) (subd_plain hp _ _)
theorem Ex.idxTI {value slice : PySem.Expr} {pos : Pos} {ys : List Int} {i : Int} {y : Int} (hv : Ex prog w K A env F value (.new (.tI ys))) (hs : Ex prog w K A env F slice (.av (.int i))) (h0 : 0 ≤ i) (hi : i < 1000) (hc : ys[i.toNat]? = some y)
    (hp : plainI slice = true := by rfl) : Ex prog w K A env F (.Subscript value slice pos) (.av (.int y)) :=
  Ex.sub hv hs fun v u s E Q hv ⟨t', hu⟩ _ H h => by
    subst hu
    obtain ⟨c, rfl, vs, p, q⟩ := hv
    obtain ⟨t, e⟩ := intsAt q hc
    have hlt : i.toNat < vs.length := (List.getElem?_eq_some_iff.mp e).1
    exact item_tupleT p (by omega) (by omega) (seqIndex_of h0 ((Int.toNat_lt h0).mp hlt)) e (h _ _ ⟨_, rfl⟩ (Kp.refl s)) (subd_plain hp _ _)
/- an item of the dict of lists -/
theorem Ex.idxD {value slice : PySem.Expr} {pos : Pos} {c : Addr} {f : Str → Option (List Str)} {x : Str} {ys : List Str} (hv : Ex prog w K A env F value (.av (.ref c))) (hm : (c, Ent.dL f) ∈ F) (hs : Ex prog w K A env F slice (.av (.str x))) (hc : f x = some ys)
    (hp : plainI slice = true := by rfl) : Ex prog w K A env F (.Subscript value slice pos) (.new (.lS ys)) :=
  Ex.sub hv hs fun v u s E Q hv ⟨t', hu⟩ _ H h => by
    cases hv; subst hu
    obtain ⟨g, p, q⟩ := H _ hm
    obtain ⟨l, e, vs, pl, sa⟩ := q x ys hc
    exact tail_any p.typeIs slot_dict_getitem.lookup (wpAny_getItem_of (strKind_is prog w x t') p e (h _ _ ⟨l, rfl, vs, pl, sa⟩ (Kp.tok s _))) (subd_plain hp _ _)

/- a call of a value by given arguments -/
noncomputable def Fx (prog : Program) (w : World) (K : Frag) (A : Around) (F : Led) (f : PySem.Value) (rs : List Res) (r : Res) : Prop :=
  ∀ (vs : List PySem.Value) (s : Shared) (E : PySem.Value → Shared → Prop) (Q : PySem.Value → Shared → Prop), Gd K s.heap → Has prog w F s.heap → Are prog w s.heap rs vs → (∀ v s', r.Is prog w s'.heap v → Kp s s' → Q v s') → wpAny (model prog w) A (call f vs) Q E s

noncomputable def fdD : Data → Option FuncData
  | .func fd => some fd
  | _ => none
noncomputable def fdOf (o : Option Obj) : Option FuncData := o.bind fun o => fdD o.data
theorem none_ne {α : Type} {a : α} {P : Prop} (e : (none : Option α) = some a) : P := (Option.some_ne_none a e.symm).elim
theorem fdD_some {d : Data} {fd : FuncData} (e : fdD d = some fd) : d = .func fd := by
  cases d <;> first | exact congrArg _ (Option.some.inj e) | exact none_ne e
noncomputable def isFunc (K : Frag) (f : Addr) : Bool := (fdOf (K.lookup f)).isSome
theorem isFunc_of {K : Frag} {f : Addr} {h : Heap} (X : K.In h) (e : isFunc K f = true) : ∃ o fd, h.get? f = some o ∧ o.data = .func fd := by
  obtain ⟨fd, e⟩ := Option.isSome_iff_exists.mp e
  obtain ⟨o, ho, e⟩ := Option.bind_eq_some_iff.mp e
  exact ⟨o, fd, X _ _ ho, fdD_some e⟩

theorem Ex.callF {x : Str} {p pos : Pos} {e : PySem.Expr} {es : List PySem.Expr} {f : Addr} {rs : List Res} {r : Res} (hf : Ex prog w K A env F (.Name x p) (.av (.ref f))) (hfn : isFunc K f = true) (ha : Sx prog w K A env F (e :: es) rs)
    (hc : Fx prog w K A F (.ref f) rs r) (hp : plainE e = true := by rfl) : Ex prog w K A env F (.Call (.Name x p) (e :: es) [] pos) r := by
  intro s E Q G H h
  refine Call_Name rfl (hf s E _ G H fun v s₁ hv k₁ => ?_)
  cases hv
  have G₁ := G.up k₁.up
  obtain ⟨o, fd, ho, hd⟩ := isFunc_of G₁.X hfn
  refine callWith_function (o := o) (fd := fd) ?_
  rw [star_plain hp]
  refine evalArgs_plain ?_
  have := ha pos s₁ E (fun vs s₂ => (s₂.heap.get? f = some o ∧ o.data = .func fd) ∧ wpAny (model prog w) A (call (.ref f) ([] ++ vs) []) Q E s₂) G₁ (H.up k₁.up) fun vs s₂ hvs k₂ => ⟨⟨k₂.up _ _ ho, hd⟩, hc vs s₂ E Q (G₁.up k₂.up) ((H.up k₁.up).up k₂.up) hvs fun v s₃ hv k₃ => h v s₃ hv (k₁.tr (k₂.tr k₃))⟩
  rw [star_plain hp] at this
  exact this

theorem any_plain (es : List PySem.Expr) : es.all plainE = true → ∀ pos, (backTo pos (starEach es env)).any (·.1) = false := by
  induction es with
  | nil => exact fun _ _ => rfl
  | cons e es ih =>
    intro h pos
    rw [List.all_cons, Bool.and_eq_true] at h
    rw [star_plain h.1]
    exact ih h.2 pos
theorem Ex.callB {x : Str} {p pos : Pos} {e : PySem.Expr} {es : List PySem.Expr} {id : String} {rs : List Res} {r : Res} (hf : Ex prog w K A env F (.Name x p) (.av (.bi id))) (ha : Sx prog w K A env F (e :: es) rs)
    (hc : Fx prog w K A F (.builtin id) rs r) (hp : (e :: es).all plainE = true := by rfl) : Ex prog w K A env F (.Call (.Name x p) (e :: es) [] pos) r := by
  intro s E Q G H h
  refine Call_Name rfl (hf s E _ G H fun v s₁ hv k₁ => ?_)
  cases hv
  have G₁ := G.up k₁.up
  refine callWith_builtin (any_plain _ hp pos) ?_
  have hp1 : plainE e = true := by rw [List.all_cons, Bool.and_eq_true] at hp; exact hp.1
  rw [star_plain hp1]
  refine evalArgs_plain ?_
  have := ha pos s₁ E (fun vs s₂ => wpAny (model prog w) A (call (.builtin id) ([] ++ vs) []) Q E s₂) G₁ (H.up k₁.up) fun vs s₂ hvs k₂ => hc vs s₂ E Q (G₁.up k₂.up) ((H.up k₁.up).up k₂.up) hvs fun v s₃ hv k₃ => h v s₃ hv (k₁.tr (k₂.tr k₃))
  rw [star_plain hp1] at this
  exact this
end
end Mine

-- B4
namespace Mine
open PySem PySem.Calls PyProof.Rows PySem.W

section
variable {prog : Program} {w : World} {K : Frag} {A : Around} {F : Led}

theorem zip_lookup {nms : List Str} : ∀ {vs : List PySem.Value} {as : List AV} {h : Heap}, nms.Nodup → nms.length = as.length → Are prog w h (as.map .av) vs → ∀ p ∈ nms.zip as, ∃ v, (nms.zip vs).lookup p.1 = some v ∧ p.2.Is v := by
  induction nms with
  | nil => exact fun _ _ _ p hp => absurd (show p ∈ [] from hp) List.not_mem_nil
  | cons n nms ih =>
    intro vs as h hn hl x p hp
    cases as with
    | nil => cases hl
    | cons a as =>
      obtain _ | ⟨hv, hr⟩ := x
      rcases List.mem_cons.mp hp with rfl | hp
      · exact ⟨_, by rw [List.zip_cons_cons, List.lookup_cons_self], hv⟩
      · obtain ⟨v, e, hv'⟩ := ih (List.nodup_cons.mp hn).2 (Nat.succ.inj hl) hr p hp
        refine ⟨v, ?_, hv'⟩
        have ne : p.1 ≠ n := fun q => (List.nodup_cons.mp hn).1 (q ▸ (List.of_mem_zip hp).1)
        rw [List.zip_cons_cons, List.lookup_cons, beq_eq_false_iff_ne.mpr ne]
        exact e

theorem lookup_rev {l : List (Str × PySem.Value)} (h : (l.map (·.1)).Nodup) (x : Str) : l.reverse.lookup x = l.lookup x := by
  induction l with
  | nil => rfl
  | cons p l ih =>
    obtain ⟨n, v⟩ := p
    rw [List.map_cons, List.nodup_cons] at h
    rw [List.reverse_cons, List.lookup_append, ih h.2, List.lookup_cons]
    by_cases hx : x = n
    · subst hx
      have hnone : l.lookup x = none := by
        cases q : l.lookup x with
        | none => rfl
        | some u => exact absurd (List.mem_map_of_mem (f := Prod.fst) (mem_of_lookup q)) h.1
      rw [hnone]; simp
    · have hb : (x == n) = false := beq_eq_false_iff_ne.mpr hx
      rw [List.lookup_cons (a := x), hb]; simp [hb]

/- a call, what it gives told of the state before and behind it -/
noncomputable def Fp (prog : Program) (w : World) (K : Frag) (A : Around) (F : Led) (f : PySem.Value) (rs : List Res) (P : Shared → PySem.Value → Shared → Prop) : Prop :=
  ∀ (vs : List PySem.Value) (s : Shared) (E : PySem.Value → Shared → Prop) (Q : PySem.Value → Shared → Prop), Gd K s.heap → Has prog w F s.heap → Are prog w s.heap rs vs → (∀ v s', P s v s' → Q v s') → wpAny (model prog w) A (call f vs) Q E s
/- a call that gives a new object -/
noncomputable def Gx (prog : Program) (w : World) (K : Frag) (A : Around) (F : Led) (f : PySem.Value) (rs : List Res) (e : Ent) : Prop :=
  Fp prog w K A F f rs fun s v s' => ∃ a, v = .ref a ∧ s.heap.get? a = none ∧ e.At prog w s'.heap a ∧ Kp s s'
theorem Gx.fx {f : PySem.Value} {rs : List Res} {e : Ent} (h : Gx prog w K A F f rs e) : Fx prog w K A F f rs (.new e) := fun vs s E Q G H ha q => h vs s E Q G H ha fun v s' x => x.elim fun a x => q v s' ⟨a, x.1, x.2.2.1⟩ x.2.2.2

theorem Fp.plain {f : Addr} {fd : FuncData} {oc : PySem.Value} {od : Option Addr} {osl : Array (Option PySem.Value)} {body : List Stmt} {as : List AV} {P : Shared → PySem.Value → Shared → Prop} (nms : List Str)
    (ho : K.lookup f = some ⟨oc, od, .func fd, osl⟩) (hcd : codeIn K fd.code fd.qualname = true) (hroom : A.depth < recursionLimit) (hbody : fd.body = .stmts body)
    (hb : ∀ vs : List PySem.Value, vs.length = as.length → bindArgs fd ⟨vs, []⟩ = pure (nms.zip vs)) (hn : nms.length = as.length) (hnd : nms.Nodup)
    (hcell : ∀ x ∈ fd.scope.names, x.2 ≠ .cell) (hloc : ∀ x ∈ nms, fd.scope.names.lookup x = some .local)
    (h : ∀ s₀ s₁ L, St prog w s₀ [(L, .nm (nms.zip as))] s₁ → Gd K s₀.heap → Has prog w F s₀.heap →
      wpAny (model prog w) (A.deeper (callEnv fd L f)) (execs body (callEnv fd L f)) (fun fl s' => ∃ v, fl = .ret v ∧ P s₀ v s') (fun _ _ => False) s₁)
    (hco : fd.scope.isCoroutine = false := by rfl) (hgen : fd.scope.isGenerator = false := by rfl) (hk : fd.scope.kind = .function := by rfl) :
    Fp prog w K A F (.ref f) (as.map .av) P := by
  intro vs s E Q G H ha q
  have hl := ha.length
  rw [List.length_map] at hl
  refine wpAny_call (codeAny_call_def hroom (G.X _ _ ho) rfl G.lim (codeRec_of G.X hcd) hbody (BindsTo.of_eq (hb vs hl)) hcell (fun x hx => hloc _ (List.of_mem_zip hx).1) (fun h₀ hns hk₀ => ?_) hco hgen hk)
  have S : St prog w s [(s.heap.objs.size, .nm (nms.zip as))] { s with heap := h₀, toks := s.toks + (nms.zip vs).length } := by
    refine ⟨⟨h₀, _, rfl, hk₀⟩, fun p hp => ?_, fun p hp => ?_, by simp⟩
    · rw [List.mem_singleton.mp hp]
      refine ⟨_, hns, fun p hp => ?_⟩
      obtain ⟨v, e, hv⟩ := zip_lookup hnd hn ha p hp
      refine ⟨v, ?_, hv⟩
      rw [lookup_rev]
      · exact e
      · rw [List.map_fst_zip (Nat.le_of_eq (hn.trans hl.symm))]; exact hnd
    · rw [List.mem_singleton.mp hp]; exact Heap.get?_none_of_le (Nat.le_refl _)
  refine wpAny_mono (h s _ _ S G H) (fun fl s' hf => ?_) fun _ _ x => x.elim
  obtain ⟨v, rfl, hv⟩ := hf
  exact q v s' hv
theorem Fx.plain {f : Addr} {fd : FuncData} {oc : PySem.Value} {od : Option Addr} {osl : Array (Option PySem.Value)} {body : List Stmt} {as : List AV} {r : Res} (nms : List Str)
    (ho : K.lookup f = some ⟨oc, od, .func fd, osl⟩) (hcd : codeIn K fd.code fd.qualname = true) (hroom : A.depth < recursionLimit) (hbody : fd.body = .stmts body)
    (hb : ∀ vs : List PySem.Value, vs.length = as.length → bindArgs fd ⟨vs, []⟩ = pure (nms.zip vs)) (hn : nms.length = as.length) (hnd : nms.Nodup)
    (hcell : ∀ x ∈ fd.scope.names, x.2 ≠ .cell) (hloc : ∀ x ∈ nms, fd.scope.names.lookup x = some .local)
    (h : ∀ s₀ s₁ L, St prog w s₀ [(L, .nm (nms.zip as))] s₁ → Gd K s₀.heap → Has prog w F s₀.heap →
      wpAny (model prog w) (A.deeper (callEnv fd L f)) (execs body (callEnv fd L f)) (fun fl s' => ∃ v, fl = .ret v ∧ r.Is prog w s'.heap v ∧ Kp s₀ s') (fun _ _ => False) s₁)
    (hco : fd.scope.isCoroutine = false := by rfl) (hgen : fd.scope.isGenerator = false := by rfl) (hk : fd.scope.kind = .function := by rfl) :
    Fx prog w K A F (.ref f) (as.map .av) r := fun vs s E Q G H ha q => Fp.plain (P := fun s v s' => r.Is prog w s'.heap v ∧ Kp s s') nms ho hcd hroom hbody hb hn hnd hcell hloc h hco hgen hk vs s E Q G H ha fun v s' hv => q v s' hv.1 hv.2

/- a return -/
theorem ret_ex {env : Env} {e : PySem.Expr} {pos : Pos} {r : Res} {s₀ s : Shared} {G : Led} {Q : Flow → Shared → Prop} {E : PySem.Value → Shared → Prop} (S : St prog w s₀ G s) (D : Gd K s₀.heap) (hF : Has prog w F s₀.heap) (he : Ex prog w K A env (G ++ F) e r) (rest : List Stmt)
    (h : ∀ v s', r.Is prog w s'.heap v → Kp s₀ s' → Q (.ret v) s') : wpAny (model prog w) A (execs (.Return (some e) pos :: rest) env) Q E s := by
  refine wpAny_execs_cons (wpAny_Return_some ?_)
  exact he s _ _ (S.gd D) (S.all hF) fun v s' hv k => h v s' hv (S.kp.tr k)
/- a return of an object of the ledger -/
theorem ret_new {env : Env} {e : PySem.Expr} {pos : Pos} {s₀ s : Shared} {G : Led} {a : Addr} {ent : Ent} {Q : Flow → Shared → Prop} {E : PySem.Value → Shared → Prop} (S : St prog w s₀ G s) (D : Gd K s₀.heap) (hF : Has prog w F s₀.heap) (he : Ex prog w K A env (G ++ F) e (.av (.ref a))) (hm : (a, ent) ∈ G) (rest : List Stmt)
    (h : ∀ s', s₀.heap.get? a = none → ent.At prog w s'.heap a → Kp s₀ s' → Q (.ret (.ref a)) s') : wpAny (model prog w) A (execs (.Return (some e) pos :: rest) env) Q E s := by
  refine wpAny_execs_cons (wpAny_Return_some ?_)
  exact he s _ _ (S.gd D) (S.all hF) fun v s' hv k => by cases hv; exact h s' (S.fresh _ hm) ((S.has _ hm).up k.up) (S.kp.tr k)
/- what is wanted behind a branch: the rest, unless the branch leaves -/
@[reducible] noncomputable def thn (prog : Program) (w : World) (A : Around) (env : Env) (rest : List Stmt) (Q : Flow → Shared → Prop) (E : PySem.Value → Shared → Prop) (f : Flow) (s : Shared) : Prop := match f with
  | .next => wpAny (model prog w) A (execs rest env) Q E s
  | f => Q f s
/- an if whose test is known -/
theorem if_true {env : Env} {e : PySem.Expr} {body orelse rest : List Stmt} {pos : Pos} {s₀ s : Shared} {G : Led} {Q : Flow → Shared → Prop} {E : PySem.Value → Shared → Prop} (S : St prog w s₀ G s) (D : Gd K s₀.heap) (hF : Has prog w F s₀.heap) (he : Tx prog w K A env (G ++ F) e true)
    (h : ∀ s', St prog w s₀ G s' → wpAny (model prog w) A (execs body env) (thn prog w A env rest Q E) E s') : wpAny (model prog w) A (execs (.If e body orelse pos :: rest) env) Q E s := by
  refine wpAny_execs_cons (wpAny_If ?_)
  refine he s _ _ (S.gd D) (S.all hF) fun s' k => ?_
  exact h s' (S.keep k)
theorem if_false {env : Env} {e : PySem.Expr} {body orelse rest : List Stmt} {pos : Pos} {s₀ s : Shared} {G : Led} {Q : Flow → Shared → Prop} {E : PySem.Value → Shared → Prop} (S : St prog w s₀ G s) (D : Gd K s₀.heap) (hF : Has prog w F s₀.heap) (he : Tx prog w K A env (G ++ F) e false)
    (h : ∀ s', St prog w s₀ G s' → wpAny (model prog w) A (execs orelse env) (thn prog w A env rest Q E) E s') : wpAny (model prog w) A (execs (.If e body orelse pos :: rest) env) Q E s := by
  refine wpAny_execs_cons (wpAny_If ?_)
  refine he s _ _ (S.gd D) (S.all hF) fun s' k => ?_
  exact h s' (S.keep k)
end
end Mine

-- B5
namespace Mine
open PySem PySem.Calls PyProof.Rows PySem.W

/- the text's own part -/
@[reducible] noncomputable def KK (w : World) : Frag := KP w.params

theorem zip1 {fd : FuncData} {a : Str} {n : Nat} (hn : n = 1) (h : ∀ x, bindArgs fd ⟨[x], []⟩ = pure [(a, x)]) : ∀ vs : List PySem.Value, vs.length = n → bindArgs fd ⟨vs, []⟩ = pure ([a].zip vs) := by
  subst hn; intro vs hl
  obtain ⟨x, rfl⟩ := len_one hl
  exact h x
theorem zip2 {fd : FuncData} {a b : Str} {n : Nat} (hn : n = 2) (h : ∀ x y, bindArgs fd ⟨[x, y], []⟩ = pure [(a, x), (b, y)]) : ∀ vs : List PySem.Value, vs.length = n → bindArgs fd ⟨vs, []⟩ = pure ([a, b].zip vs) := by
  subst hn; intro vs hl
  obtain ⟨x, y, rfl⟩ := len_two hl
  exact h x y
theorem zip3 {fd : FuncData} {a b c : Str} {n : Nat} (hn : n = 3) (h : ∀ x y z, bindArgs fd ⟨[x, y, z], []⟩ = pure [(a, x), (b, y), (c, z)]) : ∀ vs : List PySem.Value, vs.length = n → bindArgs fd ⟨vs, []⟩ = pure ([a, b, c].zip vs) := by
  subst hn; intro vs hl
  obtain ⟨x, y, z, rfl⟩ := len_three hl
  exact h x y z

section
variable {prog : Program} {w : World} {A : Around} {F : Led}
theorem fx_and (hroom : A.depth < recursionLimit) (a b : Int) : Fx prog w (KK w) A F (.ref 70) [.av (.int a), .av (.int b)] (.av (.int (Builtin.bitAnd a b))) := by
  refine Fx.plain (as := [.int a, .int b]) [Str.ofString "a", Str.ofString "b"] (by rfl) (by rfl) hroom (by rfl) (zip2 rfl fun _ _ => rfl) (by rfl) (by decide) (by decide) (by decide) fun s₀ s₁ L S D H => ret_ex S D H ?_ _ fun v s' hv k => ⟨v, rfl, hv, k⟩
  exact Ex.andI (Ex.local (.head _) (.head _)) (Ex.local (.head _) (.tail _ (.head _)))
theorem fx_or (hroom : A.depth < recursionLimit) (a b : Int) : Fx prog w (KK w) A F (.ref 84) [.av (.int a), .av (.int b)] (.av (.int (Builtin.bitOr a b))) := by
  refine Fx.plain (as := [.int a, .int b]) [Str.ofString "a", Str.ofString "b"] (by rfl) (by rfl) hroom (by rfl) (zip2 rfl fun _ _ => rfl) (by rfl) (by decide) (by decide) (by decide) fun s₀ s₁ L S D H => ret_ex S D H ?_ _ fun v s' hv k => ⟨v, rfl, hv, k⟩
  exact Ex.orI (Ex.local (.head _) (.head _)) (Ex.local (.head _) (.tail _ (.head _)))
theorem fx_xor (hroom : A.depth < recursionLimit) (a b : Int) : Fx prog w (KK w) A F (.ref 98) [.av (.int a), .av (.int b)] (.av (.int (Builtin.bitXor a b))) := by
  refine Fx.plain (as := [.int a, .int b]) [Str.ofString "a", Str.ofString "b"] (by rfl) (by rfl) hroom (by rfl) (zip2 rfl fun _ _ => rfl) (by rfl) (by decide) (by decide) (by decide) fun s₀ s₁ L S D H => ret_ex S D H ?_ _ fun v s' hv k => ⟨v, rfl, hv, k⟩
  exact Ex.xorI (Ex.local (.head _) (.head _)) (Ex.local (.head _) (.tail _ (.head _)))
theorem fx_shl (hroom : A.depth < recursionLimit) (a b : Int) (h0 : 0 ≤ b) (h1 : b ≤ 1000000) (ha : a.natAbs < 2 ^ 64) : Fx prog w (KK w) A F (.ref 77) [.av (.int a), .av (.int b)] (.av (.int (a * 2 ^ b.toNat))) := by
  refine Fx.plain (as := [.int a, .int b]) [Str.ofString "a", Str.ofString "b"] (by rfl) (by rfl) hroom (by rfl) (zip2 rfl fun _ _ => rfl) (by rfl) (by decide) (by decide) (by decide) fun s₀ s₁ L S D H => ret_ex S D H ?_ _ fun v s' hv k => ⟨v, rfl, hv, k⟩
  exact Ex.shlI (Ex.local (.head _) (.head _)) (Ex.local (.head _) (.tail _ (.head _))) h0 h1 ha
theorem fx_shr (hroom : A.depth < recursionLimit) (a b : Int) (h0 : 0 ≤ b) (ha : 0 ≤ a) : Fx prog w (KK w) A F (.ref 91) [.av (.int a), .av (.int b)] (.av (.int (a.fdiv (2 ^ b.toNat)))) := by
  refine Fx.plain (as := [.int a, .int b]) [Str.ofString "a", Str.ofString "b"] (by rfl) (by rfl) hroom (by rfl) (zip2 rfl fun _ _ => rfl) (by rfl) (by decide) (by decide) (by decide) fun s₀ s₁ L S D H => ret_ex S D H ?_ _ fun v s' hv k => ⟨v, rfl, hv, k⟩
  exact Ex.shrI (Ex.local (.head _) (.head _)) (Ex.local (.head _) (.tail _ (.head _))) h0 ha

/- isinstance(a text, str) -/
theorem fx_isStr (x : Str) : Fx prog w (KK w) A F (.builtin "isinstance") [.av (.str x), .av (.ty "str")] (.av (.bool true)) := by
  intro vs s E Q G H ha h
  obtain ⟨v, u, rfl, ⟨t, hv⟩, hu⟩ := ha.two
  focus
    subst hv; cases hu
    exact IsiPair.str_str (h _ _ rfl (Kp.refl s))

theorem Tx.val {env : Env} {K : Frag} {e : PySem.Expr} {b : Bool} (he : Ex prog w K A env F e (.av (.bool b))) (hi : isTrue e env (eval e env) = (do let v ← eval e env; standAt e.pos; holding [v] (truthy v)) := by rfl) : Tx prog w K A env F e b := by
  intro s E Q G H h
  refine wpAny_isTrue_value (he s E _ G H fun v s' hv k => ?_) hi
  cases hv
  exact wpAny_truthy_bool (h s' k)

/- a method of a text -/
theorem Ex.methS {K : Frag} {env : Env} {o e : PySem.Expr} {es : List PySem.Expr} {name : Str} {apos pos : Pos} {id : String} {x : Str} {rs : List Res} {r : Res} (ho : Ex prog w K A env F o (.av (.str x))) (ha : Sx prog w K A env F (e :: es) rs)
    (hc : Fx prog w K A F (.builtin id) (.av (.str x) :: rs) r) (slot : Slot "str" name id) (hty : typeOf (.builtin id) = pure (.type "method_descriptor"))
    (hbase : attributeBase o name env (eval o env) = eval o env := by rfl)
    (hfew : ((backTo pos (starEach (e :: es) env)).all (fun x => !x.1) && (backToKw pos (keywordEach [] env)).all (fun x => x.1.isSome)
      && decide ((e :: es).length + ([] : List Keyword).length + (if ([] : List Keyword).isEmpty then 0 else 1) < 30)) = true := by rfl)
    (hline : (apos.endLine == pos.line) = true := by rfl) (hp : (e :: es).all plainE = true := by rfl) : Ex prog w K A env F (.Call (.Attribute o name apos) (e :: es) [] pos) r := by
  intro s E Q G H h
  refine wpAny_Call_method hbase hfew hline PySem.F.plainAttrs_str slot hty (ho s E _ G H fun v s₁ hv k₁ => ?_)
  obtain ⟨t, rfl⟩ := hv
  refine ⟨typeIs_str _ _ _, fun a e => (nomatch e), ?_⟩
  refine callWith_builtin (any_plain _ hp pos) ?_
  have hp1 : plainE e = true := by rw [List.all_cons, Bool.and_eq_true] at hp; exact hp.1
  rw [star_plain hp1]
  refine evalArgs_plain ?_
  have := ha pos s₁ E (fun vs s₂ => wpAny (model prog w) A (call (.builtin id) ([.str x t] ++ vs) []) Q E s₂) (G.up k₁.up) (H.up k₁.up) fun vs s₂ hvs k₂ =>
    hc (.str x t :: vs) s₂ E Q ((G.up k₁.up).up k₂.up) ((H.up k₁.up).up k₂.up) (.cons ⟨t, rfl⟩ hvs) fun v s₃ hv k₃ => h v s₃ hv (k₁.tr (k₂.tr k₃))
  rw [star_plain hp1] at this
  exact this
end
end Mine

-- B6
namespace Mine
open PySem PySem.Calls PyProof.Rows PySem.W

/- the signs: 7 ; = > and ? -/
noncomputable def sg (c : Nat) : Prop := c = 55 ∨ c = 59 ∨ c = 61 ∨ c = 62
noncomputable def sq (c : Nat) : Prop := sg c ∨ c = 63

noncomputable def okE (e : DictEntry) : Bool := match e.key with
  | .int k _ => e.hash == hashInt k
  | _ => false
theorem okE_of {prog : Program} {w : World} {es : List DictEntry} (h : es.all okE = true) : ∀ e ∈ es.toArray, ∃ k, (intKind prog w).is k e.key = true ∧ e.hash = (intKind prog w).hash k := by
  intro e he
  have q := List.all_eq_true.mp h e (by simpa using he)
  obtain ⟨hash, key, val⟩ := e
  cases key <;> first | exact ⟨_, beq_self_eq_true _, eq_of_beq q⟩ | exact Bool.noConfusion (show false = true from q)

section
variable {prog : Program} {w : World} {A : Around} {F : Led}

theorem map38 {h : Heap} (X : (KK w).In h) : ∃ f : Int → Option PySem.Value, h.MapOf (intKind prog w) 38 f ∧ ∀ c : Nat, sg c → f c = none := by
  refine ⟨_, ⟨_, _, _, X 38 _ rfl, ⟨rfl, rfl, rfl⟩, rfl, okE_of (by decide +kernel), fun _ => rfl⟩, ?_⟩
  intro c hc
  rcases hc with rfl | rfl | rfl | rfl <;> rfl

theorem sub_key : isSubtype (.type "KeyError") (.type "LookupError") = pure true := by rw [isSubtype_type]; kernel_rfl

theorem tr_look {s : Shared} {E : PySem.Value → Shared → Prop} {c : Nat} {Q : Builtin.Str.Mapped → Shared → Prop} (hh : A.handled = none) (X : (KK w).In s.heap) (hc : sg c) (h : ∀ s', Kp s s' → Q .keep s') :
    wpAny (model prog w) A (Builtin.Str.tableLookup (.ref 38) c) Q E s := by
  obtain ⟨f, hm, hf⟩ := map38 (prog := prog) X
  unfold Builtin.Str.tableLookup
  refine wpAny_bind (wpAny_attempt (wpAny_bind (wpAny_mkInt ?_)))
  refine wpAny_getItem_missing_of (k := ((c : Nat) : Int)) (s := { s with toks := s.toks + 1 }) (knd := intKind prog w) (by simp [intKind, Value.isInt]) (by decide) hh hm (hf c hc) fun h' e ne => ?_
  dsimp only
  obtain ⟨ob, t, ho, hcls, _⟩ := ne.there
  refine wpAny_bind (wpAny_isInstance (T := "KeyError") ⟨ob, ho, hcls⟩ sub_key ?_)
  exact wpAny_bind (wpAny_rule (wpAny_pure (h _ ⟨h', _, rfl, ne.keeps⟩)))

theorem tr_tree {s : Shared} {E : PySem.Value → Shared → Prop} {c : Nat} {t : Tok} {Q : Fin → Shared → Prop} (hh : A.handled = none) (X : (KK w).In s.heap) (hc : sg c) (h : ∀ s' t', Kp s s' → Q (.done (.ret (.str ⟨#[c]⟩ t'))) s') :
    wpAny (model prog w) A (Builtin.«str.translate» ⟨[.str ⟨#[c]⟩ t, .ref 38], []⟩) Q E s := by
  unfold Builtin.«str.translate»
  refine wpAny_bind (wpAny_of_eq (a := (.str ⟨#[c]⟩ t, ⟨#[c]⟩, .ref 38)) (by rfl) ?_)
  dsimp only
  have h128 : (#[c] : Array Nat).all (fun x => decide (x < 128)) = true := by rcases hc with rfl | rfl | rfl | rfl <;> simp
  have hl : (({ cps := #[c] } : Str).length == 0) = false := rfl
  rw [h128]
  refine KFB.if_not hl ?_
  refine wpAny_bind ?_
  rw [show (#[c] : Array Nat) = [c].toArray from rfl, List.forIn_toArray, List.forIn_cons]
  refine wpAny_bind ?_
  refine KFB.if_not (by decide) ?_
  refine KFB.if_so rfl ?_
  show wpAny _ _ (Builtin.Str.tableLookup (.ref 38) c >>= _) _ _ _
  refine wpAny_bind (tr_look hh X hc fun s' k => ?_)
  refine wpAny_bind (wpAny_pure ?_)
  refine wpAny_pure ?_
  dsimp only
  rw [List.forIn_nil]
  refine wpAny_pure ?_
  refine KFB.if_not (show Builtin.Str.tooLong 1 = false by decide) ?_
  show wpAny _ _ (retStr ⟨#[c]⟩) _ _ _
  refine wpAny_bind (wpAny_mkStr (wpAny_pure (h _ _ (k.tr (Kp.tok _ _)))) (by show 1 ≤ sizeLine; decide))

/- text.translate(the table) of one sign -/
theorem fx_translate (hh : A.handled = none) {c : Nat} (hc : sg c) : Fx prog w (KK w) A F (.builtin "str.translate") [.av (.str ⟨#[c]⟩), .av (.ref 38)] (.av (.str ⟨#[c]⟩)) := by
  intro vs s E Q G H ha h
  obtain ⟨v, u, rfl, ⟨t, hv⟩, hu⟩ := ha.two
  focus
    subst hv; cases hu
    refine wpAny_call_entry PySem.F.slot_str_translate (typeIs_str _ _ _) PySem.F.entry_str_translate ?_ (PySem.F.args_str_translate_2 _ _)
    exact tr_tree (A := A.in1) hh G.X hc fun s' t' k => ⟨_, rfl, h _ _ ⟨t', rfl⟩ k⟩

/- escape of one sign -/
theorem fx_escape (hh : A.handled = none) (hroom : A.depth < recursionLimit) {c : Nat} (hc : sg c) : Fx prog w (KK w) A F (.ref 48) [.av (.str ⟨#[c]⟩)] (.av (.str ⟨#[c]⟩)) := by
  refine Fx.plain (as := [.str ⟨#[c]⟩]) [Str.ofString "pattern"] (by rfl) (by rfl) hroom (by rfl) (zip1 rfl fun _ => rfl) (by rfl) (by decide) (by decide) (by decide) fun s₀ s₁ L S D H => ?_
  refine if_true S D H (Tx.val (Ex.callB (Ex.blt (by rfl) (by rfl) rfl) (Sx.cons (Ex.local (.head _) (.head _)) (Sx.cons (Ex.blt (v := .type "str") (r := .ty "str") (by rfl) (by rfl) rfl) Sx.nil)) (fx_isStr _))) fun s' S' => ?_
  refine ret_ex S' D H ?_ _ fun v s' hv k => ⟨v, rfl, hv, k⟩
  exact Ex.methS (Ex.local (.head _) (.head _)) (Sx.cons (Ex.glob (v := .ref 38) (r := .ref 38) (by rfl) rfl) Sx.nil) (fx_translate (A := A.deeper _) hh hc) PySem.F.slot_str_translate PySem.F.type_str_translate
end
end Mine

-- B7
namespace Mine
open PySem PySem.Calls PyProof.Rows PySem.W

/- list.append bound to a list -/
noncomputable def bnd (a : Addr) : Obj := { cls := .type "builtin_function_or_method", data := .fields #[.builtin "list.append", .ref a] }
theorem md_slot : Slot "method_descriptor" "__get__" "method_descriptor.__get__" :=
  .of (owner := "method_descriptor") (n := "__get__") (by rw [typeLookup_type, builtinLookup_eq_fast]; kernel_rfl) (by decide +kernel) (by decide +kernel) (by decide +kernel)
    (by first | exact .inl (by decide +kernel) | exact .inr (by decide +kernel)) (by rw [isSubtype_type]; kernel_rfl)
theorem md_entry : entryFor table "method_descriptor.__get__" = some Builtin.«method_descriptor.__get__» := entryFor_of_tree (by kernel_rfl)
theorem md_args (a b c : PySem.Value) : argsOk "method_descriptor.__get__" ⟨[a, b, c], []⟩ := by unfold argsOk; kernel_rfl
theorem la_type : typeOf (.builtin "list.append") = pure (.type "method_descriptor") := by show builtinType _ = _; rw [builtinType_eq_fast]; kernel_rfl
theorem la_look : typeLookup (.type "list") "append" = pure (some (.builtin "list.append")) := by rw [typeLookup_type, builtinLookup_eq_fast]; kernel_rfl
theorem md_noset : typeLookup (.type "method_descriptor") "__set__" = pure none := by rw [typeLookup_type, builtinLookup_eq_fast]; kernel_rfl
theorem md_nodel : typeLookup (.type "method_descriptor") "__delete__" = pure none := by rw [typeLookup_type, builtinLookup_eq_fast]; kernel_rfl
theorem list_list : isSubtype (.type "list") (.type "list") = pure true := by rw [isSubtype_type]; kernel_rfl

section
variable {prog : Program} {w : World} {A : Around} {F : Led} {E : PySem.Value → Shared → Prop} {s : Shared} {a : Addr}

theorem md_tree {Q : Fin → Shared → Prop} (hT : s.TypeIs (.ref a) "list") (h : Q (.done (.ret (.ref s.heap.objs.size))) { s with heap := s.heap.push (bnd a) }) :
    wpAny (model prog w) A (Builtin.«method_descriptor.__get__» ⟨[.builtin "list.append", .ref a, .type "list"], []⟩) Q E s := by
  unfold Builtin.«method_descriptor.__get__»
  refine wpAny_bind (wpAny_of_eq (a := (.builtin "list.append", some (.ref a), some (.type "list"))) (by rfl) ?_)
  dsimp only
  rw [if_neg (by decide +kernel)]
  refine wpAny_bind ?_
  refine wpAny_bind (wpAny_of_eq (a := (Str.ofString "append", .type "list")) (by kernel_rfl) ?_)
  refine wpAny_bind (wpAny_isInstance hT list_list ?_)
  refine wpAny_pure ?_
  exact wpAny_bind (wpAny_newObj_type (wpAny_pure h))

theorem list_noget : typeLookup (.type "list") "__getattr__" = pure none := by rw [typeLookup_type, builtinLookup_eq_fast]; kernel_rfl

theorem ga_tree {Q : Fin → Shared → Prop} {xs : Array PySem.Value} {n : Nat} {u : Tok} (ho : s.heap.get? a = some { cls := .type "list", data := .seq xs n }) (h : Q (.done (.ret (.ref s.heap.objs.size))) { s with heap := s.heap.push (bnd a) }) :
    wpAny (model prog w) A (Builtin.«object.__getattribute__» ⟨[.ref a, .str (Str.ofString "append") u], []⟩) Q E s := by
  have hT : s.TypeIs (.ref a) "list" := ⟨_, ho, rfl⟩
  have f2 := la_look
  have f3 := la_type
  have f4 := md_slot.lookup
  have f5 := md_noset
  have f6 := md_nodel
  have hTb : s.TypeIs (.builtin "list.append") "method_descriptor" := la_type
  unfold Builtin.«object.__getattribute__»
  repeat (any_goals (first | assumption | wp_step))
  exact codeAny_call_builtin md_slot.plain md_entry (md_slot.check _ _ _ _ _ _ _ _ hTb (md_args _ _ _) (md_tree (A := A.in1) hT (wpAny_pure h)))

theorem getAttr_append {Q : PySem.Value → Shared → Prop} {xs : Array PySem.Value} {n : Nat} (ho : s.heap.get? a = some { cls := .type "list", data := .seq xs n })
    (h : Q (.ref s.heap.objs.size) { s with heap := s.heap.push (bnd a), toks := s.toks + 1 }) : wpAny (model prog w) A (getAttr (.ref a) (Str.ofString "append") true) Q E s := by
  have hT : s.TypeIs (.ref a) "list" := ⟨_, ho, rfl⟩
  have hT' : ∀ t, ({ s with toks := t } : Shared).TypeIs (.ref a) "list" := fun _ => ⟨_, ho, rfl⟩
  have f3 := PySem.F.slot_list_getattribute.lookup
  have f4 := PySem.F.slot_list_getattribute.bind (.ref a)
  have f5 := list_noget
  unfold getAttr getAttrBy
  repeat (any_goals (first | assumption | exact hT' _ | wp_step))
  refine codeAny_call_builtin PySem.F.slot_list_getattribute.plain PySem.F.entry_list_ga (PySem.F.slot_list_getattribute.check _ _ _ _ _ _ _ _ (hT' _) (PySem.F.args_list_getattribute_2 _ _) (ga_tree (A := A.in1) (s := { s with toks := s.toks + 1 }) ho ?_))
  show wpAny _ _ (handedOut (.ref _)) _ _ _
  exact wpAny_pure h

end
end Mine

-- B8
namespace Mine
open PySem PySem.Calls PyProof.Rows PySem.W
section
variable {prog : Program} {w : World} {A : Around} {F : Led} {E : PySem.Value → Shared → Prop} {s : Shared} {a : Addr}

theorem Ex.append {K : Frag} {env : Env} {x : Str} {p pos : Pos} {D : Addr} {s₀ : Shared} {G : Led} {Q : PySem.Value → Shared → Prop} (S : St prog w s₀ G s) (Dd : Gd K s₀.heap) (H : Has prog w F s₀.heap) {ys : List Str} (hm : (D, Ent.lS ys) ∈ G)
    (hx : Ex prog w K A env (G ++ F) (.Name x p) (.av (.ref D))) (h : ∀ u s', St prog w s₀ ((u, .ob (bnd D)) :: G) s' → Q (.ref u) s') (hb : attributeBase (.Name x p) (Str.ofString "append") env (eval (.Name x p) env) = eval (.Name x p) env := by rfl) :
    wpAny (model prog w) A (eval (.Attribute (.Name x p) (Str.ofString "append") pos) env) Q E s := by
  show wpAny _ _ (do
    let o ← attributeBase (.Name x p) (Str.ofString "append") env (eval (.Name x p) env)
    standAt pos.atName
    let r ← holding [o] (getAttr o (Str.ofString "append") true)
    letTemporaryGo (.Name x p) o r
    pure r) _ _ _
  rw [hb]
  refine wpAny_bind (hx s _ _ (S.gd Dd) (S.all H) fun v s₁ hv k₁ => ?_)
  cases hv
  have S₁ := S.keep k₁
  obtain ⟨vs, ⟨n, ho⟩, _⟩ := S₁.has _ hm
  refine wpAny_bind (wpAny_standAt (wpAny_bind (wpAny_holding (getAttr_append ho ?_))))
  refine wpAny_bind (wpAny_of_eq (a := ()) rfl (wpAny_pure (h _ _ ?_)))
  exact S₁.add (Kp.pushT _ _ _) (Heap.get?_none_of_le (Nat.le_refl _)) (Heap.get?_push_size _ rfl)

theorem la_kind : builtinKind "list.append" = some .method := by decide +kernel
theorem list_mod : isSubtype (.type "list") (.type "module") = pure false := by rw [isSubtype_type]; kernel_rfl
theorem la_args (D : Addr) (x : PySem.Value) : (match Manifest.signature? "list.append" with
    | some sig => Bind.checkArgs "list.append" { sig with full := s!"{Bind.lastOf "list"}.{Bind.lastOf "list.append"}" } ⟨[.ref D, x], []⟩
    | none => pure ()) = pure () := by kernel_rfl
theorem chk_append {D : Addr} {its : Array PySem.Value} {n : Nat} {x : PySem.Value} {Q : Unit → Shared → Prop} (ho : s.heap.get? D = some { cls := .type "list", data := .seq its n }) (h : Q () s) : wpAny (model prog w) A (checkBoundCall "list.append" ⟨[.ref D, x], []⟩) Q E s := by
  have hT : s.TypeIs (.ref D) "list" := ⟨_, ho, rfl⟩
  have key := la_args D x
  unfold checkBoundCall
  cases hsig : Manifest.signature? "list.append" with
  | none => exact wpAny_pure h
  | some sig =>
    rw [hsig] at key
    dsimp only at key ⊢
    rw [la_kind]
    dsimp only
    refine KFB.if_not (by decide) ?_
    refine wpAny_bind (wpAny_isInstance hT list_mod ?_)
    refine KFB.if_not (by decide +kernel) ?_
    refine wpAny_bind ?_
    dsimp only [isType, loadHead]
    refine wpAny_bind (wpAny_loadPart ho (wpAny_pure ?_))
    refine KFB.if_not rfl ?_
    refine wpAny_bind (wpAny_typeOf hT ?_)
    dsimp only
    exact wpAny_of_eq key h

theorem call_bnd {u D : Addr} {its : Array PySem.Value} {x : PySem.Value} {Q : PySem.Value → Shared → Prop} (hu : s.heap.get? u = some (bnd D)) (hl : s.heap.PlainList D its) (hsz : its.size ≤ sizeLine)
    (h : ∀ h', h'.PlainList D (its.push x) → Heap.SameBut D s.heap h' → Q .none { s with heap := h' }) : wpAny (model prog w) A (call (.ref u) [x]) Q E s := by
  refine wpAny_call (codeAny_of_tree ?_)
  show wpAny _ A.in1 (callAny (.ref u) ⟨[x], []⟩) _ _ s
  obtain ⟨n, ho⟩ := hl
  dsimp only [callAny]
  refine wpAny_bind (wpAny_load hu ?_)
  dsimp only [bnd]
  refine KFB.if_so (by decide) ?_
  show wpAny _ _ (if (PySem.Value.type "builtin_function_or_method" != PySem.Value.type "method") = true then (do
    checkBoundCall "list.append" ⟨[.ref D, x], []⟩
    again (.builtin "list.append" ⟨[.ref D, x], []⟩)) else _) _ _ _
  refine KFB.if_so (by decide) ?_
  refine wpAny_bind (chk_append (A := A.in1) ho ?_)
  refine wpAny_pure ⟨Code.quiet_builtin _ (by decide +kernel), codeAny_builtin entry_list_append ?_⟩
  show wpAny _ _ (updateSeq D (·.push x) >>= fun _ => ret .none) _ _ s
  refine wpAny_bind ?_
  refine wpAny_updateSeq ho rfl (wpAny_pure (h _ ⟨n + 1, ?_⟩ (Heap.SameBut.update ..)))
  rw [Heap.get?_update_self _ ho (by rw [Obj.mapSeq_push_plain]; rfl), Obj.mapSeq_push_plain]
end
end Mine

-- B9
namespace Mine
open PySem PySem.Calls PyProof.Rows PySem.W

theorem strs_snoc {y : Str} {t : Tok} {vs : List PySem.Value} {ys : List Str} (x : StrsAre vs ys) : StrsAre (vs ++ [.str y t]) (ys ++ [y]) := by
  induction x with
  | nil => exact .cons y t .nil
  | cons a b _ ih => exact .cons a b ih
theorem ints_snoc {y : Int} {t : Tok} {vs : List PySem.Value} {ys : List Int} (x : IntsAre vs ys) : IntsAre (vs ++ [.int y t]) (ys ++ [y]) := by
  induction x with
  | nil => exact .cons y t .nil
  | cons a b _ ih => exact .cons a b ih
theorem strs_len {vs : List PySem.Value} {ys : List Str} (x : StrsAre vs ys) : vs.length = ys.length := by
  induction x with
  | nil => rfl
  | cons a b _ ih => exact congrArg (· + 1) ih
theorem ints_len {vs : List PySem.Value} {ys : List Int} (x : IntsAre vs ys) : vs.length = ys.length := by
  induction x with
  | nil => rfl
  | cons a b _ ih => exact congrArg (· + 1) ih

section
variable {prog : Program} {w : World} {A : Around} {F : Led} {E : PySem.Value → Shared → Prop} {s : Shared} {K : Frag} {env : Env}

theorem callWith_bnd {pos : Pos} {u D : Addr} {e : PySem.Expr} {Q : PySem.Value → Shared → Prop} (hp : plainE e = true)
    (h : wpAny (model prog w) A (eval e env) (fun v s₁ => s₁.heap.get? u = some (bnd D) ∧ wpAny (model prog w) A (call (.ref u) [v]) Q E s₁) E s) :
    wpAny (model prog w) A (callWith pos (.ref u) [] (backTo pos (starEach [e] env)) []) Q E s := by
  unfold callWith
  rw [star_plain hp]
  refine wpAny_bind (wpAny_holding (evalArgs_plain (spliced_cons (wpAny_mono h (fun v s₁ h₁ => spliced_nil (wpAny_bind (wpAny_standAt ?_))) fun _ _ x => x))))
  obtain ⟨ho, hcall⟩ := h₁
  refine wpAny_bind (m := keeperOf (.ref u)) ?_
  unfold keeperOf
  refine wpAny_bind (wpAny_load ho ?_)
  show wpAny _ _ (pure Keeper.machine) _ _ _
  refine wpAny_pure ?_
  exact wpAny_bind (wpAny_mono hcall (fun r s₂ hr => wpAny_bind (wpAny_holding (wpAny_point (wpAny_pure hr)))) fun _ _ x => x)

/- add(e), where add is a list's bound append -/
theorem add_stmt {x : Str} {p pos pos' : Pos} {e : PySem.Expr} {rest : List Stmt} {s₀ : Shared} {G : Led} {D u : Addr} {ys : List Str} {y : Str} {Q : Flow → Shared → Prop} (S : St prog w s₀ ((D, .lS ys) :: G) s) (Dd : Gd K s₀.heap) (H : Has prog w F s₀.heap)
    (hu : (u, Ent.ob (bnd D)) ∈ G) (hx : Ex prog w K A env (((D, .lS ys) :: G) ++ F) (.Name x p) (.av (.ref u))) (he : Ex prog w K A env (((D, .lS ys) :: G) ++ F) e (.av (.str y))) (hd : ∀ p ∈ G, p.2.isDol = false) (hz : ys.length ≤ 1000)
    (h : ∀ s', St prog w s₀ ((D, .lS (ys ++ [y])) :: G) s' → wpAny (model prog w) A (execs rest env) Q E s')
    (hi : interactive env = false := by rfl) (hs : swapsWith (.Call (.Name x p) [e] [] pos) none pos'.line env = pure false := by rfl) (hp : plainE e = true := by rfl) :
    wpAny (model prog w) A (execs (.Expr (.Call (.Name x p) [e] [] pos) pos' :: rest) env) Q E s := by
  refine wpAny_execs_cons (wpAny_Expr ?_ hi hs)
  refine Call_Name rfl (hx s _ _ (S.gd Dd) (S.all H) fun v s₁ hv k₁ => ?_)
  cases hv
  have S₁ := S.keep k₁
  refine callWith_bnd (D := D) hp (he s₁ _ _ (S₁.gd Dd) (S₁.all H) fun v s₂ hv k₂ => ?_)
  obtain ⟨t, rfl⟩ := hv
  have S₂ := S₁.keep k₂
  refine ⟨S₂.has _ (List.mem_cons_of_mem _ hu), ?_⟩
  obtain ⟨vs, pl, sa⟩ := S₂.has _ (List.mem_cons_self)
  have hl := strs_len sa
  refine call_bnd (S₂.has _ (List.mem_cons_of_mem _ hu)) pl (by rw [List.size_toArray, hl]; exact ok_size hz) fun h' pl' hs' => ?_
  refine h _ (S₂.list (tk := s₂.toks) pl hs' ⟨vs ++ [.str y t], by simpa using pl', strs_snoc sa⟩ hd)
end
end Mine

-- B10
namespace Mine
open PySem PySem.Calls PyProof.Rows PySem.W

/- an expression that gives a new object -/
noncomputable def Xn (prog : Program) (w : World) (K : Frag) (A : Around) (env : Env) (F : Led) (e : PySem.Expr) (ent : Ent) : Prop :=
  ∀ (s : Shared) (E : PySem.Value → Shared → Prop) (Q : PySem.Value → Shared → Prop), Gd K s.heap → Has prog w F s.heap → (∀ a s', s.heap.get? a = none → ent.At prog w s'.heap a → Kp s s' → Q (.ref a) s') → wpAny (model prog w) A (eval e env) Q E s

section
variable {prog : Program} {w : World} {A : Around} {F : Led} {E : PySem.Value → Shared → Prop} {s s₀ : Shared} {K : Frag} {env : Env} {G : Led}

theorem Xn.ex {e : PySem.Expr} {ent : Ent} (h : Xn prog w K A env F e ent) : Ex prog w K A env F e (.new ent) := fun s E Q G H q => h s E Q G H fun a s' _ hat k => q _ s' ⟨a, rfl, hat⟩ k
theorem Xn.callF {x : Str} {p pos : Pos} {e : PySem.Expr} {es : List PySem.Expr} {f : Addr} {rs : List Res} {r : Ent} (hf : Ex prog w K A env F (.Name x p) (.av (.ref f))) (hfn : isFunc K f = true) (ha : Sx prog w K A env F (e :: es) rs)
    (hc : Gx prog w K A F (.ref f) rs r) (hp : plainE e = true := by rfl) : Xn prog w K A env F (.Call (.Name x p) (e :: es) [] pos) r := by
  intro s E Q G H h
  refine Call_Name rfl (hf s E _ G H fun v s₁ hv k₁ => ?_)
  cases hv
  have G₁ := G.up k₁.up
  obtain ⟨o, fd, ho, hd⟩ := isFunc_of G₁.X hfn
  refine callWith_function (o := o) (fd := fd) ?_
  rw [star_plain hp]
  refine evalArgs_plain ?_
  have := ha pos s₁ E (fun vs s₂ => (s₂.heap.get? f = some o ∧ o.data = .func fd) ∧ wpAny (model prog w) A (call (.ref f) ([] ++ vs) []) Q E s₂) G₁ (H.up k₁.up) fun vs s₂ hvs k₂ => ⟨⟨k₂.up _ _ ho, hd⟩, hc vs s₂ E Q (G₁.up k₂.up) ((H.up k₁.up).up k₂.up) hvs fun v s₃ ⟨a, hv, hn, hat, k₃⟩ => by
    subst hv
    refine h a s₃ ?_ hat (k₁.tr (k₂.tr k₃))
    cases z : s.heap.get? a with
    | none => rfl
    | some o => have := (k₁.tr k₂).up _ _ z; rw [hn] at this; cases this⟩
  rw [star_plain hp] at this
  exact this
theorem Xn.nilS {pos : Pos} : Xn prog w K A env F (.List [] pos) (.lS []) := by
  intro s E Q G H q
  refine wpAny_List (wpAny_items_nil ⟨Nat.zero_le _, q _ _ (Heap.get?_none_of_le (Nat.le_refl _)) ⟨[], ⟨0, Heap.get?_push_size _ rfl⟩, .nil⟩ (Kp.push s _)⟩)
theorem Xn.nilI {pos : Pos} : Xn prog w K A env F (.List [] pos) (.lI []) := by
  intro s E Q G H q
  refine wpAny_List (wpAny_items_nil ⟨Nat.zero_le _, q _ _ (Heap.get?_none_of_le (Nat.le_refl _)) ⟨[], ⟨0, Heap.get?_push_size _ rfl⟩, .nil⟩ (Kp.push s _)⟩)

theorem St.at {pre post : Led} {a : Addr} {e : Ent} (S : St prog w s₀ (pre ++ (a, e) :: post) s) : St prog w s₀ ((a, e) :: (pre ++ post)) s := S.perm List.perm_middle.symm
theorem St.to {pre post : Led} {a : Addr} {e : Ent} (S : St prog w s₀ ((a, e) :: (pre ++ post)) s) : St prog w s₀ (pre ++ (a, e) :: post) s := S.perm List.perm_middle

/- x = e, a plain value, x a local -/
theorem as_local {x : Str} {p' pos : Pos} {e : PySem.Expr} {rest : List Stmt} {L : Addr} {m : List (Str × AV)} {v : AV} {Q : Flow → Shared → Prop} (S : St prog w s₀ ((L, .nm m) :: G) s) (D : Gd K s₀.heap) (H : Has prog w F s₀.heap)
    (he : Ex prog w K A env (((L, .nm m) :: G) ++ F) e (.av v)) (h : ∀ s', St prog w s₀ ((L, .nm (setAl x v m)) :: G) s' → wpAny (model prog w) A (execs rest env) Q E s')
    (hs : swapsWith e (some (.Name x p')) pos.line env = pure false := by rfl) (hL : env.locals = L := by rfl) (hl : env.kindOf x = some .local := by rfl) (hp : (env.scope.kind == .class || (env.scope.kind == .module && env.locals != env.globals)) = false := by rfl) :
    wpAny (model prog w) A (execs (.Assign [.Name x p'] e pos :: rest) env) Q E s := by
  refine wpAny_execs_cons (wpAny_Assign_Name (he s _ _ (S.gd D) (S.all H) fun u s' hu k => ?_) hs)
  exact (S.keep k).store hu (fun s'' S' => h s'' S') hL hl hp
/- x = e, a new object, x a local -/
theorem as_new {x : Str} {p' pos : Pos} {e : PySem.Expr} {rest : List Stmt} {L : Addr} {m : List (Str × AV)} {ent : Ent} {Q : Flow → Shared → Prop} (S : St prog w s₀ ((L, .nm m) :: G) s) (D : Gd K s₀.heap) (H : Has prog w F s₀.heap)
    (he : Xn prog w K A env (((L, .nm m) :: G) ++ F) e ent) (h : ∀ a s', St prog w s₀ ((L, .nm (setAl x (.ref a) m)) :: (a, ent) :: G) s' → wpAny (model prog w) A (execs rest env) Q E s')
    (hs : swapsWith e (some (.Name x p')) pos.line env = pure false := by rfl) (hL : env.locals = L := by rfl) (hl : env.kindOf x = some .local := by rfl) (hp : (env.scope.kind == .class || (env.scope.kind == .module && env.locals != env.globals)) = false := by rfl) :
    wpAny (model prog w) A (execs (.Assign [.Name x p'] e pos :: rest) env) Q E s := by
  refine wpAny_execs_cons (wpAny_Assign_Name (he s _ _ (S.gd D) (S.all H) fun a s' hn hat k => ?_) hs)
  have S' := (S.add k hn hat).perm (G' := (L, .nm m) :: (a, ent) :: G) (List.Perm.swap ..)
  exact S'.store (av := .ref a) rfl (fun s'' S'' => h a s'' S'') hL hl hp
/- x = e, a plain value, x a cell -/
theorem as_cell {pre post : Led} {x : Str} {p' pos : Pos} {e : PySem.Expr} {rest : List Stmt} {c : Addr} {v₀ : Option AV} {v : AV} {Q : Flow → Shared → Prop} (S : St prog w s₀ (pre ++ (c, .ce v₀) :: post) s) (D : Gd K s₀.heap) (H : Has prog w F s₀.heap)
    (he : Ex prog w K A env ((pre ++ (c, .ce v₀) :: post) ++ F) e (.av v)) (h : ∀ s', St prog w s₀ (pre ++ (c, .ce (some v)) :: post) s' → wpAny (model prog w) A (execs rest env) Q E s')
    (hs : swapsWith e (some (.Name x p')) pos.line env = pure false := by rfl) (hk : env.scope.kind = .function := by rfl) (hl : env.kindOf x = some .cell := by rfl) (hc : env.cells.lookup x = some c := by rfl) :
    wpAny (model prog w) A (execs (.Assign [.Name x p'] e pos :: rest) env) Q E s := by
  refine wpAny_execs_cons (wpAny_Assign_Name (he s _ _ (S.gd D) (S.all H) fun u s' hu k => ?_) hs)
  exact (S.keep k).at.storeC (L := 0) hu (fun s'' S' => h s'' S'.to) hk hl hc
/- x = e, a new object, x a cell -/
theorem as_cellN {pre post : Led} {x : Str} {p' pos : Pos} {e : PySem.Expr} {rest : List Stmt} {c : Addr} {v₀ : Option AV} {ent : Ent} {Q : Flow → Shared → Prop} (S : St prog w s₀ (pre ++ (c, .ce v₀) :: post) s) (D : Gd K s₀.heap) (H : Has prog w F s₀.heap)
    (he : Xn prog w K A env ((pre ++ (c, .ce v₀) :: post) ++ F) e ent) (h : ∀ a s', St prog w s₀ (pre ++ (c, .ce (some (.ref a))) :: (a, ent) :: post) s' → wpAny (model prog w) A (execs rest env) Q E s')
    (hs : swapsWith e (some (.Name x p')) pos.line env = pure false := by rfl) (hk : env.scope.kind = .function := by rfl) (hl : env.kindOf x = some .cell := by rfl) (hc : env.cells.lookup x = some c := by rfl) :
    wpAny (model prog w) A (execs (.Assign [.Name x p'] e pos :: rest) env) Q E s := by
  refine wpAny_execs_cons (wpAny_Assign_Name (he s _ _ (S.gd D) (S.all H) fun a s' hn hat k => ?_) hs)
  have S' := (S.add k hn hat).perm (G' := (c, .ce v₀) :: (pre ++ (a, ent) :: post)) (by
    refine List.Perm.trans (List.Perm.cons _ List.perm_middle) ?_
    refine List.Perm.trans (List.Perm.swap ..) ?_
    exact List.Perm.cons _ List.perm_middle.symm)
  refine S'.storeC (L := 0) (av := .ref a) rfl (fun s'' S'' => h a s'' ?_) hk hl hc
  exact S''.perm List.perm_middle
/- an expression statement: D.append(e), a text -/
theorem fx_lenS (x : Str) (hx : x.length < 1000) : Fx prog w K A F (.builtin "len") [.av (.str x)] (.av (.int x.length)) := by
  intro vs s E Q G H ha h
  obtain ⟨v, rfl, t, hv⟩ := ha.one
  focus
    subst hv
    have hf : ¬ (x.length : Int) ≥ 2 ^ 63 := by
      have : (x.length : Int) < 1000 := by exact_mod_cast hx
      omega
    refine P.len_str hf ?_
    exact h (.int x.length (s.toks + 1)) { s with toks := s.toks + 1 + 1 } ⟨_, rfl⟩ ⟨_, _, rfl, Up.refl _⟩

/- x, y = a, b (two ints, two locals) -/
theorem as_two {x y : Str} {px py pt pos : Pos} {kt : Nat} {e : PySem.Expr} {rest : List Stmt} {L : Addr} {m : List (Str × AV)} {a b : Int} {Q : Flow → Shared → Prop} (hh : A.handled = none) (S : St prog w s₀ ((L, .nm m) :: G) s) (D : Gd K s₀.heap) (H : Has prog w F s₀.heap)
    (he : Ex prog w K A env (((L, .nm m) :: G) ++ F) e (.new (.tI [a, b]))) (h : ∀ s', St prog w s₀ ((L, .nm (setAl x (.int a) (setAl y (.int b) m))) :: G) s' → wpAny (model prog w) A (execs rest env) Q E s')
    (hs : swapsWithSole [.Tuple [.Name x px, .Name y py] kt pt] e pos.line env = pure false := by rfl) (hw : swappedStores [.Tuple [.Name x px, .Name y py] kt pt] e env = pure (some [x, y]) := by rfl)
    (hL : env.locals = L := by rfl) (hlx : env.kindOf x = some .local := by rfl) (hly : env.kindOf y = some .local := by rfl) (hp : (env.scope.kind == .class || (env.scope.kind == .module && env.locals != env.globals)) = false := by rfl) :
    wpAny (model prog w) A (execs (.Assign [.Tuple [.Name x px, .Name y py] kt pt] e pos :: rest) env) Q E s := by
  refine wpAny_execs_cons (Assign_Tuple_swapped (he s _ _ (S.gd D) (S.all H) fun u s' hu k => ?_) hs hw)
  obtain ⟨t, rfl, vs, ht, hi⟩ := hu
  obtain _ | ⟨_, t1, hi⟩ := hi
  obtain _ | ⟨_, t2, hi⟩ := hi
  cases hi
  refine unpackItems_tuple (items := #[.int a t1, .int b t2]) hh ht fun h' he' => ?_
  have kk : Kp s' { s' with heap := h' } := ⟨⟨h', s'.toks, rfl, fun c o q => he' c o (Nat.ne_of_lt (Heap.lt_size q)) q⟩⟩
  have S₁ := (S.keep k).keep kk
  refine wpAny_assignInOrder_more (wpAny_bindName (S₁.store (av := .int b) ⟨t2, rfl⟩ (fun s₂ S₂ => ?_) hL hly hp))
  refine wpAny_assignInOrder_more (wpAny_bindName (S₂.store (av := .int a) ⟨t1, rfl⟩ (fun s₃ S₃ => ?_) hL hlx hp))
  exact wpAny_assignInOrder_none (h s₃ S₃)
end
end Mine

-- B11
namespace Mine
open PySem PySem.Calls PyProof.Rows PySem.W

noncomputable def Ent.items : Ent → Option (List AV)
  | .lS ys => some (ys.map .str)
  | .lI ns => some (ns.map .int)
  | .lA l => some l
  | _ => none
theorem paired_strs {vs : List PySem.Value} {ys : List Str} (x : StrsAre vs ys) : Paired AV.Is (ys.map .str) vs := by
  induction x with
  | nil => exact .nil
  | cons a b r ih => exact .cons ⟨b, rfl⟩ ih
theorem paired_ints {vs : List PySem.Value} {ns : List Int} (x : IntsAre vs ns) : Paired AV.Is (ns.map .int) vs := by
  induction x with
  | nil => exact .nil
  | cons a b r ih => exact .cons ⟨b, rfl⟩ ih
theorem strs_paired {ys : List Str} : ∀ {vs : List PySem.Value}, Paired AV.Is (ys.map .str) vs → StrsAre vs ys := by
  induction ys with
  | nil => intro vs x; cases x; exact .nil
  | cons y ys ih => intro vs x; obtain _ | ⟨⟨t, e⟩, r⟩ := x; subst e; exact .cons y t (ih r)
theorem ints_paired {ns : List Int} : ∀ {vs : List PySem.Value}, Paired AV.Is (ns.map .int) vs → IntsAre vs ns := by
  induction ns with
  | nil => intro vs x; cases x; exact .nil
  | cons y ys ih => intro vs x; obtain _ | ⟨⟨t, e⟩, r⟩ := x; subst e; exact .cons y t (ih r)
theorem paired_get {l : List AV} {vs : List PySem.Value} (x : Paired AV.Is l vs) : ∀ {i : Nat}, i < l.length → ∃ v, vs[i]? = some v ∧ (l[i]?.getD .none).Is v := by
  induction x with
  | nil => intro i h; simp at h
  | cons h t ih =>
    intro i hi
    cases i with
    | zero => exact ⟨_, rfl, h⟩
    | succ i => simpa using ih (by simpa using hi)

section
variable {prog : Program} {w : World}
theorem Ent.At.list {h : Heap} {a : Addr} {e : Ent} {l : List AV} (x : e.At prog w h a) (q : e.items = some l) : ∃ vs : List PySem.Value, h.PlainList a vs.toArray ∧ Paired AV.Is l vs := by
  cases e with
  | lS ys => obtain ⟨vs, x, y⟩ := x; exact ⟨vs, x, (Option.some.inj (show some (ys.map AV.str) = some l from q)) ▸ paired_strs y⟩
  | lI ns => obtain ⟨vs, x, y⟩ := x; exact ⟨vs, x, (Option.some.inj (show some (ns.map AV.int) = some l from q)) ▸ paired_ints y⟩
  | lA l' => obtain ⟨vs, x, y⟩ := x; exact ⟨vs, x, (Option.some.inj (show some l' = some l from q)) ▸ y⟩
  | _ => exact none_ne q
theorem lA_lS {h : Heap} {a : Addr} {ys : List Str} (x : (Ent.lA (ys.map .str)).At prog w h a) : (Ent.lS ys).At prog w h a := by obtain ⟨vs, x, y⟩ := x; exact ⟨vs, x, strs_paired y⟩
theorem lA_lI {h : Heap} {a : Addr} {ns : List Int} (x : (Ent.lA (ns.map .int)).At prog w h a) : (Ent.lI ns).At prog w h a := by obtain ⟨vs, x, y⟩ := x; exact ⟨vs, x, ints_paired y⟩

/- two ledgers, one made on top of the other -/
theorem St.plus {s₀ s s' : Shared} {G G' : Led} (S : St prog w s₀ G s) (T : St prog w s G' s') : St prog w s₀ (G' ++ G) s' := by
  have f : ∀ p ∈ G, ∃ o, s.heap.get? p.1 = some o := fun p hp => (S.has p hp).there
  refine ⟨S.kp.tr T.kp, T.has.append (S.has.up T.kp.up), fun p hp => ?_, ?_⟩
  · rcases List.mem_append.mp hp with hp | hp
    · cases q : s₀.heap.get? p.1 with
      | none => rfl
      | some o => have := S.kp.up _ o q; rw [T.fresh p hp] at this; cases this
    · exact S.fresh p hp
  · rw [List.map_append, List.nodup_append]
    refine ⟨T.nd, S.nd, fun a ha b hb q => ?_⟩
    subst q
    obtain ⟨p, hp, e⟩ := List.mem_map.mp ha
    obtain ⟨p', hp', e'⟩ := List.mem_map.mp hb
    obtain ⟨o, ho⟩ := f p' hp'
    have := T.fresh p hp
    rw [e, ← e', ho] at this; cases this
theorem St.start (s : Shared) : St prog w s [] s := ⟨Kp.refl s, Has.nil, fun _ h => absurd h List.not_mem_nil, List.nodup_nil⟩

/- an iterator's turns -/
structure Itr (prog : Program) (w : World) (F : Led) (I : Addr) (n : Nat) (e : Nat → Obj → Prop) (it : Nat → AV) : Prop where
  item : ∀ (A : Around) (i : Nat) (s₀ : Shared) (G : Led) (s : Shared) (Q : Option PySem.Value → Shared → Prop) (E : PySem.Value → Shared → Prop), A.handled = none → i < n → St prog w s₀ ((I, .own (e i)) :: G) s → Has prog w F s.heap →
    (∀ v s', (it i).Is v → St prog w s₀ ((I, .own (e (i + 1))) :: G) s' → Q (some v) s') → wpAny (model prog w) A (pyNext (.ref I)) Q E s
  done : ∀ (A : Around) (s₀ : Shared) (G : Led) (s : Shared) (Q : Option PySem.Value → Shared → Prop) (E : PySem.Value → Shared → Prop), A.handled = none → St prog w s₀ ((I, .own (e n)) :: G) s → Has prog w F s.heap →
    (∀ s', St prog w s₀ G s' → Q none s') → wpAny (model prog w) A (pyNext (.ref I)) Q E s
  self : ∀ (A : Around) (i : Nat) (s : Shared) (Q : PySem.Value → Shared → Prop) (E : PySem.Value → Shared → Prop), (Ent.own (e i)).At prog w s.heap I → Q (.ref I) s → wpAny (model prog w) A (pyIter (.ref I)) Q E s
  go : ∀ (A : Around) (elts : List PySem.Expr) (k : Nat) (pos : Pos) (i : Nat) (t : Addr) (s : Shared) (Q : Unit → Shared → Prop) (E : PySem.Value → Shared → Prop), (Ent.own (e i)).At prog w s.heap I → Q () s → wpAny (model prog w) A (letOwnedTupleGo (.Tuple elts k pos) (.ref I) (.ref t)) Q E s

theorem go_of {A : Around} {elts : List PySem.Expr} {k : Nat} {pos : Pos} {I T : Addr} {o : Obj} {c : String} {fs : Array PySem.Value} {s : Shared} {Q : Unit → Shared → Prop} {E : PySem.Value → Shared → Prop} (ho : s.heap.get? I = some o) (hc : o.cls = .type c) (hd : o.data = .fields fs)
    (hn : ["enumerate", "zip", "dict_itemiterator", "dict_reverseitemiterator", "odict_iterator", "itertools.zip_longest", "itertools.pairwise"].contains c = false) (hQ : Q () s) :
    wpAny (model prog w) A (letOwnedTupleGo (.Tuple elts k pos) (.ref I) (.ref T)) Q E s := by
  unfold letOwnedTupleGo
  refine wpAny_bind (wpAny_load ho ?_)
  rw [hc, hd]
  show wpAny _ A (if (["enumerate", "zip", "dict_itemiterator", "dict_reverseitemiterator", "odict_iterator", "itertools.zip_longest", "itertools.pairwise"].contains c && fs[0]? == some (rawInt T)) = true then _ else _) Q E s
  rw [if_neg (by rw [hn]; simp)]
  exact wpAny_pure hQ

noncomputable def isLI (ax : Addr) (i : Nat) (o : Obj) : Prop := o.cls = .type "list_iterator" ∧ o.data = .fields #[.ref ax, .int i 0]
theorem own_LI {h : Heap} {I ax : Addr} {i : Nat} : (Ent.own (isLI ax i)).At prog w h I ↔ h.IsListIter I ax i :=
  ⟨by rintro ⟨o, ho, ⟨a, b⟩, _⟩; exact ⟨o, ho, a, b⟩, by rintro ⟨o, ho, a, b⟩; exact ⟨o, ho, ⟨a, b⟩, fun _ _ q => by rw [b] at q; cases q⟩⟩

theorem Itr.list {F : Led} {I ax : Addr} {ent : Ent} {l : List AV} (hm : (ax, ent) ∈ F) (hi : ent.items = some l) : Itr prog w F I l.length (isLI ax) (fun i => l[i]?.getD .none) where
  item := fun A i s₀ G s Q E hh hlt S H h => by
    have o := S.has _ (List.mem_cons_self)
    obtain ⟨vs, pl, pa⟩ := (H _ hm).list hi
    obtain ⟨v, ev, hv⟩ := paired_get pa hlt
    refine wpAny_pyNext_list_item (own_LI.mp o) pl.isList (x := v) (by simpa using ev) fun h' hit hs => ?_
    exact h v _ hv (S.soft (tk := s.toks) hs (own_LI.mpr hit) (own_noTup o) (own_noList o))
  done := fun A s₀ G s Q E hh S H h => by
    have o := S.has _ (List.mem_cons_self)
    obtain ⟨vs, pl, pa⟩ := (H _ hm).list hi
    refine wpAny_pyNext_list_end hh (own_LI.mp o) pl.isList (by have := pa.length; simp; omega) fun h' he => ?_
    exact h _ (S.gone (tk := s.toks) he (own_noTup o) (own_noList o))
  self := fun A i s Q E o h => wpAny_pyIter_listiter (own_LI.mp o) h
  go := fun A elts k pos i t s Q E x h => by obtain ⟨o, ho, ⟨a, b⟩, _⟩ := x; exact go_of ho a b (by decide) h

noncomputable def isRI (a c : Int) (n i : Nat) (o : Obj) : Prop := o = { cls := .type "range_iterator", dict := none, data := .fields #[rawInt (a + i * c), rawInt ((n : Int) - i), rawInt c], slots := #[] }
theorem own_RI {h : Heap} {I : Addr} {a c : Int} {n i : Nat} : (Ent.own (isRI a c n i)).At prog w h I ↔ IsRangeIter h I (a + i * c) ((n : Int) - i) c :=
  ⟨by rintro ⟨o, ho, e, _⟩; cases e; exact ho, fun ho => ⟨_, ho, rfl, fun _ _ q => by cases q⟩⟩
theorem Itr.range {F : Led} {I : Addr} {a c : Int} {n : Nat} : Itr prog w F I n (isRI a c n) (fun i => .int (a + i * c)) where
  item := fun A i s₀ G s Q E hh hlt S H h => by
    have o := S.has _ (List.mem_cons_self)
    refine wpAny_pyNext_range_item (own_RI.mp o) (by omega) fun h' hit hs => ?_
    refine h _ _ ⟨_, rfl⟩ (S.soft (tk := s.toks + 1) hs (own_RI.mpr ?_) (own_noTup o) (own_noList o))
    have e1 : a + ((i + 1 : Nat) : Int) * c = a + (i : Int) * c + c := by push_cast; rw [Int.add_mul, Int.one_mul, Int.add_assoc]
    have e2 : (n : Int) - ((i + 1 : Nat) : Int) = (n : Int) - (i : Int) - 1 := (Int.sub_sub (n : Int) (i : Int) 1).symm
    rw [e1, e2]; exact hit
  done := fun A s₀ G s Q E hh S H h => by
    have o := S.has _ (List.mem_cons_self)
    refine wpAny_pyNext_range_end hh (own_RI.mp o) (by omega) fun h' he => ?_
    exact h _ (S.gone (tk := s.toks) he (own_noTup o) (own_noList o))
  self := fun A i s Q E o h => wpAny_pyIter_rangeiter (own_RI.mp o) h
  go := fun A elts k pos i t s Q E x h => by obtain ⟨o, ho, a, _⟩ := x; cases a; exact go_of ho rfl rfl (by decide) h

noncomputable def isSI (x : Str) (t : Tok) (i : Nat) (o : Obj) : Prop := o.cls = .type "str_ascii_iterator" ∧ o.data = .fields #[.str x t, .int i 0]
theorem own_SI {h : Heap} {I : Addr} {x : Str} {t : Tok} {i : Nat} : (Ent.own (isSI x t i)).At prog w h I ↔ h.IsStrIter I "str_ascii_iterator" x t i :=
  ⟨by rintro ⟨o, ho, ⟨a, b⟩, _⟩; exact ⟨o, ho, a, b⟩, by rintro ⟨o, ho, a, b⟩; exact ⟨o, ho, ⟨a, b⟩, fun _ _ q => by rw [b] at q; cases q⟩⟩
theorem Itr.str {F : Led} {I : Addr} {x : Str} {t : Tok} : Itr prog w F I x.cps.size (isSI x t) (fun i => .str ⟨#[x.cps[i]?.getD 0]⟩) where
  item := fun A i s₀ G s Q E hh hlt S H h => by
    have o := S.has _ (List.mem_cons_self)
    refine wpAny_pyNext_ascii_item (own_SI.mp o) (c := x.cps[i]) (by simp [hlt]) fun h' hit hs => ?_
    exact h _ _ ⟨_, by simp [hlt]; rfl⟩ (S.soft (tk := s.toks + 1) hs (own_SI.mpr hit) (own_noTup o) (own_noList o))
  done := fun A s₀ G s Q E hh S H h => by
    have o := S.has _ (List.mem_cons_self)
    refine wpAny_pyNext_ascii_end hh (own_SI.mp o) (by simp) fun h' he => ?_
    exact h _ (S.gone (tk := s.toks) he (own_noTup o) (own_noList o))
  self := fun A i s Q E o h => wpAny_pyIter_striter_ascii (own_SI.mp o) h
  go := fun A elts k pos i t s Q E x h => by obtain ⟨o, ho, ⟨a, b⟩, _⟩ := x; exact go_of ho a b (by decide) h

/- an expression that is walked -/
noncomputable def Ix (prog : Program) (w : World) (K : Frag) (A : Around) (env : Env) (F : Led) (e : PySem.Expr) (its : List AV) : Prop :=
  ∀ (s : Shared) (E : PySem.Value → Shared → Prop) (Q : PySem.Value → Shared → Prop), Gd K s.heap → Has prog w F s.heap →
    (∀ s₁ I f F' s', Kp s s₁ → Has prog w F' s₁.heap → Itr prog w F' I its.length f (fun i => its[i]?.getD .none) → St prog w s₁ [(I, .own (f 0))] s' → Q (.ref I) s') →
    wpAny (model prog w) A (eval e env) (fun x s₁ => wpAny (model prog w) A (pyIter x) Q E s₁) E s

section
variable {K : Frag} {A : Around} {env : Env} {F : Led}
theorem St.one {s : Shared} {o : Obj} {e : Ent} (h : e.At prog w (s.heap.push o) s.heap.objs.size) : St prog w s [(s.heap.objs.size, e)] { s with heap := s.heap.push o } :=
  (St.start s).add (Kp.push s o) (Heap.get?_none_of_le (Nat.le_refl _)) h

theorem Ix.list {e : PySem.Expr} {ax : Addr} {ent : Ent} {its : List AV} (he : Ex prog w K A env F e (.av (.ref ax))) (hm : (ax, ent) ∈ F) (hi : ent.items = some its) : Ix prog w K A env F e its := by
  intro s E Q G H h
  refine he s _ _ G H fun v s₁ hv k => ?_
  cases hv
  have H₁ := H.up k.up
  obtain ⟨vs, pl, pa⟩ := (H₁ _ hm).list hi
  refine wpAny_pyIter_list pl.isList ?_
  exact h s₁ _ (isLI ax) F _ k H₁ (Itr.list hm hi) (St.one (own_LI.mpr ⟨_, Heap.get?_push_size _ rfl, rfl, rfl⟩))
/- a plain value that is walked: nothing else need stand -/
noncomputable def Iy (prog : Program) (w : World) (K : Frag) (A : Around) (env : Env) (F : Led) (e : PySem.Expr) (its : List AV) : Prop :=
  ∀ (s : Shared) (E : PySem.Value → Shared → Prop) (Q : PySem.Value → Shared → Prop), Gd K s.heap → Has prog w F s.heap →
    (∀ s₁ I f s', Kp s s₁ → Itr prog w [] I its.length f (fun i => its[i]?.getD .none) → St prog w s₁ [(I, .own (f 0))] s' → Q (.ref I) s') →
    wpAny (model prog w) A (eval e env) (fun x s₁ => wpAny (model prog w) A (pyIter x) Q E s₁) E s
theorem Iy.ix {e : PySem.Expr} {its : List AV} (h : Iy prog w K A env F e its) : Ix prog w K A env F e its := fun s E Q G H q => h s E Q G H fun s₁ I f s' k It S => q s₁ I f [] s' k Has.nil It S
theorem Ix.new {e : PySem.Expr} {ent : Ent} {its : List AV} (he : Ex prog w K A env F e (.new ent)) (hi : ent.items = some its) : Ix prog w K A env F e its := by
  intro s E Q G H h
  refine he s _ _ G H fun v s₁ hv k => ?_
  obtain ⟨ax, rfl, at_⟩ := hv
  obtain ⟨vs, pl, pa⟩ := at_.list hi
  refine wpAny_pyIter_list pl.isList ?_
  exact h s₁ _ (isLI ax) [(ax, ent)] _ k (Has.nil.cons at_) (Itr.list List.mem_cons_self hi) (St.one (own_LI.mpr ⟨_, Heap.get?_push_size _ rfl, rfl, rfl⟩))
theorem Iy.str {e : PySem.Expr} {x : Str} {its : List AV} (he : Ex prog w K A env F e (.av (.str x))) (ha : x.cps.all (· < 128) = true) (hi : its = x.cps.toList.map fun c => .str ⟨#[c]⟩) : Iy prog w K A env F e its := by
  intro s E Q G H h
  refine he s _ _ G H fun v s₁ hv k => ?_
  obtain ⟨t, rfl⟩ := hv
  refine wpAny_pyIter_ascii ha ?_
  subst hi
  refine h s₁ _ (isSI x t) _ k ?_ (St.one (own_SI.mpr ⟨_, Heap.get?_push_size _ rfl, rfl, rfl⟩))
  have := Itr.str (prog := prog) (w := w) (F := []) (I := s₁.heap.objs.size) (x := x) (t := t)
  refine ⟨fun A i s₀ G s Q E hh hlt S H h => ?_, fun A s₀ G s Q E hh S H h => ?_, this.self, this.go⟩
  · have hl : i < x.cps.size := by simpa using hlt
    refine this.item A i s₀ G s Q E hh hl S H fun v s' hv => h v s' ?_
    simpa [hl] using hv
  · exact this.done A s₀ G s Q E hh (by simpa using S) H h
theorem Iy.range {p pos : Pos} {e : PySem.Expr} {n : Nat} (hn : n < 2 ^ 31) (hf : Ex prog w K A env F (.Name "range" p) (.av (.ty "range"))) (he : Ex prog w K A env F e (.av (.int n))) (hp : plainE e = true := by rfl) :
    Iy prog w K A env F (.Call (.Name "range" p) [e] [] pos) ((List.range n).map fun (i : Nat) => AV.int i) := by
  intro s E Q G H h
  refine Call_Name rfl (hf s _ _ G H fun v s₁ hv k₁ => ?_)
  cases hv
  refine PyProof.Rows.callWith_type (any_plain [e] (by simp [hp]) pos) ?_
  rw [star_plain hp]
  refine evalArgs_plain (spliced_cons (he s₁ _ _ (G.up k₁.up) (H.up k₁.up) fun v s₂ hv k₂ => spliced_nil ?_))
  obtain ⟨t, rfl⟩ := hv
  refine call_range_1 ?_
  have hr : IsRange (s₂.heap.push { cls := .type "range", data := .fields #[.int 0 s₂.toks, .int n t, .int 1 (s₂.toks + 1)] }) s₂.heap.objs.size 0 n 1 s₂.toks t (s₂.toks + 1) := IsRange.new ..
  have hz : Builtin.Range.rangeSize 0 n 1 = (n : Int) := by rw [rangeSize_one]; split <;> omega
  refine wpAny_pyIter_range hr (small_one (by omega) (by omega) (by omega) (by omega)) ?_
  rw [hz]
  refine h _ _ (isRI 0 1 n) _ ((k₁.tr k₂).tr (Kp.pushT s₂ _ _)) ?_ (St.one (own_RI.mpr ?_))
  · have := Itr.range (prog := prog) (w := w) (F := []) (I := (s₂.heap.push { cls := .type "range", data := .fields #[.int 0 s₂.toks, .int n t, .int 1 (s₂.toks + 1)] }).objs.size) (a := 0) (c := 1) (n := n)
    refine ⟨fun A i s₀ G s Q E hh hlt S H h => ?_, fun A s₀ G s Q E hh S H h => ?_, this.self, this.go⟩
    · have hl : i < n := by simpa using hlt
      refine this.item A i s₀ G s Q E hh hl S H fun v s' hv => h v s' ?_
      simpa [hl] using hv
    · exact this.done A s₀ G s Q E hh (by simpa using S) H h
  · rw [show (0 : Int) + ((0 : Nat) : Int) * 1 = 0 by simp, show (n : Int) - ((0 : Nat) : Int) = n by simp]; exact Heap.get?_push_size _ rfl
end
end
end Mine

-- B12
namespace Mine
open PySem PySem.Calls PyProof.Rows PySem.W

section
variable {prog : Program} {w : World} {A : Around} {E : PySem.Value → Shared → Prop} {R : Result → Shared → Prop} {s : Shared}

noncomputable def nextGen (elt : PySem.Expr) (gens : List Comprehension) (scope : Scope) (pos : Pos) (d : Nat) (acc : PySem.Value) (env : Env) : Sem Unit :=
  match gens[d + 1]? with
  | some g' => do
    let x ← eval g'.iter env
    standAt g'.iter.pos
    let x ← if g'.is_async != 0 then foldedIterable g'.iter x else foldedSetIterable g'.iter env x
    let _ ← runOwn (.compStart (.ListComp elt gens scope pos) (d + 1) (← holding [x] (if g'.is_async != 0 then asyncIter x else pyIter x)) acc env) env
  | none => do let _ ← call (.builtin "list.append") [acc, ← eval elt env]

/- one turn of a list comprehension's walk -/
theorem comp_turn {elt target iter : PySem.Expr} {ifs : List PySem.Expr} {gens : List Comprehension} {scope : Scope} {pos : Pos} {d : Nat} {it acc : PySem.Value} {env : Env} (hg : gens[d]? = some ⟨target, iter, ifs, 0⟩)
    (h : wpAny (model prog w) A (pyNext it) (fun r s₁ => match r with
      | none => R (.ok .next) s₁
      | some v => wpAny (model prog w) A (letOwnedTupleGo target it v) (fun _ s₁' => wpAny (model prog w) A (assign target env v) (fun _ s₂ =>
          wpAny (model prog w) A (forIn ifs true fun c r => if r = true then do let ok ← isTrue c env (eval c env); pure (ForInStep.yield ok) else pure (ForInStep.yield r)) (fun ok s₃ =>
            if ok = true then wpAny (model prog w) A (nextGen elt gens scope pos d acc env) (fun _ s₄ => codeAny (model prog w) A (.compLoop (.ListComp elt gens scope pos) d it acc env) R s₄) (notedBy (model prog w) A env fun e s' => R (.error e) s') s₃
            else codeAny (model prog w) A (.compLoop (.ListComp elt gens scope pos) d it acc env) R s₃) (notedBy (model prog w) A env fun e s' => R (.error e) s') s₂) (notedBy (model prog w) A env fun e s' => R (.error e) s') s₁')
          (notedBy (model prog w) A env fun e s' => R (.error e) s') s₁) (notedBy (model prog w) A env fun e s' => R (.error e) s') s) :
    codeAny (model prog w) A (.compLoop (.ListComp elt gens scope pos) d it acc env) R s := by
  refine codeAny_of_tree ?_
  show wpAny _ A ((compTurn (.ListComp elt gens scope pos) d it acc env).onRaise (fun x => do noteFrame x env; theTreesLotGoes x)) _ _ s
  refine wpAny_noted ?_
  have e : compTurn (.ListComp elt gens scope pos) d it acc env = (do
        standAt iter.pos
        match ← pyNext it with
        | none => pure (.done .next)
        | some v =>
          letOwnedTupleGo target it v
          assign target env v
          let mut ok := true
          for c in ifs do
            if ok then ok ← isTrue c env (eval c env)
          if ok then nextGen elt gens scope pos d acc env
          again (.compLoop (.ListComp elt gens scope pos) d it acc env)) := by
    cases hg' : gens[d + 1]? with
    | none =>
      delta compTurn nextGen
      dsimp only
      rw [hg]
      dsimp only
      rw [hg']
      dsimp only
      simp (iota := false) only [bind_assoc, pure_bind]
      rfl
    | some g' =>
      delta compTurn nextGen
      dsimp only
      rw [hg]
      dsimp only
      rw [hg']
      dsimp only
      cases hga : g'.is_async != 0
      · simp (iota := false) only [bind_assoc, pure_bind, Bool.false_eq_true, ↓reduceIte]
        rfl
      · simp (iota := false) only [bind_assoc, pure_bind, ↓reduceIte]
        rfl
  rw [e]
  refine wpAny_bind (wpAny_standAt (wpAny_bind (wpAny_mono h (fun r s₁ h₁ => ?_) fun _ _ h' => h')))
  cases r with
  | none => exact wpAny_pure h₁
  | some v =>
    refine wpAny_bind (wpAny_mono h₁ (fun _ s₁' h₁' => ?_) fun _ _ h' => h')
    refine wpAny_bind (wpAny_mono h₁' (fun _ s₂ h₂ => wpAny_bind (wpAny_mono h₂ (fun ok s₃ h₃ => ?_) fun _ _ h' => h')) fun _ _ h' => h')
    cases ok with
    | false => exact wpAny_pure ⟨rfl, h₃⟩
    | true => exact wpAny_bind (wpAny_mono h₃ (fun x s₄ h₄ => wpAny_pure ⟨rfl, h₄⟩) fun _ _ h' => h')

theorem comp_start {elt target iter : PySem.Expr} {ifs : List PySem.Expr} {gens : List Comprehension} {scope : Scope} {pos : Pos} {d : Nat} {it acc : PySem.Value} {env : Env} (hg : gens[d]? = some ⟨target, iter, ifs, 0⟩)
    (hp : ∀ (Q : PySem.Value → Shared → Prop) (E : PySem.Value → Shared → Prop), Q it s → wpAny (model prog w) A (pyIter it) Q E s)
    (h : codeAny (model prog w) A (.compLoop (.ListComp elt gens scope pos) d it acc env) R s) :
    codeAny (model prog w) A (.compStart (.ListComp elt gens scope pos) d it acc env) R s := by
  refine codeAny_of_tree ?_
  show wpAny _ A ((compStart (.ListComp elt gens scope pos) d it acc env).onRaise (fun x => do noteFrame x env; standAt theWindowsPlace)) _ _ s
  refine wpAny_notedAt ?_
  have e : compStart (.ListComp elt gens scope pos) d it acc env = (do
        if (← ask).params.followText "comprehension-iter-twice" then return ← again (.compLoop (.ListComp elt gens scope pos) d it acc env)
        rule "comprehension.iter-twice"
        standAt iter.pos
        again (.compLoop (.ListComp elt gens scope pos) d (← pyIter it) acc env)) := by
    show (do
        if (gens[d]?).elim false (·.is_async != 0) then return ← again (.compLoop (.ListComp elt gens scope pos) d it acc env)
        if (← ask).params.followText "comprehension-iter-twice" then return ← again (.compLoop (.ListComp elt gens scope pos) d it acc env)
        rule "comprehension.iter-twice"
        if let some g := gens[d]? then standAt g.iter.pos
        again (.compLoop (.ListComp elt gens scope pos) d (← pyIter it) acc env)) = _
    rw [hg]
    rfl
  rw [e]
  refine wpAny_bind (wpAny_askSetting (wpAny_ite ?_))
  split
  · first
      | exact wpAny_bind (wpAny_pure (wpAny_pure (And.intro rfl h)))
      | exact wpAny_pure (And.intro rfl h)
  · exact wpAny_bind (wpAny_rule (wpAny_bind (wpAny_standAt (wpAny_bind (hp _ _ (wpAny_pure (And.intro rfl h)))))))

theorem nextGen_leaf {elt : PySem.Expr} {gens : List Comprehension} {scope : Scope} {pos : Pos} {d : Nat} {acc : PySem.Value} {env : Env} {Q : Unit → Shared → Prop} (hg : gens[d + 1]? = none)
    (h : wpAny (model prog w) A (eval elt env) (fun x s₁ => wpAny (model prog w) A (call (.builtin "list.append") [acc, x]) (fun _ s₂ => Q () s₂) E s₁) E s) : wpAny (model prog w) A (nextGen elt gens scope pos d acc env) Q E s := by
  unfold nextGen
  rw [hg]
  exact wpAny_bind (wpAny_mono h (fun x s₁ h₁ => wpAny_bind (wpAny_mono h₁ (fun _ s₂ h₂ => wpAny_pure h₂) fun _ _ e => e)) fun _ _ e => e)
theorem nextGen_more {elt target iter : PySem.Expr} {ifs : List PySem.Expr} {gens : List Comprehension} {scope : Scope} {pos : Pos} {d : Nat} {acc : PySem.Value} {env : Env} {Q : Unit → Shared → Prop} (hg : gens[d + 1]? = some ⟨target, iter, ifs, 0⟩)
    (h : wpAny (model prog w) A (eval iter env) (fun x s₁ => wpAny (model prog w) A (pyIter x) (fun it s₂ =>
      codeAny (model prog w) A (.compStart (.ListComp elt gens scope pos) (d + 1) it acc env) (fun r s' => match r with | .ok _ => Q () s' | .error e => cameBackBy (model prog w) A env E e s') s₂) E s₁) E s)
    (hs : ∀ x, foldedSetIterable iter env x = pure x := by intro _; rfl) : wpAny (model prog w) A (nextGen elt gens scope pos d acc env) Q E s := by
  unfold nextGen
  rw [hg]
  refine wpAny_bind (wpAny_mono h (fun x s₁ h₁ => wpAny_bind (wpAny_standAt ?_)) fun _ _ e => e)
  show wpAny _ _ (foldedSetIterable iter env x >>= fun x => holding [x] (pyIter x) >>= fun i => runOwn (.compStart (.ListComp elt gens scope pos) (d + 1) i acc env) env >>= fun _ => pure ()) _ _ _
  rw [hs]
  refine wpAny_bind (wpAny_pure (wpAny_bind (wpAny_holding (wpAny_mono h₁ (fun i s₂ h₂ => wpAny_bind (wpAny_runOwn ?_)) fun _ _ e => e))))
  exact codeAny_mono h₂ fun r s' hr => by
    cases r with
    | ok f => exact wpAny_pure hr
    | error e => exact hr
end
end Mine

-- B13
namespace Mine
open PySem PySem.Calls PyProof.Rows PySem.W

/- a comprehension's tests -/
noncomputable def Ts (prog : Program) (w : World) (K : Frag) (A : Around) (env : Env) (F : Led) (ifs : List PySem.Expr) (b : Bool) : Prop :=
  ∀ (s : Shared) (E : PySem.Value → Shared → Prop) (Q : Bool → Shared → Prop), Gd K s.heap → Has prog w F s.heap → (∀ s', Kp s s' → Q b s') →
    wpAny (model prog w) A (forIn ifs true fun c r => if r = true then do let ok ← isTrue c env (eval c env); pure (ForInStep.yield ok) else pure (ForInStep.yield r)) Q E s

section
variable {prog : Program} {w : World} {K : Frag} {A : Around} {env : Env} {F : Led}
theorem Ts.nil : Ts prog w K A env F [] true := fun s _ _ _ _ h => wpAny_tests_nil (h s (Kp.refl s))
theorem Ts.one {c : PySem.Expr} {b : Bool} (h : Tx prog w K A env F c b) : Ts prog w K A env F [c] b := fun s E Q G H q => wpAny_tests_one (h s E Q G H q)

theorem nd_nil : ∀ p ∈ ([] : Led), p.2.isDol = false := fun _ h => absurd h List.not_mem_nil
theorem nd_cons {e : Addr × Ent} {l : Led} (h : e.2.isDol = false) (t : ∀ p ∈ l, p.2.isDol = false) : ∀ p ∈ e :: l, p.2.isDol = false := fun p hp => by
  rcases List.mem_cons.mp hp with rfl | hp
  · exact h
  · exact t p hp
theorem ite_so {c P Q : Prop} [Decidable c] (hc : c) (h : P) : if c then P else Q := by rw [if_pos hc]; exact h
theorem ite_not {c P Q : Prop} [Decidable c] (hc : ¬ c) (h : Q) : if c then P else Q := by rw [if_neg hc]; exact h
theorem of_ite {c P Q : Prop} [Decidable c] (hc : c) (h : if c then P else Q) : P := by rw [if_pos hc] at h; exact h
theorem of_ite_not {c P Q : Prop} [Decidable c] (hc : ¬ c) (h : if c then P else Q) : Q := by rw [if_neg hc] at h; exact h
noncomputable def Sub (m m' : List (Str × AV)) : Prop := ∀ p ∈ m, p ∈ m'
theorem Sub.nil {m : List (Str × AV)} : Sub [] m := fun _ h => absurd h List.not_mem_nil
theorem Sub.cons {x : Str} {v : AV} {m m' : List (Str × AV)} (h : (x, v) ∈ m') (t : Sub m m') : Sub ((x, v) :: m) m' := fun p hp => by
  rcases List.mem_cons.mp hp with rfl | hp
  · exact h
  · exact t p hp
theorem Has.sub {C : Addr} {m m' : List (Str × AV)} {h : Heap} (x : Sub m m') (H : Has prog w ((C, .nm m') :: F) h) : Has prog w ((C, .nm m) :: F) h := by
  refine Has.cons ?_ fun p hp => H p (List.mem_cons_of_mem _ hp)
  obtain ⟨f, hn, hm⟩ := H _ (List.mem_cons_self)
  exact ⟨f, hn, fun p hp => hm p (x p hp)⟩

section
variable {s₀ s : Shared} {I C D : Addr} {R : Result → Shared → Prop} {rest : Led} {E : PySem.Value → Shared → Prop}
variable {elt iter : PySem.Expr} {x : Str} {px : Pos} {ifs : List PySem.Expr} {gens : List Comprehension} {scope : Scope} {pos : Pos} {d : Nat}

/- a target's binding -/
noncomputable def Binds (prog : Program) (w : World) (A : Around) (env : Env) (s₀ : Shared) (C I : Addr) (tgt : PySem.Expr) (av : AV) (e : Obj → Prop) (b : List (Str × AV)) : Prop :=
  ∀ (G : Led) (m m₀ : List (Str × AV)) (s : Shared) (v : PySem.Value) (E : PySem.Value → Shared → Prop) (Q : Shared → Prop), av.Is v → Sub m₀ m → (∀ p ∈ m₀, ∀ q ∈ b, p.1 ≠ q.1) → St prog w s₀ ((C, .nm m) :: (I, .own e) :: G) s →
    (∀ m' s', Sub m₀ m' → Sub b m' → St prog w s₀ ((C, .nm m') :: (I, .own e) :: G) s' → Q s') → wpAny (model prog w) A (letOwnedTupleGo tgt (.ref I) v) (fun _ s₁ => wpAny (model prog w) A (assign tgt env v) (fun _ s₂ => Q s₂) E s₁) E s

theorem Sub.set {m₀ m : List (Str × AV)} {x : Str} {v : AV} (h : Sub m₀ m) (hx : ∀ p ∈ m₀, p.1 ≠ x) : Sub m₀ (setAl x v m) := fun p hp => List.mem_cons_of_mem _ (List.mem_filter.mpr ⟨h p hp, by simpa using hx p hp⟩)

theorem Binds.name {x : Str} {px : Pos} {av : AV} {e : Obj → Prop} (hx : env.kindOf x = some .local) (hL : env.locals = C)
    (hp : (env.scope.kind == .class || (env.scope.kind == .module && env.locals != env.globals)) = false) : Binds prog w A env s₀ C I (.Name x px) av e [(x, av)] := by
  intro G m m₀ s v E Q hv hm hne S h
  refine wpAny_of_eq (a := ()) rfl ?_
  refine wpAny_assign_Name (S.store hv (fun s₂ S₂ => ?_) hL hx hp)
  refine h _ _ (hm.set fun p hp => hne p hp _ List.mem_cons_self) (fun p hp => ?_) S₂
  rw [List.mem_singleton] at hp
  subst hp; exact List.mem_cons_self

theorem Binds.pair {x y : Str} {px py pt : Pos} {kt : Nat} {t : Addr} {a b : Int} {e : Obj → Prop} {F : Led} (hh : A.handled = none) (hx : env.kindOf x = some .local) (hy : env.kindOf y = some .local) (hxy : x ≠ y) (hL : env.locals = C)
    (hp : (env.scope.kind == .class || (env.scope.kind == .module && env.locals != env.globals)) = false) (hgo : ∀ (A : Around) (elts : List PySem.Expr) (k : Nat) (pos : Pos) (t : Addr) (s : Shared) (Q : Unit → Shared → Prop) (E : PySem.Value → Shared → Prop), (Ent.own e).At prog w s.heap I → Q () s → wpAny (model prog w) A (letOwnedTupleGo (.Tuple elts k pos) (.ref I) (.ref t)) Q E s)
    (hF : Has prog w F s₀.heap) (ht : (t, Ent.tI [a, b]) ∈ F) : Binds prog w A env s₀ C I (.Tuple [.Name x px, .Name y py] kt pt) (.ref t) e [(x, .int a), (y, .int b)] := by
  intro G m m₀ s v E Q hv hm hne S h
  cases hv
  refine hgo A _ _ _ _ s _ _ (S.has (I, .own e) (.tail _ (.head _))) ?_
  obtain ⟨vs, ht, hi⟩ := (hF.up S.kp.up) _ ht
  obtain _ | ⟨_, t1, hi⟩ := hi
  obtain _ | ⟨_, t2, hi⟩ := hi
  cases hi
  refine assign_Tuple_tuple (items := #[.int a t1, .int b t2]) hh ht rfl rfl fun h' he' => ?_
  have kk : Kp s { s with heap := h' } := ⟨⟨h', s.toks, rfl, fun c o q => he' c o (Nat.ne_of_lt (Heap.lt_size q)) q⟩⟩
  have S₁ := S.keep kk
  show wpAny _ _ (assignInOrder [assign (.Name x px) env, assign (.Name y py) env] [.int a t1, .int b t2]) _ _ _
  refine PyProof.Rows.assignInOrder_cons (wpAny_assign_Name (S₁.store (av := .int a) ⟨t1, rfl⟩ (fun s₂ S₂ => ?_) hL hx hp))
  refine PyProof.Rows.assignInOrder_cons (wpAny_assign_Name (S₂.store (av := .int b) ⟨t2, rfl⟩ (fun s₃ S₃ => ?_) hL hy hp))
  refine PyProof.Rows.assignInOrder_nil (h _ _ ((hm.set fun p hp => hne p hp _ List.mem_cons_self).set fun p hp => hne p hp (y, .int b) (.tail _ (.head _))) (fun p hp => ?_) S₃)
  rcases List.mem_cons.mp hp with rfl | hp
  · exact List.mem_cons_of_mem _ (List.mem_filter.mpr ⟨List.mem_cons_self, by simpa using hxy⟩)
  · rw [List.mem_singleton] at hp
    subst hp; exact List.mem_cons_self

/- a walk of a comprehension's for, its state Z's -/
theorem comp_gen {Z : Type} {acc : PySem.Value} {F' : Led} {n : Nat} {e : Nat → Obj → Prop} {it : Nat → AV} {tgt : PySem.Expr} (led : Nat → Z → Led) (J : Nat → Z → Prop) (hg : gens[d]? = some ⟨tgt, iter, ifs, 0⟩) (hh : A.handled = none) (It : Itr prog w F' I n e it) (HF : Has prog w F' s₀.heap)
    (turn : ∀ i z s v E', i < n → J i z → (it i).Is v → St prog w s₀ ((I, .own (e (i + 1))) :: led i z) s →
      wpAny (model prog w) A (letOwnedTupleGo tgt (.ref I) v) (fun _ s₁ => wpAny (model prog w) A (assign tgt env v) (fun _ s₂ =>
        wpAny (model prog w) A (forIn ifs true fun c r => if r = true then do let ok ← isTrue c env (eval c env); pure (ForInStep.yield ok) else pure (ForInStep.yield r)) (fun ok s₃ =>
          if ok = true then wpAny (model prog w) A (nextGen elt gens scope pos d acc env) (fun _ s₄ => ∃ z', J (i + 1) z' ∧ St prog w s₀ ((I, .own (e (i + 1))) :: led (i + 1) z') s₄) E' s₃
          else ∃ z', J (i + 1) z' ∧ St prog w s₀ ((I, .own (e (i + 1))) :: led (i + 1) z') s₃) E' s₂) E' s₁) E' s)
    (fin : ∀ z s, J n z → St prog w s₀ (led n z) s → R (.ok .next) s) :
    ∀ (k i : Nat) (z : Z) (s : Shared), k + i = n → J i z → St prog w s₀ ((I, .own (e i)) :: led i z) s → codeAny (model prog w) A (.compLoop (.ListComp elt gens scope pos) d (.ref I) acc env) R s := by
  intro k
  induction k with
  | zero =>
    intro i z s hk hz S
    obtain rfl : i = n := (Nat.zero_add i).symm.trans hk
    exact comp_turn hg (It.done A s₀ _ s _ _ hh S (HF.up S.kp.up) fun s' S' => fin z s' hz S')
  | succ k ih =>
    intro i z s hk hz S
    have hi : i < n := hk ▸ Nat.lt_add_of_pos_left (Nat.succ_pos k)
    have hk' : k + (i + 1) = n := (Nat.succ_add k i).symm.trans hk
    refine comp_turn hg (It.item A i s₀ _ s _ _ hh hi S (HF.up S.kp.up) fun v s' hv S' => ?_)
    refine wpAny_mono (turn i z s' v _ hi hz hv S') (fun _ s₁ h₁ => wpAny_mono h₁ (fun _ s₂ h₂ => wpAny_mono h₂ (fun ok s₃ h₃ => ?_) fun _ _ e => e) fun _ _ e => e) fun _ _ e => e
    cases ok with
    | true =>
      refine ite_so rfl (wpAny_mono (of_ite rfl h₃) (fun _ s₄ h₄ => ?_) fun _ _ e => e)
      obtain ⟨z', hz', S₄⟩ := h₄
      exact ih (i + 1) z' s₄ hk' hz' S₄
    | false =>
      obtain ⟨z', hz', S₄⟩ := of_ite_not Bool.false_ne_true h₃
      exact ite_not Bool.false_ne_true (ih (i + 1) z' s₃ hk' hz' S₄)
theorem comp_loop {F' : Led} {n : Nat} {e : Nat → Obj → Prop} {it : Nat → AV} {tgt : PySem.Expr} (hg : gens[d]? = some ⟨tgt, iter, ifs, 0⟩) (hh : A.handled = none) (It : Itr prog w F' I n e it) (HF : Has prog w F' s₀.heap) (m₀ : List (Str × AV)) (bi : Nat → List (Str × AV))
    (hb : ∀ i, i < n → Binds prog w A env s₀ C I tgt (it i) (e (i + 1)) (bi i)) (hx0 : ∀ i, i < n → ∀ p ∈ m₀, ∀ q ∈ bi i, p.1 ≠ q.1) (out : Nat → List AV)
    (turn : ∀ i s m E', i < n → Sub m₀ m → Sub (bi i) m → St prog w s₀ ((C, .nm m) :: (D, .lA (out i)) :: (I, .own (e (i + 1))) :: rest) s →
      wpAny (model prog w) A (forIn ifs true fun c r => if r = true then do let ok ← isTrue c env (eval c env); pure (ForInStep.yield ok) else pure (ForInStep.yield r)) (fun ok s₃ =>
        if ok = true then wpAny (model prog w) A (nextGen elt gens scope pos d (.ref D) env) (fun _ s₄ => ∃ m', Sub m₀ m' ∧ St prog w s₀ ((C, .nm m') :: (D, .lA (out (i + 1))) :: (I, .own (e (i + 1))) :: rest) s₄) E' s₃
        else ∃ m', Sub m₀ m' ∧ St prog w s₀ ((C, .nm m') :: (D, .lA (out (i + 1))) :: (I, .own (e (i + 1))) :: rest) s₃) E' s)
    (fin : ∀ m s, Sub m₀ m → St prog w s₀ ((C, .nm m) :: (D, .lA (out n)) :: rest) s → R (.ok .next) s) :
    ∀ (k i : Nat) (m : List (Str × AV)) (s : Shared), k + i = n → Sub m₀ m → St prog w s₀ ((C, .nm m) :: (D, .lA (out i)) :: (I, .own (e i)) :: rest) s → codeAny (model prog w) A (.compLoop (.ListComp elt gens scope pos) d (.ref I) (.ref D) env) R s := by
  intro k i m s hk hm S
  have mid : ∀ {j : Nat} {m : List (Str × AV)} {s : Shared}, St prog w s₀ ((C, .nm m) :: (D, .lA (out j)) :: (I, .own (e j)) :: rest) s → St prog w s₀ ((I, .own (e j)) :: (C, .nm m) :: (D, .lA (out j)) :: rest) s := fun S => S.perm (List.perm_middle (l₁ := [(C, Ent.nm _), (D, Ent.lA (out _))])).symm
  refine comp_gen (Z := List (Str × AV)) (fun i m => (C, .nm m) :: (D, .lA (out i)) :: rest) (fun _ m => Sub m₀ m) hg hh It HF (fun i m s v E' hi hm hv S => ?_) (fun m s hm S => fin m s hm S) k i m s hk hm (mid S)
  refine hb i hi _ m m₀ s v _ _ hv hm (hx0 i hi) (S.perm (List.Perm.swap ..)) fun m' s₂ hm' hbm S₂ => ?_
  refine wpAny_mono (turn i s₂ m' _ hi hm' hbm (S₂.perm (List.Perm.cons _ (List.Perm.swap ..)))) (fun ok s₃ h₃ => ?_) fun _ _ e => e
  cases ok with
  | true =>
    refine ite_so rfl (wpAny_mono (of_ite rfl h₃) (fun _ s₄ h₄ => ?_) fun _ _ e => e)
    obtain ⟨m', hm', S₄⟩ := h₄
    exact ⟨m', hm', mid S₄⟩
  | false =>
    obtain ⟨m', hm', S₄⟩ := of_ite_not Bool.false_ne_true h₃
    exact ite_not Bool.false_ne_true ⟨m', hm', mid S₄⟩

theorem lA_snoc {l : List AV} {vs : List PySem.Value} {y : AV} {v : PySem.Value} (h : Paired AV.Is l vs) (hv : y.Is v) : Paired AV.Is (l ++ [y]) (vs ++ [v]) := h.snoc hv

/- a leaf's turn -/
theorem turn_leaf (hgn : gens[d + 1]? = none) {m m₁ : List (Str × AV)} {out : List AV} {b : Bool} {y : AV} {Q : List (Str × AV) → List AV → Shared → Prop} (S : St prog w s₀ ((C, .nm m) :: (D, .lA out) :: rest) s) (G : Gd K s₀.heap) (H : Has prog w F s₀.heap) (hm : Sub m₁ m)
    (hT : Ts prog w K A env ((C, .nm m₁) :: F) ifs b) (hE : b = true → Ex prog w K A env ((C, .nm m₁) :: F) elt (.av y)) (hd : ∀ p ∈ rest, p.2.isDol = false) (hz : out.length ≤ 1000)
    (h : ∀ s', St prog w s₀ ((C, .nm m) :: (D, .lA (out ++ if b then [y] else [])) :: rest) s' → Q m (out ++ if b then [y] else []) s') :
    wpAny (model prog w) A (forIn ifs true fun c r => if r = true then do let ok ← isTrue c env (eval c env); pure (ForInStep.yield ok) else pure (ForInStep.yield r)) (fun ok s₃ =>
        if ok = true then wpAny (model prog w) A (nextGen elt gens scope pos d (.ref D) env) (fun _ s₄ => Q m (out ++ if b then [y] else []) s₄) E s₃
        else Q m (out ++ if b then [y] else []) s₃) E s := by
  have up : ∀ {s'}, St prog w s₀ ((C, .nm m) :: (D, .lA out) :: rest) s' → Has prog w ((C, .nm m₁) :: F) s'.heap := fun S' => Has.sub hm (Has.cons (S'.has _ List.mem_cons_self) (H.up S'.kp.up))
  refine hT s _ _ (S.gd G) (up S) fun s₃ k₃ => ?_
  have S₃ := S.keep k₃
  cases b with
  | false => exact ite_not Bool.false_ne_true (h s₃ (by rw [if_neg Bool.false_ne_true, List.append_nil]; exact S₃))
  | true =>
    refine ite_so rfl ?_
    refine nextGen_leaf hgn (hE rfl s₃ _ _ (S₃.gd G) (up S₃) fun v s₄ hv k₄ => ?_)
    have S₄ := S₃.keep k₄
    obtain ⟨vs, pl, pa⟩ := S₄.has (D, .lA out) (.tail _ (.head _))
    refine wpAny_list_append_plain pl (fun h' pl' hs => ?_) (by rw [List.size_toArray, ← pa.length]; exact ok_size hz)
    have S₅ := (S₄.perm (G' := (D, .lA out) :: (C, .nm m) :: rest) (List.Perm.swap ..)).list (e' := .lA (out ++ [y])) (tk := s₄.toks) pl hs ⟨vs ++ [v], by simpa using pl', lA_snoc pa hv⟩ (nd_cons rfl hd)
    exact h _ (S₅.perm (List.Perm.swap ..))
end

/- a walk of a comprehension -/
noncomputable def CL (prog : Program) (w : World) (K : Frag) (A : Around) (env : Env) (F : Led) (elt : PySem.Expr) (gens : List Comprehension) (scope : Scope) (pos : Pos) (cl : List (Str × Addr)) (its out : List AV) : Prop :=
  ∀ (s₁ : Shared) (I : Addr) (e : Nat → Obj → Prop) (F' : Led) (C D : Addr) (s₄ : Shared) (R : Result → Shared → Prop), Gd K s₁.heap → Has prog w F s₁.heap → Has prog w F' s₁.heap → Itr prog w F' I its.length e (fun i => its[i]?.getD .none) →
    St prog w s₁ [(C, .nm []), (D, .lA []), (I, .own (e 0))] s₄ → (∀ m s', St prog w s₁ [(C, .nm m), (D, .lA out)] s' → R (.ok .next) s') →
    codeAny (model prog w) A (.compLoop (.ListComp elt gens scope pos) 0 (.ref I) (.ref D) (compEnvC scope cl C env)) R s₄

theorem comp_body {elt target iter : PySem.Expr} {ifs : List PySem.Expr} {gs : List Comprehension} {scope : Scope} {pos : Pos} {cl : List (Str × Addr)} {its out : List AV} {s₁ s₂ : Shared} {I : Addr} {F' : Led} {e : Nat → Obj → Prop} {E : PySem.Value → Shared → Prop} {RR : PySem.Value → Addr → Result → Shared → Prop}
    (hc : CL prog w K A env F elt (⟨target, iter, ifs, 0⟩ :: gs) scope pos cl its out) (hcell : ∀ y ∈ scope.names, y.2 ≠ .cell) (hkind : scope.kind = .function) (G : Gd K s₁.heap) (H : Has prog w F s₁.heap) (HF : Has prog w F' s₁.heap)
    (It : Itr prog w F' I its.length e (fun i => its[i]?.getD .none)) (S : St prog w s₁ [(I, .own (e 0))] s₂)
    (hR : ∀ C D m s', St prog w s₁ [(C, .nm m), (D, .lA out)] s' → RR (.ref D) C (.ok .next) s') :
    wpAny (model prog w) A (newList []) (fun acc s₃ => wpAny (model prog w) A (newFunctionEnv scope env.globals cl [] env.qual none .none (some env)) (fun cenv s₄ =>
      codeAny (model prog w) A (.compStart (.ListComp elt (⟨target, iter, ifs, 0⟩ :: gs) scope pos) 0 (.ref I) acc { cenv with scope := relabel scope env }) (RR acc cenv.locals) s₄) E s₃) E s₂ := by
  refine wpAny_newObj_type ?_
  have S₁ := S.add (e := .lA []) (Kp.push s₂ { cls := .type "list", data := .seq ([] : List PySem.Value).toArray }) (Heap.get?_none_of_le (Nat.le_refl _)) ⟨[], ⟨0, Heap.get?_push_size _ rfl⟩, .nil⟩
  refine wpAny_newFunctionEnv hcell (by intro y hy; simp at hy) (fun h₁ hns₁ hsb₁ => ?_) hkind
  have S₂ := S₁.add (e := .nm []) (s' := { s₂ with heap := h₁, toks := s₂.toks + ([] : List (Str × PySem.Value)).length }) ⟨⟨h₁, _, rfl, fun b o q => hsb₁.extBut b o (Nat.ne_of_lt (Heap.lt_size q)) (Heap.get?_push_of_some _ q)⟩⟩ (Heap.get?_none_of_le (Nat.le_refl _)) ⟨_, hns₁, fun _ h => nomatch h⟩
  refine comp_start rfl (fun Q E hQ => It.self A 0 _ Q E (S₂.has (I, .own (e 0)) (.tail _ (.tail _ (.head _)))) hQ) ?_
  exact hc s₁ I e F' _ _ _ _ G H HF It S₂ fun m s' S' => hR _ _ m s' S'

/- a comprehension -/
theorem Xn.comp {elt target iter : PySem.Expr} {ifs : List PySem.Expr} {gs : List Comprehension} {scope : Scope} {pos : Pos} {cl : List (Str × Addr)} {its out : List AV} (hix : Ix prog w K A env F iter its)
    (hc : CL prog w K A env F elt (⟨target, iter, ifs, 0⟩ :: gs) scope pos cl its out) (hclos : closureFor scope env = pure cl := by rfl) (hcell : ∀ y ∈ scope.names, y.2 ≠ .cell := by decide) (hkind : scope.kind = .function := by rfl)
    (hnames : ∀ y ∈ scope.names, y.2 = .local → scope.names.lookup y.1 = some .local := by decide) (hs : ∀ x, foldedSetIterable iter env x = pure x := by intro _; rfl) : Xn prog w K A env F (.ListComp elt (⟨target, iter, ifs, 0⟩ :: gs) scope pos) (.lA out) := by
  intro s E Q G H q
  rw [eval_ListComp]
  refine wpAny_comprehension_free (use := none) rfl hs hclos hkind hnames ?_
  refine hix s E _ G H fun s₁ I e F' s₂ k HF It S => ?_
  refine comp_body (RR := fun acc C => compPost (model prog w) A E none Q acc C) hc hcell hkind (G.up k.up) (H.up k.up) HF It S fun C D m s' S' => ?_
  obtain ⟨mf, hn, _⟩ := S'.has (C, .nm m) List.mem_cons_self
  refine ⟨mf, hn, fun h' hs' => ?_⟩
  have S'' := S'.gone (tk := s'.toks) hs'.extBut (ns_noTup hn) (ns_noList hn)
  refine q D _ ?_ (S''.has _ List.mem_cons_self) (k.tr S''.kp)
  cases z : s.heap.get? D with
  | none => rfl
  | some o => have := k.up _ _ z; rw [S''.fresh _ List.mem_cons_self] at this; cases this

/- x = a comprehension on its own line -/
theorem as_comp {elt target iter : PySem.Expr} {ifs : List PySem.Expr} {gs : List Comprehension} {scope : Scope} {pos spos py : Pos} {y : Str} {cl : List (Str × Addr)} {its out : List AV} {s₀ s : Shared} {L : Addr} {mm : List (Str × AV)} {G : Led} {rest : List Stmt} {E : PySem.Value → Shared → Prop} {Q : Flow → Shared → Prop} {ent : Ent}
    (S : St prog w s₀ ((L, .nm mm) :: G) s) (D : Gd K s₀.heap) (H : Has prog w F s₀.heap) (hix : Ix prog w K A env (((L, .nm mm) :: G) ++ F) iter its)
    (hc : CL prog w K A env (((L, .nm mm) :: G) ++ F) elt (⟨target, iter, ifs, 0⟩ :: gs) scope pos cl its out) (hent : ∀ {h a}, (Ent.lA out).At prog w h a → ent.At prog w h a)
    (h : ∀ a s', St prog w s₀ ((L, .nm (setAl y (.ref a) mm)) :: (a, ent) :: G) s' → wpAny (model prog w) A (execs rest env) Q E s')
    (hsw : swapsWith (.ListComp elt (⟨target, iter, ifs, 0⟩ :: gs) scope pos) (some (.Name y py)) spos.line env = pure true := by rfl) (hclos : closureFor scope env = pure cl := by rfl) (hcell : ∀ y ∈ scope.names, y.2 ≠ .cell := by decide) (hkind : scope.kind = .function := by rfl)
    (hnames : ∀ y ∈ scope.names, y.2 = .local → scope.names.lookup y.1 = some .local := by decide) (hs : ∀ x, foldedSetIterable iter env x = pure x := by intro _; rfl)
    (hL : env.locals = L := by rfl) (hl : env.kindOf y = some .local := by rfl) (hp : (env.scope.kind == .class || (env.scope.kind == .module && env.locals != env.globals)) = false := by rfl) :
    wpAny (model prog w) A (execs (.Assign [.Name y py] (.ListComp elt (⟨target, iter, ifs, 0⟩ :: gs) scope pos) spos :: rest) env) Q E s := by
  refine wpAny_execs_cons ?_
  rw [exec_Assign_Name_used _ _ _ _ hsw]
  refine wpAny_bind (wpAny_standAt (wpAny_bind ?_))
  show wpAny _ A (do let _ ← comprehension (.ListComp elt (⟨target, iter, ifs, 0⟩ :: gs) scope pos) scope env _ (newList []) false (eval iter env) (some (assign (.Name y py) env))) _ _ s
  refine wpAny_bind (wpAny_mono (wpAny_comprehension_free (use := some (assign (.Name y py) env)) (Q := fun _ s' => wpAny (model prog w) A (execs rest env) Q E s') rfl hs hclos hkind hnames ?_) (fun _ s' hq => wpAny_pure (wpAny_pure hq)) fun _ _ e => e)
  refine hix s E _ (S.gd D) (S.all H) fun s₁ I e F' s₂ k HF It T => ?_
  refine comp_body (RR := fun acc C => compPost (model prog w) A E (some (assign (.Name y py) env)) (fun _ s' => wpAny (model prog w) A (execs rest env) Q E s') acc C) hc hcell hkind ((S.gd D).up k.up) ((S.all H).up k.up) HF It T fun C Da m s' S' => ?_
  have P := ((S.keep k).plus S').perm (G' := (L, .nm mm) :: (C, .nm m) :: (Da, .lA out) :: G) (List.perm_middle (l₁ := [(C, Ent.nm m), (Da, Ent.lA out)])).symm
  show wpAny _ A (assign (.Name y py) env (.ref Da)) _ _ _
  refine wpAny_assign_Name (P.store (av := .ref Da) rfl (fun s₃ P₃ => ?_) hL hl hp)
  have P₄ := P₃.perm (G' := (C, .nm m) :: (L, .nm (setAl y (.ref Da) mm)) :: (Da, .lA out) :: G) (List.Perm.swap ..)
  obtain ⟨mf, hn, _⟩ := P₄.has _ List.mem_cons_self
  refine ⟨mf, hn, fun h' hs' => ?_⟩
  have P₅ := P₄.gone (tk := s₃.toks) hs'.extBut (ns_noTup hn) (ns_noList hn)
  refine h Da _ ⟨P₅.kp, fun p hp => ?_, fun p hp => ?_, P₅.nd⟩
  · rcases List.mem_cons.mp hp with rfl | hp
    · exact P₅.has _ List.mem_cons_self
    · rcases List.mem_cons.mp hp with rfl | hp
      · exact hent (P₅.has (Da, .lA out) (.tail _ (.head _)))
      · exact P₅.has p (by simp [hp])
  · rcases List.mem_cons.mp hp with rfl | hp
    · exact P₅.fresh _ List.mem_cons_self
    · rcases List.mem_cons.mp hp with rfl | hp
      · exact P₅.fresh (Da, .lA out) (.tail _ (.head _))
      · exact P₅.fresh p (by simp [hp])
end
end Mine

-- B14
namespace Mine
open PySem PySem.Calls PyProof.Rows PySem.W

section
variable {prog : Program} {w : World} {K : Frag} {A : Around} {env : Env} {F : Led}

theorem cenv_local {scope : Scope} {cl : List (Str × Addr)} {C : Addr} {x : Str} (hx : scope.names.lookup x = some .local) : (compEnvC scope cl C env).kindOf x = some .local := lookup_relabel_local hx
theorem cenv_plain {scope : Scope} {cl : List (Str × Addr)} {C : Addr} (hk : scope.kind = .function) : ((compEnvC scope cl C env).scope.kind == .class || ((compEnvC scope cl C env).scope.kind == .module && (compEnvC scope cl C env).locals != (compEnvC scope cl C env).globals)) = false := by simp [compEnvC, relabel, hk]

theorem get_mem {l : List AV} {i : Nat} (h : i < l.length) : l[i]?.getD .none ∈ l := by simp [h]
theorem take_get {l : List AV} {i : Nat} (h : i < l.length) : l.take (i + 1) = l.take i ++ [l[i]?.getD .none] := by rw [List.take_add_one]; simp [h]

theorem fm_succ {α β : Type} {p : α → Bool} {f : α → β} {l : List α} {i : Nat} {x : α} (h : l[i]? = some x) : ((l.take (i + 1)).filter p).map f = ((l.take i).filter p).map f ++ if p x then [f x] else [] := by
  rw [List.take_add_one, h, List.filter_append, List.map_append]
  show _ ++ (match p x with | true => [x] | false => []).map f = _
  cases p x <;> rfl
theorem fm_len {α β : Type} {p : α → Bool} {f : α → β} {l : List α} {i n : Nat} (h : l.length ≤ n) : (((l.take i).filter p).map f).length ≤ n := by
  rw [List.length_map]
  exact Nat.le_trans (List.length_filter_le ..) (Nat.le_trans (List.length_take_le' ..) h)
theorem get_some {l : List AV} {i : Nat} (h : i < l.length) : l[i]? = some (l[i]?.getD .none) := by rw [List.getElem?_eq_getElem h]; rfl
/- one walk: [elt for x in iter if test] -/
theorem CL.one {elt iter : PySem.Expr} {x : Str} {px : Pos} {ifs : List PySem.Expr} {scope : Scope} {pos : Pos} {cl : List (Str × Addr)} {its : List AV} {p : AV → Bool} {f : AV → AV} (hh : A.handled = none)
    (hit : ∀ v ∈ its, ∀ C, Ts prog w K A (compEnvC scope cl C env) ((C, .nm [(x, v)]) :: F) ifs (p v) ∧ (p v = true → Ex prog w K A (compEnvC scope cl C env) ((C, .nm [(x, v)]) :: F) elt (.av (f v))))
    (hz : its.length ≤ 1000) (hx : scope.names.lookup x = some .local := by rfl) (hk : scope.kind = .function := by rfl) : CL prog w K A env F elt [⟨.Name x px, iter, ifs, 0⟩] scope pos cl its ((its.filter p).map f) := by
  intro s₁ I e F' C D s₄ R G H HF It S fin
  refine comp_loop (d := 0) (rest := []) (bi := fun i => [(x, its[i]?.getD .none)]) rfl hh It HF [] (fun i _ => Binds.name (cenv_local hx) rfl (cenv_plain hk)) (fun _ _ _ h => absurd h List.not_mem_nil) (fun i => ((its.take i).filter p).map f) ?_ ?_ its.length 0 [] s₄ (by simp) Sub.nil S
  · intro i s m E' hi hm hb S
    obtain ⟨hT, hE⟩ := hit _ (get_mem hi) C
    have e1 := fm_succ (p := p) (f := f) (get_some hi)
    refine turn_leaf (Q := fun m' o s => ∃ m', Sub [] m' ∧ St prog w s₁ ((C, .nm m') :: (D, .lA (((its.take (i + 1)).filter p).map f)) :: (I, .own (e (i + 1))) :: []) s) rfl S G H hb hT hE (fun p hp => ?_) ?_ fun s' S' => ?_
    · rw [List.mem_singleton] at hp; subst hp; rfl
    · exact fm_len hz
    · exact ⟨m, Sub.nil, by rw [e1]; exact S'⟩
  · intro m s _ S
    rw [List.take_length] at S
    exact fin m s S

/- one walk over pairs: [elt for x, y in iter if test] -/
theorem CL.pair {elt iter : PySem.Expr} {x y : Str} {px py pt : Pos} {kt : Nat} {ifs : List PySem.Expr} {scope : Scope} {pos : Pos} {cl : List (Str × Addr)} {ts : List (Addr × Int × Int)} {p : Int → Int → Bool} {f : Int → Int → AV} (hh : A.handled = none) (hts : ∀ t ∈ ts, (t.1, Ent.tI [t.2.1, t.2.2]) ∈ F)
    (hit : ∀ t ∈ ts, ∀ C, Ts prog w K A (compEnvC scope cl C env) ((C, .nm [(x, .int t.2.1), (y, .int t.2.2)]) :: F) ifs (p t.2.1 t.2.2) ∧ (p t.2.1 t.2.2 = true → Ex prog w K A (compEnvC scope cl C env) ((C, .nm [(x, .int t.2.1), (y, .int t.2.2)]) :: F) elt (.av (f t.2.1 t.2.2))))
    (hz : ts.length ≤ 1000) (hxy : x ≠ y := by decide) (hx : scope.names.lookup x = some .local := by rfl) (hy : scope.names.lookup y = some .local := by rfl) (hk : scope.kind = .function := by rfl) :
    CL prog w K A env F elt [⟨.Tuple [.Name x px, .Name y py] kt pt, iter, ifs, 0⟩] scope pos cl (ts.map fun t => .ref t.1) ((ts.filter fun t => p t.2.1 t.2.2).map fun t => f t.2.1 t.2.2) := by
  intro s₁ I e F' C D s₄ R G H HF It S fin
  have hl : (ts.map fun t => AV.ref t.1).length = ts.length := List.length_map ..
  rw [hl] at It
  refine comp_loop (d := 0) (rest := []) (n := ts.length) (bi := fun i => if h : i < ts.length then [(x, .int ts[i].2.1), (y, .int ts[i].2.2)] else []) rfl hh It HF [] (fun i hi => ?_) (fun _ _ _ h => absurd h List.not_mem_nil) (fun i => ((ts.take i).filter fun t => p t.2.1 t.2.2).map fun t => f t.2.1 t.2.2) ?_ ?_ ts.length 0 [] s₄ (by simp) Sub.nil S
  · simp only [hi, List.getElem?_map, List.getElem?_eq_getElem, Option.map_some, Option.getD_some, dif_pos]
    exact Binds.pair hh (cenv_local hx) (cenv_local hy) hxy rfl (cenv_plain hk) (fun A elts k pos t s Q E o h => It.go A elts k pos _ t s Q E o h) H (hts _ (List.getElem_mem hi))
  · intro i s m E' hi hm hb S
    simp only [hi, dif_pos] at hb
    obtain ⟨hT, hE⟩ := hit _ (List.getElem_mem hi) C
    have e1 := fm_succ (p := fun t : Addr × Int × Int => p t.2.1 t.2.2) (f := fun t => f t.2.1 t.2.2) (List.getElem?_eq_getElem hi)
    refine turn_leaf (Q := fun m' o s => ∃ m', Sub [] m' ∧ St prog w s₁ ((C, .nm m') :: (D, .lA (((ts.take (i + 1)).filter fun t => p t.2.1 t.2.2).map fun t => f t.2.1 t.2.2)) :: (I, .own (e (i + 1))) :: []) s) rfl S G H hb hT hE (fun p hp => ?_) ?_ fun s' S' => ?_
    · rw [List.mem_singleton] at hp; subst hp; rfl
    · exact fm_len hz
    · exact ⟨m, Sub.nil, by rw [e1]; exact S'⟩
  · intro m s _ S
    rw [List.take_length] at S
    exact fin m s S
end
end Mine

-- B15
namespace Mine
open PySem PySem.Calls PyProof.Rows PySem.W

section
variable {prog : Program} {w : World} {K : Frag} {A : Around} {env : Env} {F : Led}
variable {s₀ s : Shared} {I C D : Addr} {rest : Led} {E : PySem.Value → Shared → Prop}

theorem flat_succ {l : List AV} {g : AV → List AV} {i : Nat} (h : i < l.length) : (l.take (i + 1)).flatMap g = (l.take i).flatMap g ++ g (l[i]?.getD .none) := by
  rw [take_get h, List.flatMap_append]; exact congrArg _ (List.append_nil _)
/- a walk within a walk -/
theorem nest {elt iter : PySem.Expr} {y : Str} {py : Pos} {gens : List Comprehension} {scope : Scope} {pos : Pos} {d : Nat} {m₁ m : List (Str × AV)} {its base : List AV} {g : AV → List AV} {Q : Unit → Shared → Prop} (hh : A.handled = none) (hg : gens[d + 1]? = some ⟨.Name y py, iter, [], 0⟩)
    (S : St prog w s₀ ((C, .nm m) :: (D, .lA base) :: rest) s) (G : Gd K s₀.heap) (H : Has prog w F s₀.heap) (hm : Sub m₁ m) (hix : Iy prog w K A env ((C, .nm m₁) :: F) iter its) (hx : env.kindOf y = some .local) (hL : env.locals = C)
    (hp : (env.scope.kind == .class || (env.scope.kind == .module && env.locals != env.globals)) = false) (hne : ∀ p ∈ m₁, p.1 ≠ y)
    (turn : ∀ (v : AV) (m' : List (Str × AV)) (base' : List AV) (rest' : Led) (s' : Shared) (E' : PySem.Value → Shared → Prop), v ∈ its → Sub ((y, v) :: m₁) m' → (∃ i, i < its.length ∧ v = its[i]?.getD .none ∧ base' = base ++ (its.take i).flatMap g) → St prog w s₀ ((C, .nm m') :: (D, .lA base') :: rest') s' → (∀ p ∈ rest', p ∈ rest ∨ p.2.isDol = false) →
      wpAny (model prog w) A (nextGen elt gens scope pos (d + 1) (.ref D) env) (fun _ s₄ => ∃ m'', Sub m₁ m'' ∧ St prog w s₀ ((C, .nm m'') :: (D, .lA (base' ++ g v)) :: rest') s₄) E' s')
    (h : ∀ m' s', Sub m₁ m' → St prog w s₀ ((C, .nm m') :: (D, .lA (base ++ its.flatMap g)) :: rest) s' → Q () s') (hs : ∀ x, foldedSetIterable iter env x = pure x := by intro _; rfl) :
    wpAny (model prog w) A (nextGen elt gens scope pos d (.ref D) env) Q E s := by
  have up : Has prog w ((C, .nm m₁) :: F) s.heap := Has.sub hm (Has.cons (S.has _ List.mem_cons_self) (H.up S.kp.up))
  refine nextGen_more hg (hix s _ _ (S.gd G) up fun s₁ I' e s₂ k It T => ?_) hs
  have P : St prog w s₀ ((C, .nm m) :: (D, .lA base) :: (I', .own (e 0)) :: rest) s₂ := ((S.keep k).plus T).perm (List.perm_middle (l₁ := [(C, Ent.nm m), (D, Ent.lA base)]))
  refine comp_start hg (fun Q E hQ => It.self A 0 _ Q E (P.has (I', .own (e 0)) (.tail _ (.tail _ (.head _)))) hQ) ?_
  refine comp_loop (F' := []) (bi := fun i => [(y, its[i]?.getD .none)]) hg hh It Has.nil m₁ (fun i _ => Binds.name hx hL hp) (fun i _ p hp q hq => ?_) (fun i => base ++ (its.take i).flatMap g) ?_ ?_ its.length 0 m s₂ (by simp) hm (by simpa using P)
  · rw [List.mem_singleton] at hq; subst hq; exact hne p hp
  · intro i s m' E' hi hm' hb S'
    refine wpAny_tests_nil ?_
    refine ite_so rfl ?_
    have e1 : base ++ (its.take (i + 1)).flatMap g = (base ++ (its.take i).flatMap g) ++ g (its[i]?.getD .none) := by rw [flat_succ hi, List.append_assoc]
    refine wpAny_mono (turn _ m' _ _ s E' (get_mem hi) (fun p hp => ?_) ⟨i, hi, rfl, rfl⟩ S' fun p hp => ?_) (fun _ s₄ h₄ => ?_) fun _ _ e => e
    · rcases List.mem_cons.mp hp with rfl | hp
      · exact hb _ List.mem_cons_self
      · exact hm' p hp
    · rcases List.mem_cons.mp hp with rfl | hp
      · exact .inr rfl
      · exact .inl hp
    · obtain ⟨m'', a, b⟩ := h₄
      exact ⟨m'', a, by rw [e1]; exact b⟩
  · intro m' s' hm' S'
    rw [List.take_length] at S'
    exact h m' s' hm' S'

theorem flat_len {l : List AV} {g : AV → List AV} {M N : Nat} (hl : l.length ≤ N) (hg : ∀ v ∈ l, (g v).length ≤ M) : (l.flatMap g).length ≤ N * M := by
  induction l generalizing N with
  | nil => exact Nat.zero_le _
  | cons a l ih =>
    rw [List.flatMap_cons, List.length_append]
    cases N with
    | zero => exact absurd hl (Nat.not_succ_le_zero _)
    | succ N =>
      rw [Nat.succ_mul, Nat.add_comm]
      exact Nat.add_le_add (ih (N := N) (Nat.le_of_succ_le_succ hl) fun v hv => hg v (List.mem_cons_of_mem _ hv)) (hg a List.mem_cons_self)

theorem emit_leaf {elt : PySem.Expr} {gens : List Comprehension} {scope : Scope} {pos : Pos} {d : Nat} (hgn : gens[d + 1]? = none) {m m₁ : List (Str × AV)} {out : List AV} {y : AV} {Q : Unit → Shared → Prop} (S : St prog w s₀ ((C, .nm m) :: (D, .lA out) :: rest) s) (G : Gd K s₀.heap) (H : Has prog w F s₀.heap) (hm : Sub m₁ m)
    (hE : Ex prog w K A env ((C, .nm m₁) :: F) elt (.av y)) (hd : ∀ p ∈ rest, p.2.isDol = false) (hz : out.length ≤ 1000)
    (h : ∀ s', St prog w s₀ ((C, .nm m) :: (D, .lA (out ++ [y])) :: rest) s' → Q () s') :
    wpAny (model prog w) A (nextGen elt gens scope pos d (.ref D) env) Q E s := by
  refine nextGen_leaf hgn (hE s _ _ (S.gd G) (Has.sub hm (Has.cons (S.has _ List.mem_cons_self) (H.up S.kp.up))) fun v s₄ hv k₄ => ?_)
  have S₄ := S.keep k₄
  obtain ⟨vs, pl, pa⟩ := S₄.has (D, .lA out) (.tail _ (.head _))
  refine wpAny_list_append_plain pl (fun h' pl' hs => ?_) (by rw [List.size_toArray, ← pa.length]; exact ok_size hz)
  have S₅ := (S₄.perm (G' := (D, .lA out) :: (C, .nm m) :: rest) (List.Perm.swap ..)).list (e' := .lA (out ++ [y])) (tk := s₄.toks) pl hs ⟨vs ++ [v], by simpa using pl', lA_snoc pa hv⟩ (nd_cons rfl hd)
  exact h _ (S₅.perm (List.Perm.swap ..))

noncomputable def fl2 (f : AV → AV → AV → AV) (l2 : List AV) (va vb : AV) : List AV := l2.flatMap fun vc => [f va vb vc]
noncomputable def fl1 (f : AV → AV → AV → AV) (l1 l2 : List AV) (va : AV) : List AV := l1.flatMap (fl2 f l2 va)
theorem flat_take {l : List AV} {g : AV → List AV} {i M N : Nat} (hl : l.length ≤ N) (hg : ∀ v, (g v).length ≤ M) : ((l.take i).flatMap g).length ≤ N * M := flat_len (Nat.le_trans (List.length_take_le' ..) hl) fun v _ => hg v
/- three walks: [elt for a in i0 for b in i1 for c in i2] -/
theorem CL.three {elt i0 i1 i2 : PySem.Expr} {a b c : Str} {pa pb pc : Pos} {scope : Scope} {pos : Pos} {cl : List (Str × Addr)} {l0 l1 l2 : List AV} {f : AV → AV → AV → AV} (hh : A.handled = none)
    (h1 : ∀ va ∈ l0, ∀ C, Iy prog w K A (compEnvC scope cl C env) ((C, .nm [(a, va)]) :: F) i1 l1) (h2 : ∀ va ∈ l0, ∀ vb ∈ l1, ∀ C, Iy prog w K A (compEnvC scope cl C env) ((C, .nm [(b, vb), (a, va)]) :: F) i2 l2)
    (h3 : ∀ va ∈ l0, ∀ vb ∈ l1, ∀ vc ∈ l2, ∀ C, Ex prog w K A (compEnvC scope cl C env) ((C, .nm [(c, vc), (b, vb), (a, va)]) :: F) elt (.av (f va vb vc)))
    (hs1 : ∀ C x, foldedSetIterable i1 (compEnvC scope cl C env) x = pure x) (hs2 : ∀ C x, foldedSetIterable i2 (compEnvC scope cl C env) x = pure x) (n0 : l0.length ≤ 9) (n1 : l1.length ≤ 9) (n2 : l2.length ≤ 9) (hab : a ≠ b := by decide) (hac : a ≠ c := by decide) (hbc : b ≠ c := by decide) (hxa : scope.names.lookup a = some .local := by rfl) (hxb : scope.names.lookup b = some .local := by rfl) (hxc : scope.names.lookup c = some .local := by rfl)
    (hk : scope.kind = .function := by rfl) :
    CL prog w K A env F elt [⟨.Name a pa, i0, [], 0⟩, ⟨.Name b pb, i1, [], 0⟩, ⟨.Name c pc, i2, [], 0⟩] scope pos cl l0 (l0.flatMap fun va => l1.flatMap fun vb => l2.flatMap fun vc => [f va vb vc]) := by
  intro s₁ I e F' C D s₄ R G H HF It S fin
  have q2 : ∀ va vb, (fl2 f l2 va vb).length ≤ 9 * 1 := fun va vb => flat_len n2 fun _ _ => Nat.le_refl _
  have q1 : ∀ va, (fl1 f l1 l2 va).length ≤ 9 * (9 * 1) := fun va => flat_len n1 fun vb _ => q2 va vb
  have fin : ∀ m s', St prog w s₁ [(C, .nm m), (D, .lA (l0.flatMap (fl1 f l1 l2)))] s' → R (.ok .next) s' := fin
  refine comp_loop (d := 0) (rest := []) (bi := fun i => [(a, l0[i]?.getD .none)]) rfl hh It HF [] (fun i _ => Binds.name (cenv_local hxa) rfl (cenv_plain hk)) (fun _ _ _ h => absurd h List.not_mem_nil) (fun i => (l0.take i).flatMap (fl1 f l1 l2)) ?_ ?_ l0.length 0 [] s₄ rfl Sub.nil S
  · intro i s m E' hi hm hb S
    refine wpAny_tests_nil (ite_so rfl ?_)
    have ha := get_mem hi
    refine nest (d := 0) (g := fl2 f l2 (l0[i]?.getD .none)) hh rfl S G H hb (h1 _ ha C) (cenv_local hxb) rfl (cenv_plain hk) (fun p hp => by rw [List.mem_singleton] at hp; subst hp; exact hab) ?_ (fun m' s' hm' S' => ⟨m', Sub.nil, by rw [flat_succ hi]; exact S'⟩) (hs1 C)
    intro vb m' base' rest' s' E₂ hvb hm' hbase S' hr
    obtain ⟨j, hj, rfl, rfl⟩ := hbase
    refine nest (d := 1) (g := fun vc => [f (l0[i]?.getD .none) (l1[j]?.getD .none) vc]) hh rfl S' G H hm' (h2 _ ha _ hvb C) (cenv_local hxc) rfl (cenv_plain hk) (fun p hp => ?_) ?_ (fun m₃ s₃ hm₃ S₃ => ⟨m₃, fun p hp => hm₃ p (List.mem_cons_of_mem _ hp), S₃⟩) (hs2 C)
    · rcases List.mem_cons.mp hp with rfl | hp
      · exact hbc
      · rw [List.mem_singleton] at hp; subst hp; exact hac
    · intro vc m₃ base₃ rest₃ s₃ E₃ hvc hm₃ hbase' S₃ hr'
      obtain ⟨k, hk', rfl, rfl⟩ := hbase'
      refine emit_leaf (d := 2) rfl S₃ G H hm₃ (h3 _ ha _ hvb _ hvc C) (fun p hp => ?_) ?_ fun s' S' => ⟨m₃, fun p hp => hm₃ p (List.mem_cons_of_mem _ hp), S'⟩
      · rcases hr' p hp with hp | h
        · rcases hr p hp with hp | h
          · rw [List.mem_singleton] at hp; subst hp; rfl
          · exact h
        · exact h
      · rw [List.length_append, List.length_append]
        exact Nat.le_trans (Nat.add_le_add (Nat.add_le_add (flat_take n0 q1) (flat_take n1 (q2 _))) (flat_take n2 fun _ => Nat.le_refl 1)) (by decide)
  · intro m s _ S
    rw [List.take_length] at S
    exact fin m s S
end
end Mine

-- B16
namespace Mine
open PySem PySem.Calls PyProof.Rows PySem.W

section
variable {prog : Program} {w : World} {A : Around} {F : Led} {K : Frag} {env : Env} {E : PySem.Value → Shared → Prop} {s s₀ : Shared} {G : Led}

theorem St.wk {L : Addr} {m m' : List (Str × AV)} (S : St prog w s₀ ((L, .nm m) :: G) s) (h : Sub m' m) : St prog w s₀ ((L, .nm m') :: G) s := by
  refine ⟨S.kp, fun p hp => ?_, fun p hp => ?_, S.nd⟩
  · rcases List.mem_cons.mp hp with rfl | hp
    · obtain ⟨f, hn, hm⟩ := S.has _ (List.mem_cons_self)
      exact ⟨f, hn, fun p hp => hm p (h p hp)⟩
    · exact S.has p (List.mem_cons_of_mem _ hp)
  · rcases List.mem_cons.mp hp with rfl | hp
    · exact S.fresh (L, .nm m) (List.mem_cons_self)
    · exact S.fresh p (List.mem_cons_of_mem _ hp)

/- a while loop, its state a number's -/
theorem while_to {test : PySem.Expr} {body rest : List Stmt} {pos : Pos} {Q : Flow → Shared → Prop} (J : Nat → Shared → Prop) (b : Nat → Bool) (N i₀ : Nat) (D : Gd K s₀.heap) (H : Has prog w F s₀.heap)
    (hJ : ∀ i s, J i s → ∃ G, St prog w s₀ G s ∧ Tx prog w K A env (G ++ F) test (b i) ∧ ∀ s', Kp s s' → J i s')
    (hb : ∀ i, b i = true → i < N)
    (step : ∀ i s E', b i = true → J i s → wpAny (model prog w) A (execs body env) (fun f s₃ => f = .next ∧ ∃ j, i < j ∧ J j s₃) E' s)
    (h : ∀ i s, b i = false → J i s → wpAny (model prog w) A (execs rest env) Q E s) (h0 : J i₀ s) :
    wpAny (model prog w) A (execs (.While test body [] pos :: rest) env) Q E s := by
  refine wpAny_execs_cons (wpAny_While ?_)
  refine codeAny_whileLoop (I := fun n s => ∃ i, n = N - i ∧ J i s) ?_ (N - i₀) ⟨i₀, rfl, h0⟩
  rintro n s ⟨i, rfl, hJi⟩
  obtain ⟨G, S, T, keep⟩ := hJ i s hJi
  refine T s _ _ (S.gd D) (S.all H) fun s₂ k₂ => ?_
  have J₂ := keep s₂ k₂
  cases hbi : b i with
  | true =>
    show wpAny _ _ (execs body env) _ _ _
    refine wpAny_mono (step i s₂ _ hbi J₂) (fun f s₃ hf => ?_) fun _ _ e => e
    obtain ⟨rfl, j, hj, J₃⟩ := hf
    exact ⟨N - j, Nat.sub_lt_sub_left (hb i hbi) hj, j, rfl, J₃⟩
  | false =>
    exact wpAny_execs_nil (h i s₂ hbi J₂)
end
end Mine

-- G1
namespace Mine
open PySem PySem.Calls PyProof.Rows PySem.W

/- what leans on some entries of the ledger alone -/
theorem led1 {P : Led → Prop} {F : Led} {a : Addr × Ent} (ha : a ∈ F) (h : ∀ F', a ∈ F' → P F') : P F := h F ha
theorem led2 {P : Led → Prop} {F : Led} {a b : Addr × Ent} (ha : a ∈ F) (hb : b ∈ F) (h : ∀ F', a ∈ F' → b ∈ F' → P F') : P F := h F ha hb
theorem led3 {P : Led → Prop} {F : Led} {a b c : Addr × Ent} (ha : a ∈ F) (hb : b ∈ F) (hc : c ∈ F) (h : ∀ F', a ∈ F' → b ∈ F' → c ∈ F' → P F') : P F := h F ha hb hc
theorem led4 {P : Led → Prop} {F : Led} {a b c d : Addr × Ent} (ha : a ∈ F) (hb : b ∈ F) (hc : c ∈ F) (hd : d ∈ F) (h : ∀ F', a ∈ F' → b ∈ F' → c ∈ F' → d ∈ F' → P F') : P F := h F ha hb hc hd
theorem led6 {P : Led → Prop} {F : Led} {a b c d e f : Addr × Ent} (ha : a ∈ F) (hb : b ∈ F) (hc : c ∈ F) (hd : d ∈ F) (he : e ∈ F) (hf : f ∈ F) (h : ∀ F', a ∈ F' → b ∈ F' → c ∈ F' → d ∈ F' → e ∈ F' → f ∈ F' → P F') : P F := h F ha hb hc hd he hf
theorem ledP {P R : Led → Prop} {F : Led} {a : Addr × Ent} (ha : a ∈ F) (hr : R F) (h : ∀ F', a ∈ F' → R F' → P F') : P F := h F ha hr
/- the rest of a body, from every state where the ledger stands -/
noncomputable def Go (prog : Program) (w : World) (A : Around) (env : Env) (s₀ : Shared) (Q : Flow → Shared → Prop) (E : PySem.Value → Shared → Prop) (rest : List Stmt) (G : Led) : Prop :=
  ∀ s, St prog w s₀ G s → wpAny (model prog w) A (execs rest env) Q E s
section
variable {prog : Program} {w : World} {A : Around} {env : Env} {s₀ : Shared} {K : Frag} {F : Led} {Q : Flow → Shared → Prop} {E : PySem.Value → Shared → Prop} {rest : List Stmt} {G : Led}

theorem Go.run {s : Shared} (g : Go prog w A env s₀ Q E rest G) (S : St prog w s₀ G s) : wpAny (model prog w) A (execs rest env) Q E s := g s S
theorem Go.abs (h : ∀ Q', (∀ f s, Q f s → Q' f s) → Go prog w A env s₀ Q' E rest G) : Go prog w A env s₀ Q E rest G := h Q fun _ _ x => x
theorem Go.wk {L : Addr} {m m' : List (Str × AV)} (h : Sub m' m) (g : Go prog w A env s₀ Q E rest ((L, .nm m') :: G)) : Go prog w A env s₀ Q E rest ((L, .nm m) :: G) := fun s S => g s (S.wk h)
theorem Go.perm {G' : Led} (p : G'.Perm G) (g : Go prog w A env s₀ Q E rest G') : Go prog w A env s₀ Q E rest G := fun s S => g s (S.perm p)
theorem Go.swap {p q : Addr × Ent} (g : Go prog w A env s₀ Q E rest (q :: p :: G)) : Go prog w A env s₀ Q E rest (p :: q :: G) := fun s S => g s (S.perm (List.Perm.swap ..))
theorem Go.drop {G' : Led} (p : G'.Sublist G) (g : Go prog w A env s₀ Q E rest G') : Go prog w A env s₀ Q E rest G := fun s S => g s (S.drop p)
theorem Go.nil (h : ∀ s, St prog w s₀ G s → Q .next s) : Go prog w A env s₀ Q E [] G := fun s S => wpAny_execs_nil (h s S)
theorem Go.back (g : Go prog w A env s₀ Q E rest G) : Go prog w A env s₀ (thn prog w A env rest Q E) E [] G := fun s S => wpAny_execs_nil (g s S)

theorem g_local {x : Str} {p' pos : Pos} {e : PySem.Expr} {L : Addr} {m : List (Str × AV)} {v : AV} (D : Gd K s₀.heap) (H : Has prog w F s₀.heap) 
    (he : Ex prog w K A env (((L, .nm m) :: G) ++ F) e (.av v)) (h : Go prog w A env s₀ Q E rest ((L, .nm (setAl x v m)) :: G))
    (hs : swapsWith e (some (.Name x p')) pos.line env = pure false := by rfl) (hL : env.locals = L := by rfl) (hl : env.kindOf x = some .local := by rfl) (hp : (env.scope.kind == .class || (env.scope.kind == .module && env.locals != env.globals)) = false := by rfl) :
    Go prog w A env s₀ Q E (.Assign [.Name x p'] e pos :: rest) ((L, .nm m) :: G) := fun _ S => as_local S D H he h hs hL hl hp
theorem g_new {x : Str} {p' pos : Pos} {e : PySem.Expr} {L : Addr} {m : List (Str × AV)} {ent : Ent} (D : Gd K s₀.heap) (H : Has prog w F s₀.heap) 
    (he : Xn prog w K A env (((L, .nm m) :: G) ++ F) e ent) (h : ∀ a, Go prog w A env s₀ Q E rest ((L, .nm (setAl x (.ref a) m)) :: (a, ent) :: G))
    (hs : swapsWith e (some (.Name x p')) pos.line env = pure false := by rfl) (hL : env.locals = L := by rfl) (hl : env.kindOf x = some .local := by rfl) (hp : (env.scope.kind == .class || (env.scope.kind == .module && env.locals != env.globals)) = false := by rfl) :
    Go prog w A env s₀ Q E (.Assign [.Name x p'] e pos :: rest) ((L, .nm m) :: G) := fun _ S => as_new S D H he (fun a => h a) hs hL hl hp
theorem g_cell {pre post : Led} {x : Str} {p' pos : Pos} {e : PySem.Expr} {c : Addr} {v₀ : Option AV} {v : AV} (D : Gd K s₀.heap) (H : Has prog w F s₀.heap) 
    (he : Ex prog w K A env ((pre ++ (c, .ce v₀) :: post) ++ F) e (.av v)) (h : Go prog w A env s₀ Q E rest (pre ++ (c, .ce (some v)) :: post))
    (hs : swapsWith e (some (.Name x p')) pos.line env = pure false := by rfl) (hk : env.scope.kind = .function := by rfl) (hl : env.kindOf x = some .cell := by rfl) (hc : env.cells.lookup x = some c := by rfl) :
    Go prog w A env s₀ Q E (.Assign [.Name x p'] e pos :: rest) (pre ++ (c, .ce v₀) :: post) := fun _ S => as_cell S D H he h hs hk hl hc
theorem g_cellN {pre post : Led} {x : Str} {p' pos : Pos} {e : PySem.Expr} {c : Addr} {v₀ : Option AV} {ent : Ent} (D : Gd K s₀.heap) (H : Has prog w F s₀.heap) 
    (he : Xn prog w K A env ((pre ++ (c, .ce v₀) :: post) ++ F) e ent) (h : ∀ a, Go prog w A env s₀ Q E rest (pre ++ (c, .ce (some (.ref a))) :: (a, ent) :: post))
    (hs : swapsWith e (some (.Name x p')) pos.line env = pure false := by rfl) (hk : env.scope.kind = .function := by rfl) (hl : env.kindOf x = some .cell := by rfl) (hc : env.cells.lookup x = some c := by rfl) :
    Go prog w A env s₀ Q E (.Assign [.Name x p'] e pos :: rest) (pre ++ (c, .ce v₀) :: post) := fun _ S => as_cellN S D H he (fun a => h a) hs hk hl hc
theorem g_two {x y : Str} {px py pt pos : Pos} {kt : Nat} {e : PySem.Expr} {L : Addr} {m : List (Str × AV)} {a b : Int} (D : Gd K s₀.heap) (H : Has prog w F s₀.heap) (hh : A.handled = none) 
    (he : Ex prog w K A env (((L, .nm m) :: G) ++ F) e (.new (.tI [a, b]))) (h : Go prog w A env s₀ Q E rest ((L, .nm (setAl x (.int a) (setAl y (.int b) m))) :: G))
    (hs : swapsWithSole [.Tuple [.Name x px, .Name y py] kt pt] e pos.line env = pure false := by rfl) (hw : swappedStores [.Tuple [.Name x px, .Name y py] kt pt] e env = pure (some [x, y]) := by rfl)
    (hL : env.locals = L := by rfl) (hlx : env.kindOf x = some .local := by rfl) (hly : env.kindOf y = some .local := by rfl) (hp : (env.scope.kind == .class || (env.scope.kind == .module && env.locals != env.globals)) = false := by rfl) :
    Go prog w A env s₀ Q E (.Assign [.Tuple [.Name x px, .Name y py] kt pt] e pos :: rest) ((L, .nm m) :: G) := fun _ S => as_two hh S D H he h hs hw hL hlx hly hp
theorem g_dec {e : PySem.Expr} {body orelse : List Stmt} {pos : Pos} {b : Bool} (D : Gd K s₀.heap) (H : Has prog w F s₀.heap) (he : Tx prog w K A env (G ++ F) e b)
    (ht : b = true → Go prog w A env s₀ (thn prog w A env rest Q E) E body G) (hf : b = false → Go prog w A env s₀ (thn prog w A env rest Q E) E orelse G) : Go prog w A env s₀ Q E (.If e body orelse pos :: rest) G := fun s S => by
  cases b with
  | true => exact if_true S D H he (ht rfl)
  | false => exact if_false S D H he (hf rfl)
theorem g_true {e : PySem.Expr} {body orelse : List Stmt} {pos : Pos} (D : Gd K s₀.heap) (H : Has prog w F s₀.heap) (he : Tx prog w K A env (G ++ F) e true)
    (h : Go prog w A env s₀ (thn prog w A env rest Q E) E body G) : Go prog w A env s₀ Q E (.If e body orelse pos :: rest) G := fun _ S => if_true S D H he h
theorem g_false {e : PySem.Expr} {body orelse : List Stmt} {pos : Pos} (D : Gd K s₀.heap) (H : Has prog w F s₀.heap) (he : Tx prog w K A env (G ++ F) e false)
    (h : Go prog w A env s₀ (thn prog w A env rest Q E) E orelse G) : Go prog w A env s₀ Q E (.If e body orelse pos :: rest) G := fun _ S => if_false S D H he h
theorem g_ret {e : PySem.Expr} {pos : Pos} {r : Res} (D : Gd K s₀.heap) (H : Has prog w F s₀.heap) (he : Ex prog w K A env (G ++ F) e r)
    (h : ∀ v s', r.Is prog w s'.heap v → Kp s₀ s' → Q (.ret v) s') : Go prog w A env s₀ Q E (.Return (some e) pos :: rest) G := fun _ S => ret_ex S D H he rest h
theorem g_retN {e : PySem.Expr} {pos : Pos} {a : Addr} {ent : Ent} (D : Gd K s₀.heap) (H : Has prog w F s₀.heap) (he : Ex prog w K A env (G ++ F) e (.av (.ref a))) (hm : (a, ent) ∈ G)
    (h : ∀ s', s₀.heap.get? a = none → ent.At prog w s'.heap a → Kp s₀ s' → Q (.ret (.ref a)) s') : Go prog w A env s₀ Q E (.Return (some e) pos :: rest) G := fun _ S => ret_new S D H he hm rest h
theorem g_add {x : Str} {p pos pos' : Pos} {e : PySem.Expr} {B u : Addr} {ys : List Str} {y : Str} (D : Gd K s₀.heap) (H : Has prog w F s₀.heap) (hu : (u, Ent.ob (bnd B)) ∈ G)
    (hx : Ex prog w K A env (((B, .lS ys) :: G) ++ F) (.Name x p) (.av (.ref u))) (he : Ex prog w K A env (((B, .lS ys) :: G) ++ F) e (.av (.str y))) (hd : ∀ p ∈ G, p.2.isDol = false) (hz : ys.length ≤ 1000)
    (h : Go prog w A env s₀ Q E rest ((B, .lS (ys ++ [y])) :: G))
    (hi : interactive env = false := by rfl) (hs : swapsWith (.Call (.Name x p) [e] [] pos) none pos'.line env = pure false := by rfl) (hp : plainE e = true := by rfl) :
    Go prog w A env s₀ Q E (.Expr (.Call (.Name x p) [e] [] pos) pos' :: rest) ((B, .lS ys) :: G) := fun _ S => add_stmt S D H hu hx he hd hz h hi hs hp
theorem g_comp {elt target iter : PySem.Expr} {ifs : List PySem.Expr} {gs : List Comprehension} {scope : Scope} {pos spos py : Pos} {y : Str} {cl : List (Str × Addr)} {its out : List AV} {L : Addr} {mm : List (Str × AV)} {ent : Ent} (D : Gd K s₀.heap) (H : Has prog w F s₀.heap) 
    (hix : Ix prog w K A env (((L, .nm mm) :: G) ++ F) iter its)
    (hc : CL prog w K A env (((L, .nm mm) :: G) ++ F) elt (⟨target, iter, ifs, 0⟩ :: gs) scope pos cl its out) (hent : ∀ {h a}, (Ent.lA out).At prog w h a → ent.At prog w h a)
    (h : ∀ a, Go prog w A env s₀ Q E rest ((L, .nm (setAl y (.ref a) mm)) :: (a, ent) :: G))
    (hsw : swapsWith (.ListComp elt (⟨target, iter, ifs, 0⟩ :: gs) scope pos) (some (.Name y py)) spos.line env = pure true := by rfl) (hclos : closureFor scope env = pure cl := by rfl) (hcell : ∀ y ∈ scope.names, y.2 ≠ .cell := by decide) (hkind : scope.kind = .function := by rfl)
    (hnames : ∀ y ∈ scope.names, y.2 = .local → scope.names.lookup y.1 = some .local := by decide) (hs : ∀ x, foldedSetIterable iter env x = pure x := by intro _; rfl)
    (hL : env.locals = L := by rfl) (hl : env.kindOf y = some .local := by rfl) (hp : (env.scope.kind == .class || (env.scope.kind == .module && env.locals != env.globals)) = false := by rfl) :
    Go prog w A env s₀ Q E (.Assign [.Name y py] (.ListComp elt (⟨target, iter, ifs, 0⟩ :: gs) scope pos) spos :: rest) ((L, .nm mm) :: G) := fun _ S => as_comp S D H hix hc hent (fun a => h a) hsw hclos hcell hkind hnames hs hL hl hp
/- a while loop whose turn changes the ledger alone -/
theorem g_while {test : PySem.Expr} {body : List Stmt} {pos : Pos} (D : Gd K s₀.heap) (H : Has prog w F s₀.heap) (J : Nat → Led → Prop) (b : Nat → Bool) (N i₀ : Nat)
    (hT : ∀ i G, J i G → Tx prog w K A env (G ++ F) test (b i)) (hb : ∀ i, b i = true → i < N)
    (step : ∀ i G Q' E', b i = true → J i G → (∀ j G' s, i < j → J j G' → St prog w s₀ G' s → Q' .next s) → Go prog w A env s₀ Q' E' body G)
    (h : ∀ i G, b i = false → J i G → Go prog w A env s₀ Q E rest G) (h0 : J i₀ G) : Go prog w A env s₀ Q E (.While test body [] pos :: rest) G := fun s S =>
  while_to (fun i s => ∃ G, J i G ∧ St prog w s₀ G s) b N i₀ D H (fun i s x => x.elim fun G x => ⟨G, x.2, hT i G x.1, fun s' k => ⟨G, x.1, x.2.keep k⟩⟩) hb
    (fun i s E' hi x => x.elim fun G x => step i G _ E' hi x.1 (fun j G' s' hj hJ S' => ⟨rfl, j, hj, G', hJ, S'⟩) s x.2)
    (fun i s hi x => x.elim fun G x => h i G hi x.1 s x.2) ⟨G, h0, S⟩
end
end Mine

-- B17
namespace Mine
open PySem PySem.Calls PyProof.Rows PySem.W

section
variable {prog : Program} {w : World} {A : Around} {F : Led}

noncomputable def trM (i : Nat) (u D : Addr) (pat : Str) : List (Str × AV) := [(Str.ofString "i", .int i), (Str.ofString "n", .int 3), (Str.ofString "add", .ref u), (Str.ofString "res", .ref D), (Str.ofString "pat", .str pat), (Str.ofString "QUESTION_MARK", .str (Str.ofString "?"))]
noncomputable def trL (c : Nat → Nat) (i : Nat) : List Str := (List.range i).map fun j => ⟨#[c j]⟩


theorem mN {x : Str} {v : AV} {m : List (Str × AV)} : (x, v) ∈ setAl x v m := List.mem_cons_self
theorem mS {x y : Str} {v u : AV} {m : List (Str × AV)} (h : (x, v) ∈ m) (hne : (x != y) = true := by decide) : (x, v) ∈ setAl y u m := List.mem_cons_of_mem _ (List.mem_filter.mpr ⟨h, hne⟩)
theorem Ex.known {env : Env} {K : Frag} {e : PySem.Expr} {a : Addr} {ent : Ent} (he : Ex prog w K A env F e (.av (.ref a))) (hm : (a, ent) ∈ F) : Ex prog w K A env F e (.new ent) :=
  fun s _ _ G H h => he s _ _ G H fun v s' hv k => h v s' ⟨a, hv, (H _ hm).up k.up⟩ k
theorem Tx.to {env : Env} {K : Frag} {e : PySem.Expr} {b b' : Bool} (h : Tx prog w K A env F e b) (q : b = b') : Tx prog w K A env F e b' := q ▸ h
theorem sq_ne (P : Nat → Prop) {c : Nat} (h : sq c) (h1 : P 55) (h2 : P 59) (h3 : P 61) (h4 : P 62) (h5 : P 63) : P c := by rcases h with (rfl | rfl | rfl | rfl) | rfl <;> assumption
theorem sg_ne (P : Nat → Prop) {c : Nat} (h : sg c) (h1 : P 55) (h2 : P 59) (h3 : P 61) (h4 : P 62) : P c := by rcases h with rfl | rfl | rfl | rfl <;> assumption

theorem trL_succ (c : Nat → Nat) (i : Nat) : trL c (i + 1) = trL c i ++ [⟨#[c i]⟩] := by simp [trL, List.range_succ]

theorem fx_tr (hh : A.handled = none) (hroom : A.depth + 1 < recursionLimit) {c : Nat → Nat} (hc : ∀ i, i < 3 → sq (c i)) :
    Gx prog w (KK w) A F (.ref 55) [.av (.str ⟨#[c 0, c 1, c 2]⟩), .av (.str (Str.ofString "*")), .av (.str (Str.ofString "?"))] (.lS (trL c 3)) := by
  refine Fp.plain (as := [.str ⟨#[c 0, c 1, c 2]⟩, .str (Str.ofString "*"), .str (Str.ofString "?")]) [Str.ofString "pat", Str.ofString "STAR", Str.ofString "QUESTION_MARK"] (by rfl) (by rfl) (dp0 hroom) (by rfl) (zip3 rfl fun _ _ _ => rfl) (by rfl) (by decide) (by decide) (by decide) fun s₀ s₁ L S D H => ?_
  refine Go.run ?_ S
  refine Go.abs fun Q₀ hQ₀ => ?_
  refine g_new D H Xn.nilS fun Da => ?_
  intro s₂ S₂
  refine wpAny_execs_cons (wpAny_Assign_Name (Ex.append (x := Str.ofString "res") (D := Da) S₂ D H (ys := []) (.tail _ (.head _)) (Ex.local (.head _) (.head _)) fun u s₃ S₃ => ?_) rfl)
  refine (S₃.perm (G' := (L, _) :: (u, .ob (bnd Da)) :: (Da, .lS []) :: []) (List.Perm.swap ..)).store (av := .ref u) rfl (fun s₄ S₄ => ?_)
  refine Go.run ?_ S₄
  refine g_two D H hh (Ex.tupI (ys := [0, 3]) (Sx.cons Ex.int (Sx.cons (Ex.callB (Ex.blt (v := .builtin "len") (r := .bi "len") (by rfl) (by rfl) rfl) (Sx.cons (Ex.local (v := .str ⟨#[c 0, c 1, c 2]⟩) (.head _) (mS (mS (.head _)))) Sx.nil) (fx_lenS _ (by show 3 < 1000; decide))) Sx.nil)) (by decide)) ?_
  refine Go.perm (G' := (L, _) :: (Da, .lS []) :: (u, .ob (bnd Da)) :: []) (List.Perm.cons _ (List.Perm.swap ..)) ?_
  refine Go.wk (m' := trM 0 u Da ⟨#[c 0, c 1, c 2]⟩)
    (Sub.cons mN (Sub.cons (mS mN) (Sub.cons (mS (mS mN)) (Sub.cons (mS (mS (mS mN))) (Sub.cons (mS (mS (mS (mS (.head _))))) (Sub.cons (mS (mS (mS (mS (.tail _ (.tail _ (.head _))))))) Sub.nil)))))) ?_
  refine g_while D H (fun i G => i ≤ 3 ∧ G = [(L, .nm (trM i u Da ⟨#[c 0, c 1, c 2]⟩)), (Da, .lS (trL c i)), (u, .ob (bnd Da))]) (fun i => decide ((i : Int) < 3)) 3 0 (fun i G hJ => ?_)
    (fun i h => Int.ofNat_lt.mp (of_decide_eq_true h)) (fun i G Q' E' hi hJ hQ => ?_) (fun i G hi hJ => ?_) ⟨by decide, rfl⟩
  · rw [hJ.2]
    exact Tx.ltI (Ex.local (.head _) (.head _)) (Ex.local (.head _) (.tail _ (.head _)))
  · have hi3 : i < 3 := Int.ofNat_lt.mp (of_decide_eq_true hi)
    obtain ⟨_, rfl⟩ := hJ
    refine g_local D H (Ex.idxS (i := i) (c := c i) (Ex.local (v := .str ⟨#[c 0, c 1, c 2]⟩) (.head _) (.tail _ (.tail _ (.tail _ (.tail _ (.head _)))))) (Ex.local (.head _) (.head _)) (i_nn i) (i_lt hi3 (by decide)) (lt3 (P := fun i : Nat => (⟨#[c 0, c 1, c 2]⟩ : Str).cps[(i : Int).toNat]? = some (c i)) hi3 rfl rfl rfl)) ?_
    refine g_local D H (Ex.addI (a := i) (b := 1) (Ex.local (.head _) (mS (.head _))) Ex.int) ?_
    refine g_false D H (Tx.to (Tx.eqS (x := ⟨#[c i]⟩) (y := Str.ofString "*") (Ex.local (.head _) (mS mN)) Ex.str) (sq_ne (fun c => ((⟨#[c]⟩ : Str) == Str.ofString "*") = false) (hc i hi3) (by decide) (by decide) (by decide) (by decide) (by decide))) ?_
    have fin : ∀ s, St prog w s₀ ((Da, .lS (trL c i ++ [⟨#[c i]⟩])) :: (L, .nm (setAl (Str.ofString "i") (.int (i + 1)) (setAl (Str.ofString "c") (.str ⟨#[c i]⟩) (trM i u Da ⟨#[c 0, c 1, c 2]⟩)))) :: (u, .ob (bnd Da)) :: []) s → Q' .next s := fun s' S' => by
      refine hQ (i + 1) _ s' (Nat.lt_succ_self i) ⟨hi3, rfl⟩ ?_
      rw [trL_succ]
      refine (S'.perm (G' := (L, _) :: (Da, _) :: (u, .ob (bnd Da)) :: []) (List.Perm.swap ..)).wk ?_
      exact Sub.cons mN (Sub.cons (mS (mS (.tail _ (.head _)))) (Sub.cons (mS (mS (.tail _ (.tail _ (.head _))))) (Sub.cons (mS (mS (.tail _ (.tail _ (.tail _ (.head _)))))) (Sub.cons (mS (mS (.tail _ (.tail _ (.tail _ (.tail _ (.head _))))))) (Sub.cons (mS (mS (.tail _ (.tail _ (.tail _ (.tail _ (.tail _ (.head _)))))))) Sub.nil)))))
    have lz : (trL c i).length ≤ 1000 := by unfold trL; rw [List.length_map, List.length_range]; exact Nat.le_trans (Nat.le_of_lt hi3) (by decide)
    have nd : ∀ p ∈ ((L, Ent.nm (setAl (Str.ofString "i") (.int (i + 1)) (setAl (Str.ofString "c") (.str ⟨#[c i]⟩) (trM i u Da ⟨#[c 0, c 1, c 2]⟩)))) :: (u, .ob (bnd Da)) :: [] : Led), p.2.isDol = false := fun p hp => by
      rcases List.mem_cons.mp hp with rfl | hp
      · rfl
      · rw [List.mem_singleton] at hp; subst hp; rfl
    rcases hc i hi3 with hg | hq
    · refine g_false D H (Tx.to (Tx.eqS (x := ⟨#[c i]⟩) (y := Str.ofString "?") (Ex.local (.head _) (mS mN)) Ex.str) (sg_ne (fun c => ((⟨#[c]⟩ : Str) == Str.ofString "?") = false) hg (by decide) (by decide) (by decide) (by decide))) ?_
      refine g_false D H (Tx.to (Tx.eqS (x := ⟨#[c i]⟩) (y := Str.ofString "[") (Ex.local (.head _) (mS mN)) Ex.str) (sg_ne (fun c => ((⟨#[c]⟩ : Str) == Str.ofString "[") = false) hg (by decide) (by decide) (by decide) (by decide))) ?_
      refine Go.swap ?_
      exact g_add D H (u := u) (.tail _ (.head _)) (Ex.local (.tail _ (.head _)) (mS (mS (.tail _ (.tail _ (.head _)))))) (y := ⟨#[c i]⟩)
        (Ex.callF (f := 48) (Ex.glob (v := .ref 48) (by rfl) rfl) (by rfl) (Sx.cons (Ex.local (v := .str ⟨#[c i]⟩) (.tail _ (.head _)) (mS mN)) Sx.nil) (fx_escape (A := A.deeper _) hh hroom hg)) nd lz (Go.back (Go.back (Go.back (Go.nil fin))))
    · refine g_true D H (Tx.to (Tx.eqS (x := ⟨#[c i]⟩) (y := Str.ofString "?") (Ex.local (.head _) (mS mN)) Ex.str) (by rw [hq]; decide)) ?_
      refine Go.swap ?_
      refine g_add D H (u := u) (.tail _ (.head _)) (Ex.local (.tail _ (.head _)) (mS (mS (.tail _ (.tail _ (.head _)))))) (y := ⟨#[c i]⟩)
        (Ex.local (.tail _ (.head _)) ?_) nd lz (Go.back (Go.back (Go.nil fin)))
      rw [hq]; exact mS (mS (.tail _ (.tail _ (.tail _ (.tail _ (.tail _ (.head _)))))))
  · obtain ⟨hle, rfl⟩ := hJ
    have hi3 : i = 3 := Nat.le_antisymm hle (Nat.le_of_not_lt fun h => of_decide_eq_false hi (Int.ofNat_lt.mpr h))
    subst hi3
    intro s T
    refine wpAny_execs_cons (wpAny_Assert_holds ?_)
    refine (Tx.eqI (a := 3) (b := 3) (Ex.local (.head _) (.head _)) (Ex.local (.head _) (.tail _ (.head _)))) s _ _ (T.gd D) (T.all H) fun s' k => ⟨rfl, ?_⟩
    refine Go.run (g_retN D H (Ex.local (v := .ref Da) (.head _) (.tail _ (.tail _ (.tail _ (.head _))))) (.tail _ (.head _)) fun s'' hn hat k' => ?_) (T.keep k)
    exact hQ₀ _ _ ⟨_, rfl, _, rfl, hn, hat, k'⟩
end
end Mine

-- B18
namespace Mine
open PySem PySem.Calls PyProof.Rows PySem.W
noncomputable def sqL : List Nat := [55, 59, 61, 62, 63]
noncomputable def sqL3 : List (Nat × Nat × Nat) := sqL.flatMap fun a => sqL.flatMap fun b => sqL.map fun c => (a, b, c)
theorem sq_mem {a : Nat} (h : sq a) : a ∈ sqL := sq_ne (fun a => a ∈ sqL) h (by decide) (by decide) (by decide) (by decide) (by decide)
open PySem.Builtin._codecs in
theorem enc_all (self : PySem.Value) : (sqL3.map fun p => encodeNarrow "str.encode" asciiCodec none self ⟨#[p.1, p.2.1, p.2.2]⟩) = sqL3.map fun p => pure #[p.1.toUInt8, p.2.1.toUInt8, p.2.2.toUInt8] := by kernel_rfl
open PySem.Builtin._codecs in
theorem enc_narrow {a b c : Nat} (ha : sq a) (hb : sq b) (hc : sq c) (self : PySem.Value) : encodeNarrow "str.encode" asciiCodec none self ⟨#[a, b, c]⟩ = pure #[a.toUInt8, b.toUInt8, c.toUInt8] :=
  List.map_inj_left.mp (enc_all self) (a, b, c) (List.mem_flatMap.mpr ⟨a, sq_mem ha, List.mem_flatMap.mpr ⟨b, sq_mem hb, List.mem_map.mpr ⟨c, sq_mem hc, rfl⟩⟩⟩)
theorem enc_ascii (x : Str) (t u : Tok) : Builtin.«str.encode» ⟨[.str x t, .str (Str.ofString "ascii") u], []⟩ = (do ret (← (do mkBytes (← PySem.Builtin._codecs.encodeNarrow "str.encode" PySem.Builtin._codecs.asciiCodec none (.str x t) x)))) := by kernel_rfl
section
variable {prog : Program} {w : World} {A : Around} {F : Led}
theorem fx_encode {a b c : Nat} (ha : sq a) (hb : sq b) (hc : sq c) : Fx prog w (KK w) A F (.builtin "str.encode") [.av (.str ⟨#[a, b, c]⟩), .av (.str (Str.ofString "ascii"))] (.av (.byt #[a.toUInt8, b.toUInt8, c.toUInt8])) := by
  intro vs s E Q G H ha' h
  obtain ⟨v, u, rfl, ⟨t, hv⟩, t', hu⟩ := ha'.two
  focus
    subst hv; subst hu
    refine wpAny_call_entry PySem.F.slot_str_encode (typeIs_str _ _ _) PySem.F.entry_str_encode ?_ (PySem.F.args_str_encode_2 _ _)
    rw [enc_ascii, enc_narrow ha hb hc]
    simp only [pure_bind, bind_assoc]
    refine wpAny_bind (wpAny_mkBytes ?_)
    exact wpAny_pure ⟨_, rfl, h _ _ ⟨_, rfl⟩ (Kp.tok s _)⟩

theorem fx_bfdd (hroom : A.depth < recursionLimit) {a b c : Nat} (ha : sq a) (hb : sq b) (hc : sq c) : Fx prog w (KK w) A F (.ref 63) [.av (.str ⟨#[a, b, c]⟩)] (.av (.byt #[a.toUInt8, b.toUInt8, c.toUInt8])) := by
  refine Fx.plain (as := [.str ⟨#[a, b, c]⟩]) [Str.ofString "s"] (by rfl) (by rfl) hroom (by rfl) (zip1 rfl fun _ => rfl) (by rfl) (by decide) (by decide) (by decide) fun s₀ s₁ L S D H => ?_
  refine if_true S D H (Tx.val (Ex.callB (Ex.blt (by rfl) (by rfl) rfl) (Sx.cons (Ex.local (.head _) (.head _)) (Sx.cons (Ex.blt (v := .type "str") (r := .ty "str") (by rfl) (by rfl) rfl) Sx.nil)) (fx_isStr _))) fun s' S' => ?_
  refine wpAny_execs_cons (wpAny_Try_except ?_)
  refine ret_ex S' D H ?_ _ fun v s' hv k => ⟨v, rfl, hv, k⟩
  exact Ex.methS (Ex.local (.head _) (.head _)) (Sx.cons Ex.str Sx.nil) (fx_encode (A := A.deeper _) ha hb hc) PySem.F.slot_str_encode PySem.F.type_str_encode

theorem fb_getm {K : Frag} {pl : Sem Bool} {s : Shared} {E : PySem.Value → Shared → Prop} {Q : PySem.Value × List PySem.Value → Shared → Prop} (X : K.In s.heap)
    (e : findCls K (.type "int") (.type "type") (PySem.Str.ofString "from_bytes") = some (.get (.builtin "classmethod_descriptor.__get__") (.builtin "int.from_bytes") .none (.type "int")))
    (h : ∀ x s', s'.heap.get? x = some KFB.bound → Kp s s' → Q (.ref x, []) s') :
    wpAny (model prog w) A (getMethod (.type "int") (PySem.Str.ofString "from_bytes") pl) Q E s := by
  have hstub : opaqueClassAbove (.type "int") = pure none := by unfold opaqueClassAbove; dsimp only; rw [show Manifest.isStub "int" = false by decide +kernel]; rfl
  have ht : typeOf (.type "int") = pure (.type "type") := by first | rfl | kernel_rfl
  have L0 : Looks (model prog w) s.heap (typeOf (.type "int")) (.type "type") := Looks.of_pure ht
  have hg : findIn K (.type "type") "__getattribute__" = some (some (.builtin "type.__getattribute__")) := type_tga
  unfold getMethod specialOf
  refine wpAny_bind (wpAny_bind (L0.here ((looks_findIn X hg).here ?_)))
  dsimp only
  rw [if_pos canon_tga]
  refine wpAny_bind (wpAny_mono (Q := fun v => Q (v, [])) (E := E) ?_ (fun _ _ z => wpAny_pure z) fun _ _ z => z)
  have LO : Looks (model prog w) s.heap (opaqueClassAbove (.type "int")) none := Looks.of_pure hstub
  refine cls_open X LO L0 hg (looks_hook X (r := none) (by rfl)) (by show subIn K _ _ = _; rfl) e ?_
  show wpAny _ _ (holding [.builtin "int.from_bytes"] (call (.builtin "classmethod_descriptor.__get__") [.builtin "int.from_bytes", .none, .type "int"]) >>= fun v => ret v) _ _ _
  refine wpAny_bind (wpAny_holding (wpAny_call_entry KFB.slot_get KFB.type_fb KFB.entry_get (KFB.run_get ⟨_, rfl, wpAny_pure (wpAny_pure (h _ _ (Heap.get?_push_size _ rfl) (Kp.pushT _ _ _)))⟩) (KFB.args_get _ _ _)))
end
end Mine

-- B19
namespace Mine
open PySem PySem.Calls PyProof.Rows PySem.W
section
variable {prog : Program} {w : World} {A : Around} {F : Led} {K : Frag} {env : Env}

theorem Ex.fromBytes {o e1 e2 : PySem.Expr} {apos pos : Pos} {b : Array UInt8} (ho : Ex prog w K A env F o (.av (.ty "int"))) (ha : Sx prog w K A env F [e1, e2] [.av (.byt b), .av (.str (Str.ofString "big"))]) (hb : b.size ≤ 8)
    (e : findCls K (.type "int") (.type "type") (PySem.Str.ofString "from_bytes") = some (.get (.builtin "classmethod_descriptor.__get__") (.builtin "int.from_bytes") .none (.type "int")))
    (hbase : attributeBase o (PySem.Str.ofString "from_bytes") env (eval o env) = eval o env := by rfl)
    (hfew : ((backTo pos (starEach [e1, e2] env)).all (fun x => !x.1) && (backToKw pos (keywordEach [] env)).all (fun x => x.1.isSome)
      && decide ([e1, e2].length + ([] : List Keyword).length + (if ([] : List Keyword).isEmpty then 0 else 1) < 30)) = true := by rfl)
    (hline : (apos.endLine == pos.line) = true := by rfl) (hp : [e1, e2].all plainE = true := by rfl) :
    Ex prog w K A env F (.Call (.Attribute o (PySem.Str.ofString "from_bytes") apos) [e1, e2] [] pos) (.av (.int (KFB.value (KBw.bInts b)))) := by
  intro s E Q G H h
  rw [arm_eval_Call, hbase]
  refine wpAny_bind (ho s _ _ G H fun v s₁ hv k₁ => ?_)
  cases hv
  refine wpAny_bind (wpAny_standAt ?_)
  have hform : methodCallForm ([e1, e2].length + ([] : List Keyword).length) (backTo pos (starEach [e1, e2] env)) (backToKw pos (keywordEach [] env)) = true := hfew
  have hpos : methodCallPos true o env apos pos = pure pos := by unfold methodCallPos; simp [hline]
  unfold methodCall
  rw [hform]
  refine wpAny_bind (wpAny_holding (fb_getm (G.up k₁.up).X e fun x s₂ ho k₂ => ?_))
  refine wpAny_bind (wpAny_of_eq hpos ?_)
  show wpAny _ _ (callWith pos (.ref x) [] (backTo pos (starEach [e1, e2] env)) []) _ _ _
  refine KFB.callWith_fields (any_plain _ hp pos) ?_
  have hp1 : plainE e1 = true := by rw [List.all_cons, Bool.and_eq_true] at hp; exact hp.1
  rw [star_plain hp1]
  refine evalArgs_plain ?_
  have := ha pos s₂ E (fun vs s₃ => KFB.StandsAt x s₃.heap ∧ wpAny (model prog w) A (call (.ref x) ([] ++ vs) []) Q E s₃) ((G.up k₁.up).up k₂.up) ((H.up k₁.up).up k₂.up) fun vs s₃ hvs k₃ => ⟨k₃.up _ _ ho, by
    obtain ⟨v, u, rfl, ⟨t, hv⟩, t', hu⟩ := hvs.two
    focus
      subst hv; subst hu
      exact KFB.call_of (k₃.up _ _ ho) (fun z => KFB.tree_big hb z) (h _ _ ⟨_, rfl⟩ (((k₁.tr k₂).tr k₃).tr (Kp.tok _ _)))⟩
  rw [star_plain hp1] at this
  exact this

noncomputable def num3 (a b c : Nat) : Int := (a : Int) * 65536 + b * 256 + c
theorem val3 {a b c : Nat} (ha : sq a) (hb : sq b) (hc : sq c) : KFB.value (KBw.bInts #[a.toUInt8, b.toUInt8, c.toUInt8]) = num3 a b c := by
  have e : ∀ {x : Nat}, sq x → x.toUInt8.toNat = x := fun h => sq_ne (fun x => x.toUInt8.toNat = x) h (by decide) (by decide) (by decide) (by decide) (by decide)
  simp only [KFB.value, KBw.bInts, List.map_cons, List.map_nil, List.foldl_cons, List.foldl_nil, e ha, e hb, e hc, num3]
  omega

theorem fx_number (hroom : A.depth + 1 < recursionLimit) {a b c : Nat} (ha : sq a) (hb : sq b) (hc : sq c) : Fx prog w (KK w) A F (.ref 105) [.av (.str ⟨#[a, b, c]⟩)] (.av (.int (num3 a b c))) := by
  refine Fx.plain (as := [.str ⟨#[a, b, c]⟩]) [Str.ofString "pattern"] (by rfl) (by rfl) (dp0 hroom) (by rfl) (zip1 rfl fun _ => rfl) (by rfl) (by decide) (by decide) (by decide) fun s₀ s₁ L S D H => ?_
  refine ret_ex S D H ?_ _ fun v s' hv k => ⟨v, rfl, hv, k⟩
  rw [← val3 ha hb hc]
  exact Ex.fromBytes (Ex.blt (v := .type "int") (r := .ty "int") (by rfl) (by rfl) rfl) (Sx.cons (Ex.callF (f := 63) (Ex.glob (v := .ref 63) (by rfl) rfl) (by rfl) (Sx.cons (Ex.local (.head _) (.head _)) Sx.nil) (fx_bfdd (A := A.deeper _) hroom ha hb hc)) (Sx.cons Ex.str Sx.nil)) (by show 3 ≤ 8; decide) (by rfl)
end
end Mine

-- B20
namespace Mine
open PySem PySem.Calls PyProof.Rows PySem.W

theorem bindL_all {kindOf : Str → Option NameKind} {binds : List (Str × PySem.Value)} : ∀ {m : Str → Option PySem.Value}, (∀ x ∈ binds, kindOf x.1 = some .local) → ∀ y, bindL kindOf binds m y = (binds.reverse.lookup y).or (m y) := by
  induction binds with
  | nil => exact fun _ _ => rfl
  | cons p r ih =>
    obtain ⟨n, v⟩ := p
    intro m h y
    show bindL kindOf r (if kindOf n = some .local then fun z => if z = n then some v else m z else m) y = _
    rw [if_pos (h _ List.mem_cons_self), ih (fun x hx => h x (List.mem_cons_of_mem _ hx)), List.reverse_cons, List.lookup_append]
    cases r.reverse.lookup y with
    | some u => rfl
    | none =>
      show (if y = n then some v else m y) = (match y == n with | true => some v | false => none).or (m y)
      by_cases hy : y = n
      · rw [if_pos hy, beq_iff_eq.mpr hy]; rfl
      · rw [if_neg hy, beq_eq_false_iff_ne.mpr hy]; rfl
theorem bindC_all {kindOf : Str → Option NameKind} {binds : List (Str × PySem.Value)} : ∀ {m : Str → Option PySem.Value}, (∀ x ∈ binds, kindOf x.1 = some .local) → bindC kindOf binds m = m := by
  induction binds with
  | nil => exact fun _ => rfl
  | cons p r ih =>
    obtain ⟨n, v⟩ := p
    intro m h
    unfold bindC
    rw [if_pos (h _ List.mem_cons_self)]
    exact ih fun x hx => h x (List.mem_cons_of_mem _ hx)

theorem lookup_of_mem {α : Type} {l : List (Str × α)} {n : Str} {c : α} : (l.map (·.1)).Nodup → (n, c) ∈ l → l.lookup n = some c := by
  induction l with
  | nil => exact fun _ h => absurd h List.not_mem_nil
  | cons p r ih =>
    obtain ⟨k, v⟩ := p
    intro hd h
    rw [List.map_cons, List.nodup_cons] at hd
    rcases List.mem_cons.mp h with e | h
    · cases e; exact List.lookup_cons_self
    · have ne : n ≠ k := fun q => hd.1 (q ▸ List.mem_map_of_mem (f := fun x => x.1) h)
      rw [List.lookup_cons, beq_eq_false_iff_ne.mpr ne]; exact ih hd.2 h

section
variable {prog : Program} {w : World} {K : Frag} {A : Around} {F : Led}

/- a call of a def with cells; what the caller made stands on the ledger -/
theorem call_cells {s₀ s : Shared} {G₀ : Led} {vs : List PySem.Value} {E : PySem.Value → Shared → Prop} {Q : PySem.Value → Shared → Prop} {f : Addr} {fd : FuncData} {oc : PySem.Value} {od : Option Addr} {osl : Array (Option PySem.Value)} {body : List Stmt} {as : List AV} (nms cn : List Str) (S₀ : St prog w s₀ G₀ s) (G : Gd K s.heap) (ha : Are prog w s.heap (as.map .av) vs)
    (ho : K.lookup f = some ⟨oc, od, .func fd, osl⟩) (hcd : codeIn K fd.code fd.qualname = true) (hroom : A.depth < recursionLimit) (hbody : fd.body = .stmts body)
    (hb : ∀ vs : List PySem.Value, vs.length = as.length → bindArgs fd ⟨vs, []⟩ = pure (nms.zip vs)) (hn : nms.length = as.length) (hnd : nms.Nodup) (hclo : fd.closure = [])
    (hcn : ∀ n, cellsFrom n fd.scope.names [] = (cn.zipIdx n).reverse) (hcd' : cn.Nodup) (hloc : ∀ x ∈ nms, fd.scope.names.lookup x = some .local)
    (h : ∀ s₁ L, St prog w s₀ (((L, .nm (nms.zip as)) :: (cn.zipIdx (L + 1)).map fun p => (p.2, .ce none)) ++ G₀) s₁ →
      wpAny (model prog w) (A.deeper (callEnvC fd L f)) (execs body (callEnvC fd L f)) (fun fl s' => ∃ v, fl = .ret v ∧ Q v s') (fun _ _ => False) s₁)
    (hco : fd.scope.isCoroutine = false := by rfl) (hgen : fd.scope.isGenerator = false := by rfl) (hk : fd.scope.kind = .function := by rfl) :
    wpAny (model prog w) A (call (.ref f) vs) Q E s := by
  have hl := ha.length
  rw [List.length_map] at hl
  have hkl : ∀ x ∈ nms.zip vs, (callEnvC fd s.heap.objs.size f).kindOf x.1 = some .local := fun x hx => hloc _ (List.of_mem_zip hx).1
  refine wpAny_call (codeAny_call_cells hroom (G.X _ _ ho) rfl G.lim (codeRec_of G.X hcd) hbody (hb vs hl) hclo (fun x hx => .inl (hloc _ (List.of_mem_zip hx).1)) (fun s₁ I => ?_) hco hgen hk)
  have hcells : (callEnvC fd s.heap.objs.size f).cells = (cn.zipIdx (s.heap.objs.size + 1)).reverse := hcn _
  have hloc' : (callEnvC fd s.heap.objs.size f).locals = s.heap.objs.size := rfl
  have S : St prog w s ((s.heap.objs.size, .nm (nms.zip as)) :: (cn.zipIdx (s.heap.objs.size + 1)).map fun p => (p.2, .ce none)) s₁ := by
    have hmem : ∀ p ∈ cn.zipIdx (s.heap.objs.size + 1), (callEnvC fd s.heap.objs.size f).cells.lookup p.1 = some p.2 := fun p hp => by
      rw [hcells]
      refine lookup_of_mem ?_ (List.mem_reverse.mpr hp)
      have e1 : (cn.zipIdx (s.heap.objs.size + 1)).map (fun x => x.1) = cn := List.zipIdx_map_fst ..
      rw [List.map_reverse, e1]
      exact (List.reverse_perm cn).nodup_iff.mpr hcd'
    obtain ⟨h', tk, e, up⟩ := I.done
    refine ⟨⟨h', tk, e, up⟩, fun p hp => ?_, fun p hp => ?_, ?_⟩
    · rcases List.mem_cons.mp hp with rfl | hp
      · refine ⟨_, I.toInCall.ns, fun p hp => ?_⟩
        obtain ⟨v, e, hv⟩ := zip_lookup hnd hn ha p hp
        refine ⟨v, ?_, hv⟩
        rw [bindL_all hkl, lookup_rev, e]
        · rfl
        · rw [List.map_fst_zip (Nat.le_of_eq (hn.trans hl.symm))]; exact hnd
      · obtain ⟨p', hp', rfl⟩ := List.mem_map.mp hp
        have := I.cell _ _ (hmem p' hp')
        rw [bindC_all hkl] at this
        exact ⟨none, this, trivial⟩
    · rcases List.mem_cons.mp hp with rfl | hp
      · exact Heap.get?_none_of_le (Nat.le_refl _)
      · obtain ⟨p', hp', rfl⟩ := List.mem_map.mp hp
        exact Heap.get?_none_of_le (Nat.le_of_lt (I.above _ _ (mem_of_lookup (hmem p' hp'))))
    · rw [List.map_cons, List.nodup_cons]
      have e2 : ((cn.zipIdx (s.heap.objs.size + 1)).map fun p => ((p.2, Ent.ce none) : Addr × Ent)).map (·.1) = List.range' (s.heap.objs.size + 1) cn.length := by
        rw [List.map_map]; show (cn.zipIdx _).map (·.2) = _; simp
      rw [e2]
      refine ⟨fun hm => ?_, List.nodup_range'⟩
      have := List.mem_range'_1.mp hm
      dsimp only at this
      omega
  refine wpAny_mono (h s₁ _ (S₀.plus S)) (fun fl s' hf => ?_) fun _ _ x => x.elim
  obtain ⟨v, rfl, hv⟩ := hf
  exact hv

theorem Fp.cells {f : Addr} {fd : FuncData} {oc : PySem.Value} {od : Option Addr} {osl : Array (Option PySem.Value)} {body : List Stmt} {as : List AV} {P : Shared → PySem.Value → Shared → Prop} (nms cn : List Str)
    (ho : K.lookup f = some ⟨oc, od, .func fd, osl⟩) (hcd : codeIn K fd.code fd.qualname = true) (hroom : A.depth < recursionLimit) (hbody : fd.body = .stmts body)
    (hb : ∀ vs : List PySem.Value, vs.length = as.length → bindArgs fd ⟨vs, []⟩ = pure (nms.zip vs)) (hn : nms.length = as.length) (hnd : nms.Nodup) (hclo : fd.closure = [])
    (hcn : ∀ n, cellsFrom n fd.scope.names [] = (cn.zipIdx n).reverse) (hcd' : cn.Nodup) (hloc : ∀ x ∈ nms, fd.scope.names.lookup x = some .local)
    (h : ∀ s₀ s₁ L, St prog w s₀ ((L, .nm (nms.zip as)) :: (cn.zipIdx (L + 1)).map fun p => (p.2, .ce none)) s₁ → Gd K s₀.heap → Has prog w F s₀.heap →
      wpAny (model prog w) (A.deeper (callEnvC fd L f)) (execs body (callEnvC fd L f)) (fun fl s' => ∃ v, fl = .ret v ∧ P s₀ v s') (fun _ _ => False) s₁)
    (hco : fd.scope.isCoroutine = false := by rfl) (hgen : fd.scope.isGenerator = false := by rfl) (hk : fd.scope.kind = .function := by rfl) :
    Fp prog w K A F (.ref f) (as.map .av) P := by
  intro vs s E Q G H ha q
  refine call_cells nms cn (St.start s) G ha ho hcd hroom hbody hb hn hnd hclo hcn hcd' hloc (fun s₁ L S => ?_) hco hgen hk
  rw [List.append_nil] at S
  refine wpAny_mono (h s s₁ L S G H) (fun fl s' hf => ?_) fun _ _ x => x
  obtain ⟨v, rfl, hv⟩ := hf
  exact ⟨v, rfl, q v s' hv⟩
end
end Mine

-- B21
namespace Mine
open PySem PySem.Calls PyProof.Rows PySem.W

noncomputable def tx (c : Nat → Nat) : Str := ⟨#[c 0, c 1, c 2]⟩
noncomputable def hit1 (c : Nat → Nat) (x : Str) (i : Nat) : Bool := c i == 63 || x.cps[i]? == some (c i)
noncomputable def hitS (c : Nat → Nat) (x : Str) : Bool := hit1 c x 0 && (hit1 c x 1 && (hit1 c x 2 && true))
noncomputable def hitV (c : Nat → Nat) : AV → Bool
  | .str x => hitS c x
  | _ => false

section
variable {prog : Program} {w : World} {A : Around} {F : Led}
theorem inT_hit {c x : Nat} : [Str.ofString "?", ⟨#[x]⟩].any (fun y => y == (⟨#[c]⟩ : Str)) = (c == 63 || (some x == some c)) := by
  have e1 : (Str.ofString "?" == (⟨#[c]⟩ : Str)) = (c == 63) := by
    rw [Bool.eq_iff_iff]
    simp only [beq_iff_eq]
    constructor
    · intro h; have := congrArg Str.cps h; have e : (Str.ofString "?").cps = #[63] := by decide
      rw [e] at this; simpa using this.symm
    · rintro rfl; decide
  have e2 : ((⟨#[x]⟩ : Str) == (⟨#[c]⟩ : Str)) = (some x == some c) := by
    rw [Bool.eq_iff_iff]
    simp
  simp [List.any_cons, List.any_nil, e1, e2]

theorem Xn.toS {env : Env} {K : Frag} {e : PySem.Expr} {l : List AV} {ys : List Str} (h : Xn prog w K A env F e (.lA l)) (q : l = ys.map .str) : Xn prog w K A env F e (.lS ys) :=
  fun s E Q G H z => h s E Q G H fun a s' hn hat k => z a s' hn (lA_lS (q ▸ hat)) k
theorem fx_lenL {K : Frag} {a : Addr} {ys : List Str} (hm : (a, Ent.lS ys) ∈ F) (hz : ys.length < 1000) : Fx prog w K A F (.builtin "len") [.av (.ref a)] (.av (.int ys.length)) := by
  intro vs s E Q G H ha h
  obtain ⟨v, rfl, hv⟩ := ha.one
  focus
    cases hv
    obtain ⟨vs, pl, sa⟩ := H _ hm
    refine len_strsA pl.isList sa (by omega) ?_
    exact h (.int ys.length (s.toks + 1)) { s with toks := s.toks + 1 + 1 } ⟨_, rfl⟩ ⟨_, _, rfl, Up.refl _⟩

theorem ret_xn {K : Frag} {env : Env} {e : PySem.Expr} {pos : Pos} {s₀ s : Shared} {G : Led} {ent : Ent} {Q : Flow → Shared → Prop} {E : PySem.Value → Shared → Prop} (S : St prog w s₀ G s) (D : Gd K s₀.heap) (hF : Has prog w F s₀.heap) (he : Xn prog w K A env (G ++ F) e ent) (rest : List Stmt)
    (h : ∀ a s', s₀.heap.get? a = none → ent.At prog w s'.heap a → Kp s₀ s' → Q (.ret (.ref a)) s') : wpAny (model prog w) A (execs (.Return (some e) pos :: rest) env) Q E s := by
  refine wpAny_execs_cons (wpAny_Return_some ?_)
  refine he s _ _ (S.gd D) (S.all hF) fun a s' hn hat k => h a s' ?_ hat (S.kp.tr k)
  cases z : s₀.heap.get? a with
  | none => rfl
  | some o => have := S.kp.up _ _ z; rw [hn] at this; cases this

theorem fx_taken (hh : A.handled = none) (hroom : A.depth + 2 < recursionLimit) {c : Nat → Nat} (hc : ∀ i, i < 3 → sq (c i)) {nl : Addr} {ds : List (Nat → Nat)} (hm : (nl, Ent.lS (ds.map tx)) ∈ F) (hz : ds.length ≤ 100) :
    Gx prog w (KK w) A F (.ref 110) [.av (.str (tx c)), .av (.ref nl)] (.lS ((ds.map tx).filter (hitS c))) := by
  refine Fp.cells (as := [.str (tx c), .ref nl]) [Str.ofString "pattern", Str.ofString "names"] [Str.ofString "parts"] (by rfl) (by rfl) (dp0 hroom) (by rfl) (zip2 rfl fun _ _ => rfl) (by rfl) (by decide) (by rfl) (fun n => by rfl) (by decide) (by decide) (fun s₀ s₁ L S D H => ?_) (by rfl) (by rfl) (by rfl)
  refine as_cellN (pre := [(L, _)]) (c := L + 1) (post := []) S D H (Xn.callF (f := 55) (Ex.glob (v := .ref 55) (by rfl) rfl) (by rfl) (Sx.cons (Ex.local (v := .str (tx c)) (.head _) (.head _)) (Sx.cons Ex.str (Sx.cons Ex.str Sx.nil))) (fx_tr (A := A.deeper _) hh (show A.depth + 2 < _ from hroom) hc)) fun a s₂ S₂ => ?_
  refine if_false S₂ D H (Tx.to (Tx.neI (a := 3) (b := 3) (Ex.callB (Ex.blt (v := .builtin "len") (r := .bi "len") (by rfl) (by rfl) rfl) (Sx.cons (Ex.cell (v := .ref a) (c := L + 1) (.tail _ (.head _)) (by rfl)) Sx.nil) (fx_lenL (ys := trL c 3) (.tail _ (.tail _ (.head _))) (by show 3 < 1000; decide))) Ex.int) rfl) fun s₃ S₃ => wpAny_execs_nil ?_
  show wpAny _ _ (execs _ _) _ _ _
  have key : ∀ (d : Nat → Nat), hitV c (.str (tx d)) = ([Str.ofString "?", ⟨#[d 0]⟩].any (fun y => y == (⟨#[c 0]⟩ : Str)) && ([Str.ofString "?", ⟨#[d 1]⟩].any (fun y => y == (⟨#[c 1]⟩ : Str)) && ([Str.ofString "?", ⟨#[d 2]⟩].any (fun y => y == (⟨#[c 2]⟩ : Str)) && true))) := fun d => by
    rw [inT_hit, inT_hit, inT_hit]; rfl
  refine ret_xn (ent := .lS ((ds.map tx).filter (hitS c))) S₃ D H ?_ _ fun a s' hn hat k => ⟨_, rfl, a, rfl, hn, hat, k⟩
  refine (Xn.toS (l := (((ds.map tx).map AV.str).filter (hitV c)).map id) ?_ ?_)
  refine Xn.comp (its := (ds.map tx).map AV.str) (cl := [(Str.ofString "parts", L + 1)]) ?_ ?_
  · exact Ix.list (Ex.local (v := .ref nl) (.head _) (.tail _ (.head _))) (.tail _ (.tail _ (.tail _ hm))) rfl
  refine CL.one (p := hitV c) (f := id) hh (fun v hv C => ?_) (by simp; omega)
  · obtain ⟨x, hx, rfl⟩ := List.mem_map.mp hv
    obtain ⟨d, _, rfl⟩ := List.mem_map.mp hx
    refine ⟨Ts.one (Tx.to (Tx.and (Ax.cons (Tx.inT (x := ⟨#[c 0]⟩) (ys := [Str.ofString "?", ⟨#[d 0]⟩]) ?_ ?_) fun _ => Ax.cons (Tx.inT (x := ⟨#[c 1]⟩) (ys := [Str.ofString "?", ⟨#[d 1]⟩]) ?_ ?_) fun _ => Ax.cons (Tx.inT (x := ⟨#[c 2]⟩) (ys := [Str.ofString "?", ⟨#[d 2]⟩]) ?_ ?_) fun _ => Ax.nil)) (key d).symm), fun _ => Ex.local (.head _) (.head _)⟩
    · exact Ex.idxLS (c := a) (ys := trL c 3) (i := 0) (Ex.cell (c := L + 1) (v := .ref a) (.tail _ (.tail _ (.head _))) (by rfl)) (.tail _ (.tail _ (.tail _ (.head _)))) Ex.int (by decide) (by decide) rfl
    · exact Ex.tupS (ys := [Str.ofString "?", ⟨#[d 0]⟩]) (Sx.cons Ex.str (Sx.cons (Ex.idxS (x := tx d) (i := 0) (c := d 0) (Ex.local (.head _) (.head _)) Ex.int (by decide) (by decide) rfl) Sx.nil)) (by show 2 ≤ 64; decide)
    · exact Ex.idxLS (c := a) (ys := trL c 3) (i := 1) (Ex.cell (c := L + 1) (v := .ref a) (.tail _ (.tail _ (.head _))) (by rfl)) (.tail _ (.tail _ (.tail _ (.head _)))) Ex.int (by decide) (by decide) rfl
    · exact Ex.tupS (ys := [Str.ofString "?", ⟨#[d 1]⟩]) (Sx.cons Ex.str (Sx.cons (Ex.idxS (x := tx d) (i := 1) (c := d 1) (Ex.local (.head _) (.head _)) Ex.int (by decide) (by decide) rfl) Sx.nil)) (by show 2 ≤ 64; decide)
    · exact Ex.idxLS (c := a) (ys := trL c 3) (i := 2) (Ex.cell (c := L + 1) (v := .ref a) (.tail _ (.tail _ (.head _))) (by rfl)) (.tail _ (.tail _ (.tail _ (.head _)))) Ex.int (by decide) (by decide) rfl
    · exact Ex.tupS (ys := [Str.ofString "?", ⟨#[d 2]⟩]) (Sx.cons Ex.str (Sx.cons (Ex.idxS (x := tx d) (i := 2) (c := d 2) (Ex.local (.head _) (.head _)) Ex.int (by decide) (by decide) rfl) Sx.nil)) (by show 2 ≤ 64; decide)
  · rw [List.map_id, List.filter_map]; rfl
end
end Mine

-- B22
namespace Mine
open PySem PySem.Calls PyProof.Rows PySem.W

section
variable {prog : Program} {w : World} {K : Frag} {A : Around} {F : Led} {env : Env} {E : PySem.Value → Shared → Prop} {s s₀ : Shared} {G : Led}

/- x += e, ints, x a local -/
theorem aug_int {x : Str} {p' pos : Pos} {e : PySem.Expr} {rest : List Stmt} {L : Addr} {m : List (Str × AV)} {a b : Int} {Q : Flow → Shared → Prop} (S : St prog w s₀ ((L, .nm m) :: G) s) (D : Gd K s₀.heap) (H : Has prog w F s₀.heap)
    (hx : (x, .int a) ∈ m) (he : Ex prog w K A env (((L, .nm m) :: G) ++ F) e (.av (.int b))) (h : ∀ s', St prog w s₀ ((L, .nm (setAl x (.int (a + b)) m)) :: G) s' → wpAny (model prog w) A (execs rest env) Q E s')
    (hL : env.locals = L := by rfl) (hl : env.kindOf x = some .local := by rfl) (hk : env.scope.kind = .function := by rfl) (hp : (env.scope.kind == .class || (env.scope.kind == .module && env.locals != env.globals)) = false := by rfl) :
    wpAny (model prog w) A (execs (.AugAssign (.Name x p') .Add e pos :: rest) env) Q E s := by
  obtain ⟨m', hn, hm⟩ := S.has _ (List.mem_cons_self)
  obtain ⟨v, ev, t, rfl⟩ := hm _ hx
  refine wpAny_execs_cons (wpAny_AugAssign_Name (wpAny_loadName_local hk hl (hL ▸ hn) ev ?_))
  refine he s _ _ (S.gd D) (S.all H) fun u s' hu k => ?_
  obtain ⟨t', rfl⟩ := hu
  refine wpAny_iadd_int ?_
  exact ((S.keep k).keep (Kp.tok s' _)).store (av := .int (a + b)) ⟨_, rfl⟩ (fun s'' S' => h s'' S') hL hl hp

theorem plainL {D : Addr} {its : Array PySem.Value} {h : Heap} (p : h.PlainList D its) : PlainL h D its := p.elim fun n e => ⟨_, n, e, rfl, rfl, rfl⟩

/- D.append(e) -/
theorem app_stmt {pre : Led} {o e : PySem.Expr} {apos pos pos' : Pos} {rest : List Stmt} {D : Addr} {ent ent' : Ent} {l : List AV} {y : AV} {Q : Flow → Shared → Prop} (S : St prog w s₀ (pre ++ (D, ent) :: G) s) (Dd : Gd K s₀.heap) (H : Has prog w F s₀.heap) (hi : ent.items = some l)
    (ho : Ex prog w K A env ((pre ++ (D, ent) :: G) ++ F) o (.av (.ref D))) (he : Ex prog w K A env ((pre ++ (D, ent) :: G) ++ F) e (.av y)) (hd : ∀ p ∈ pre ++ G, p.2.isDol = false) (hz : l.length ≤ 1000)
    (hent : ∀ {h : Heap} {vs : List PySem.Value} {v : PySem.Value}, ent.At prog w h D → h.PlainList D vs.toArray → Paired AV.Is l vs → y.Is v → ∀ h', h'.PlainList D (vs ++ [v]).toArray → ent'.At prog w h' D)
    (h : ∀ s', St prog w s₀ (pre ++ (D, ent') :: G) s' → wpAny (model prog w) A (execs rest env) Q E s')
    (hbase : attributeBase o "append" env (eval o env) = eval o env := by rfl)
    (hfew : ((backTo pos (starEach [e] env)).all (fun x => !x.1) && (backToKw pos (keywordEach [] env)).all (fun x => x.1.isSome)
      && decide (([e] : List PySem.Expr).length + ([] : List Keyword).length + (if ([] : List Keyword).isEmpty then 0 else 1) < 30)) = true := by rfl)
    (hline : (apos.endLine == pos.line) = true := by rfl) (hp : plainE e = true := by rfl) (hi' : interactive env = false := by rfl) (hs : swapsWith (.Call (.Attribute o "append" apos) [e] [] pos) none pos'.line env = pure false := by rfl) :
    wpAny (model prog w) A (execs (.Expr (.Call (.Attribute o "append" apos) [e] [] pos) pos' :: rest) env) Q E s := by
  refine wpAny_execs_cons (wpAny_Expr_any ?_ hi' hs)
  refine wpAny_Call_append hbase hfew hline (by rw [star_plain hp]; rfl) ?_
  refine ho s _ _ (S.gd Dd) (S.all H) fun v s₁ hv k₁ => ?_
  cases hv
  have S₁ := S.keep k₁
  obtain ⟨vs, pl, pa⟩ := (S₁.has (D, ent) (List.mem_append_right _ List.mem_cons_self)).list hi
  refine ⟨D, _, rfl, plainL pl, ?_⟩
  refine he s₁ _ _ (S₁.gd Dd) (S₁.all H) fun v s₂ hv k₂ => ?_
  have S₂ := S₁.keep k₂
  have pl₂ : s₂.heap.PlainList D vs.toArray := pl.at (k₂.up _)
  refine wpAny_list_append_plain pl₂ (fun h' pl' hs => ?_) (by rw [List.size_toArray, ← pa.length]; exact ok_size hz)
  have pl'' : h'.PlainList D (vs ++ [v]).toArray := by simpa using pl'
  have S₃ := S₂.at.list (e' := ent') (tk := s₂.toks) pl₂ hs (hent (S₂.has (D, ent) (List.mem_append_right _ List.mem_cons_self)) pl₂ pa hv h' pl'') hd
  exact h _ S₃.to

theorem hent_S {ys : List Str} {y : Str} {D : Addr} : ∀ {h : Heap} {vs : List PySem.Value} {v : PySem.Value}, (Ent.lS ys).At prog w h D → h.PlainList D vs.toArray → Paired AV.Is (ys.map .str) vs → (AV.str y).Is v → ∀ h', h'.PlainList D (vs ++ [v]).toArray → (Ent.lS (ys ++ [y])).At prog w h' D := by
  intro h vs v _ _ pa ⟨t, hv⟩ h' pl
  subst hv
  exact ⟨_, pl, strs_snoc (strs_paired pa)⟩
theorem hent_I {ys : List Int} {y : Int} {D : Addr} : ∀ {h : Heap} {vs : List PySem.Value} {v : PySem.Value}, (Ent.lI ys).At prog w h D → h.PlainList D vs.toArray → Paired AV.Is (ys.map .int) vs → (AV.int y).Is v → ∀ h', h'.PlainList D (vs ++ [v]).toArray → (Ent.lI (ys ++ [y])).At prog w h' D := by
  intro h vs v _ _ pa ⟨t, hv⟩ h' pl
  subst hv
  exact ⟨_, pl, ints_snoc (ints_paired pa)⟩

/- a for loop: the target's binding is Z's, the rest of the state a ledger's -/
theorem for_gen {Z : Type} {tgt : PySem.Expr} {iter : PySem.Expr} {body rest : List Stmt} {pos : Pos} {Q : Flow → Shared → Prop} {its : List AV} {F' : Led} {z₀ : Z} (hd : Z → Addr × Ent) (R : Z → Prop) (B : Nat → Z → Prop) (J : Nat → Led → Prop) (hh : A.handled = none) (D : Gd K s₀.heap) (H : Has prog w F s₀.heap)
    (S : St prog w s₀ (hd z₀ :: G) s) (hz : R z₀) (hJ0 : J 0 G)
    (hix : ∀ (E' : PySem.Value → Shared → Prop) (Q' : PySem.Value → Shared → Prop), (∀ s₁ I f s', Kp s s₁ → Itr prog w F' I its.length f (fun i => its[i]?.getD .none) → St prog w s₁ [(I, .own (f 0))] s' → Q' (.ref I) s') → wpAny (model prog w) A (eval iter env) (fun x s₁ => wpAny (model prog w) A (pyIter x) Q' E' s₁) E' s)
    (hF : ∀ i G', J i G' → ∀ p ∈ F', p ∈ G')
    (hb : ∀ I f i, i < its.length → Itr prog w F' I its.length f (fun i => its[i]?.getD .none) → ∀ (G' : Led) (z : Z) (s : Shared) (v : PySem.Value) (E : PySem.Value → Shared → Prop) (Q : Shared → Prop), (its[i]?.getD .none).Is v → R z → St prog w s₀ (hd z :: (I, .own (f (i + 1))) :: G') s →
      (∀ z' s', R z' → B i z' → St prog w s₀ (hd z' :: (I, .own (f (i + 1))) :: G') s' → Q s') → wpAny (model prog w) A (letOwnedTupleGo tgt (.ref I) v) (fun _ s₁ => wpAny (model prog w) A (assign tgt env v) (fun _ s₂ => Q s₂) E s₁) E s)
    (step : ∀ i z G' p s' E', i < its.length → R z → B i z → J i G' → p.2.isDol = false → St prog w s₀ (hd z :: p :: G') s' →
      wpAny (model prog w) A (execs body env) (fun f s₃ => f = .next ∧ ∃ z' G'', R z' ∧ J (i + 1) G'' ∧ St prog w s₀ (hd z' :: p :: G'') s₃) E' s')
    (h : ∀ z G' s', R z → J its.length G' → St prog w s₀ (hd z :: G') s' → wpAny (model prog w) A (execs rest env) Q E s')
    (hs : ∀ x, foldedSetIterable iter env x = pure x) :
    wpAny (model prog w) A (execs (.For tgt iter body [] pos :: rest) env) Q E s := by
  refine wpAny_execs_cons (wpAny_For (hix _ _ fun s₁ I f s₂ k It T => ?_) hs)
  have P : St prog w s₀ (hd z₀ :: (I, .own (f 0)) :: G) s₂ := ((S.keep k).plus T).perm (List.Perm.swap ..)
  refine codeAny_forLoop_any (I := fun n s => ∃ i z G', n = its.length - i ∧ i ≤ its.length ∧ R z ∧ J i G' ∧ St prog w s₀ (hd z :: (I, .own (f i)) :: G') s) ?_ its.length ⟨0, z₀, G, rfl, Nat.zero_le _, hz, hJ0, P⟩
  rintro n s₃ ⟨i, z, G', rfl, hi, hz, hJ, S₃⟩
  have HF : Has prog w F' s₃.heap := fun p hp => S₃.has p (List.mem_cons_of_mem _ (List.mem_cons_of_mem _ (hF i G' hJ p hp)))
  have S₄ := S₃.perm (G' := (I, .own (f i)) :: hd z :: G') (List.Perm.swap ..)
  by_cases hlt : i < its.length
  · refine It.item A i s₀ _ s₃ _ _ hh hlt S₄ HF fun v s₅ hv S₅ => ?_
    refine hb I f i hlt It G' z s₅ v _ _ hv hz (S₅.perm (List.Perm.swap ..)) fun z' s₇ hz' hB S₇ => ?_
    refine wpAny_mono (step i z' G' _ s₇ _ hlt hz' hB hJ rfl S₇) (fun fl s₈ hf => ?_) fun _ _ e => e
    obtain ⟨rfl, z₃, G₃, a, b, c⟩ := hf
    exact ⟨its.length - (i + 1), Nat.sub_lt_sub_left hlt (Nat.lt_succ_self i), i + 1, z₃, G₃, rfl, hlt, a, b, c⟩
  · obtain rfl : i = its.length := Nat.le_antisymm hi (Nat.le_of_not_lt hlt)
    exact It.done A s₀ _ s₃ _ _ hh S₄ HF fun s₅ S₅ => wpAny_execs_nil (h z G' s₅ hz hJ S₅)
/- a for loop, its state a ledger's -/
theorem for_core {tgt : PySem.Expr} {iter : PySem.Expr} {body rest : List Stmt} {pos : Pos} {Q : Flow → Shared → Prop} {L : Addr} {m m₀ : List (Str × AV)} {its : List AV} {F' : Led} (J : Nat → Led → Prop) (bi : Nat → List (Str × AV)) (hh : A.handled = none) (D : Gd K s₀.heap) (H : Has prog w F s₀.heap)
    (S : St prog w s₀ ((L, .nm m) :: G) s) (hm : Sub m₀ m) (hJ0 : J 0 G)
    (hix : ∀ (E' : PySem.Value → Shared → Prop) (Q' : PySem.Value → Shared → Prop), (∀ s₁ I f s', Kp s s₁ → Itr prog w F' I its.length f (fun i => its[i]?.getD .none) → St prog w s₁ [(I, .own (f 0))] s' → Q' (.ref I) s') → wpAny (model prog w) A (eval iter env) (fun x s₁ => wpAny (model prog w) A (pyIter x) Q' E' s₁) E' s)
    (hF : ∀ i G', J i G' → ∀ p ∈ F', p ∈ G')
    (hb : ∀ I f i, i < its.length → Itr prog w F' I its.length f (fun i => its[i]?.getD .none) → Binds prog w A env s₀ L I tgt (its[i]?.getD .none) (f (i + 1)) (bi i)) (hx0 : ∀ i, i < its.length → ∀ p ∈ m₀, ∀ q ∈ bi i, p.1 ≠ q.1)
    (step : ∀ i m' G' p s' E', i < its.length → Sub m₀ m' → Sub (bi i) m' → J i G' → p.2.isDol = false → St prog w s₀ ((L, .nm m') :: p :: G') s' →
      wpAny (model prog w) A (execs body env) (fun f s₃ => f = .next ∧ ∃ m'' G'', Sub m₀ m'' ∧ J (i + 1) G'' ∧ St prog w s₀ ((L, .nm m'') :: p :: G'') s₃) E' s')
    (h : ∀ m' G' s', Sub m₀ m' → J its.length G' → St prog w s₀ ((L, .nm m') :: G') s' → wpAny (model prog w) A (execs rest env) Q E s')
    (hs : ∀ x, foldedSetIterable iter env x = pure x := by intro _; rfl) :
    wpAny (model prog w) A (execs (.For tgt iter body [] pos :: rest) env) Q E s := by
  exact for_gen (Z := List (Str × AV)) (fun m => (L, .nm m)) (Sub m₀) (fun i m => Sub (bi i) m) J hh D H S hm hJ0 hix hF (fun I f i hi It G' m s v E Q hv hm hS hQ => hb I f i hi It G' m m₀ s v E Q hv hm (hx0 i hi) hS hQ) step h hs
end
section
variable {prog : Program} {w : World} {A : Around} {env : Env} {s₀ : Shared} {K : Frag} {F : Led} {Q : Flow → Shared → Prop} {E : PySem.Value → Shared → Prop} {rest : List Stmt} {G : Led}
theorem g_aug {x : Str} {p' pos : Pos} {e : PySem.Expr} {L : Addr} {m : List (Str × AV)} {a b : Int} (D : Gd K s₀.heap) (H : Has prog w F s₀.heap)
    (hx : (x, .int a) ∈ m) (he : Ex prog w K A env (((L, .nm m) :: G) ++ F) e (.av (.int b))) (h : Go prog w A env s₀ Q E rest ((L, .nm (setAl x (.int (a + b)) m)) :: G))
    (hL : env.locals = L := by rfl) (hl : env.kindOf x = some .local := by rfl) (hk : env.scope.kind = .function := by rfl) (hp : (env.scope.kind == .class || (env.scope.kind == .module && env.locals != env.globals)) = false := by rfl) :
    Go prog w A env s₀ Q E (.AugAssign (.Name x p') .Add e pos :: rest) ((L, .nm m) :: G) := fun _ S => aug_int S D H hx he h hL hl hk hp
theorem g_app {pre : Led} {o e : PySem.Expr} {apos pos pos' : Pos} {B : Addr} {ent ent' : Ent} {l : List AV} {y : AV} (D : Gd K s₀.heap) (H : Has prog w F s₀.heap) (hi : ent.items = some l)
    (ho : Ex prog w K A env ((pre ++ (B, ent) :: G) ++ F) o (.av (.ref B))) (he : Ex prog w K A env ((pre ++ (B, ent) :: G) ++ F) e (.av y)) (hd : ∀ p ∈ pre ++ G, p.2.isDol = false) (hz : l.length ≤ 1000)
    (hent : ∀ {h : Heap} {vs : List PySem.Value} {v : PySem.Value}, ent.At prog w h B → h.PlainList B vs.toArray → Paired AV.Is l vs → y.Is v → ∀ h', h'.PlainList B (vs ++ [v]).toArray → ent'.At prog w h' B)
    (h : Go prog w A env s₀ Q E rest (pre ++ (B, ent') :: G))
    (hbase : attributeBase o "append" env (eval o env) = eval o env := by rfl)
    (hfew : ((backTo pos (starEach [e] env)).all (fun x => !x.1) && (backToKw pos (keywordEach [] env)).all (fun x => x.1.isSome)
      && decide (([e] : List PySem.Expr).length + ([] : List Keyword).length + (if ([] : List Keyword).isEmpty then 0 else 1) < 30)) = true := by rfl)
    (hline : (apos.endLine == pos.line) = true := by rfl) (hp : plainE e = true := by rfl) (hi' : interactive env = false := by rfl) (hs : swapsWith (.Call (.Attribute o "append" apos) [e] [] pos) none pos'.line env = pure false := by rfl) :
    Go prog w A env s₀ Q E (.Expr (.Call (.Attribute o "append" apos) [e] [] pos) pos' :: rest) (pre ++ (B, ent) :: G) := fun _ S => app_stmt S D H hi ho he hd hz hent h hbase hfew hline hp hi' hs
theorem g_for {tgt : PySem.Expr} {iter : PySem.Expr} {body : List Stmt} {pos : Pos} {L : Addr} {m m₀ : List (Str × AV)} {its : List AV} {F' : Led} (J : Nat → Led → Prop) (bi : Nat → List (Str × AV)) (hh : A.handled = none) (D : Gd K s₀.heap) (H : Has prog w F s₀.heap)
    (hm : Sub m₀ m) (hJ0 : J 0 G)
    (hix : ∀ s, St prog w s₀ ((L, .nm m) :: G) s → ∀ (E' : PySem.Value → Shared → Prop) (Q' : PySem.Value → Shared → Prop), (∀ s₁ I f s', Kp s s₁ → Itr prog w F' I its.length f (fun i => its[i]?.getD .none) → St prog w s₁ [(I, .own (f 0))] s' → Q' (.ref I) s') → wpAny (model prog w) A (eval iter env) (fun x s₁ => wpAny (model prog w) A (pyIter x) Q' E' s₁) E' s)
    (hF : ∀ i G', J i G' → ∀ p ∈ F', p ∈ G')
    (hb : ∀ I f i, i < its.length → Itr prog w F' I its.length f (fun i => its[i]?.getD .none) → Binds prog w A env s₀ L I tgt (its[i]?.getD .none) (f (i + 1)) (bi i)) (hx0 : ∀ i, i < its.length → ∀ p ∈ m₀, ∀ q ∈ bi i, p.1 ≠ q.1)
    (step : ∀ i m' G' p Q' E', i < its.length → Sub m₀ m' → Sub (bi i) m' → J i G' → p.2.isDol = false → (∀ m'' G'' s, Sub m₀ m'' → J (i + 1) G'' → St prog w s₀ ((L, .nm m'') :: p :: G'') s → Q' .next s) →
      Go prog w A env s₀ Q' E' body ((L, .nm m') :: p :: G'))
    (h : ∀ m' G', Sub m₀ m' → J its.length G' → Go prog w A env s₀ Q E rest ((L, .nm m') :: G'))
    (hs : ∀ x, foldedSetIterable iter env x = pure x := by intro _; rfl) :
    Go prog w A env s₀ Q E (.For tgt iter body [] pos :: rest) ((L, .nm m) :: G) := fun s S =>
  for_core J bi hh D H S hm hJ0 (hix s S) hF hb hx0 (fun i m' G' p s' E' hi hm' hb' hJ hp S' => step i m' G' p _ E' hi hm' hb' hJ hp (fun m'' G'' s'' a b c => ⟨rfl, m'', G'', a, b, c⟩) s' S')
    (fun m' G' s' a b c => h m' G' a b s' c) hs
end
end Mine

-- B23
namespace Mine
open PySem PySem.Calls PyProof.Rows PySem.W

/-! what _law_consensus computes -/
noncomputable def shf (ts : List (Int × Int)) (u : Int) : List Int := (ts.filter fun t => Builtin.bitAnd (u.fdiv (2 ^ t.1.toNat)) 255 == t.2).map (·.1)
noncomputable def join1 (ts : List (Int × Int)) (row : Int) (ws : List Int) (o : Int) : List Int :=
  if ((shf ts (Builtin.bitXor row o)).length : Int) == 1 && decide ((ws.length : Int) < 400) then ws ++ [Builtin.bitOr (Builtin.bitAnd row o) (63 * 2 ^ ((shf ts (Builtin.bitXor row o)).headD 0).toNat)] else ws
noncomputable def above (row : Int) (d : List Int) : List Int := d.filter fun o => Builtin.bitOr o row == o
noncomputable def apart (row : Int) (d : List Int) : List Int := d.filter fun o => Builtin.bitOr row o != row
noncomputable def stepC (ts : List (Int × Int)) (st : List Int × List Int) (k : Nat) : List Int × List Int :=
  match st.1[k]? with
  | none => st
  | some row => if decide (above row st.2 = []) = true then ((apart row st.2).foldl (join1 ts row) st.1, apart row st.2 ++ [row]) else st
noncomputable def traj (ts : List (Int × Int)) (w0 : List Int) : Nat → List Int × List Int
  | 0 => (w0, [])
  | k + 1 => stepC ts (traj ts w0 k) k
noncomputable def runC (ts : List (Int × Int)) (w0 : List Int) : List Int := (traj ts w0 400).2

theorem join1_len {ts : List (Int × Int)} {row o : Int} {ws : List Int} (h : ws.length ≤ 400) : (join1 ts row ws o).length ≤ 400 := by
  unfold join1
  split
  · rename_i hc
    rw [Bool.and_eq_true] at hc
    rw [List.length_append]; exact Int.ofNat_lt.mp (of_decide_eq_true hc.2)
  · exact h
theorem fold_len {ts : List (Int × Int)} {row : Int} : ∀ {d ws : List Int}, ws.length ≤ 400 → (d.foldl (join1 ts row) ws).length ≤ 400
  | [], _, h => h
  | o :: d, ws, h => fold_len (d := d) (join1_len h)
theorem stepC_len {ts : List (Int × Int)} {st : List Int × List Int} {k : Nat} (h1 : st.1.length ≤ 400) (h2 : st.2.length ≤ k) : (stepC ts st k).1.length ≤ 400 ∧ (stepC ts st k).2.length ≤ k + 1 := by
  unfold stepC
  split
  · exact ⟨h1, Nat.le_succ_of_le h2⟩
  · split
    · rename_i row _ _
      refine ⟨fold_len h1, ?_⟩
      rw [List.length_append]; exact Nat.succ_le_succ (Nat.le_trans (List.length_filter_le ..) h2)
    · exact ⟨h1, Nat.le_succ_of_le h2⟩
theorem traj_len {ts : List (Int × Int)} {w0 : List Int} (h : w0.length ≤ 400) : ∀ k, (traj ts w0 k).1.length ≤ 400 ∧ (traj ts w0 k).2.length ≤ k
  | 0 => ⟨h, Nat.le_refl _⟩
  | k + 1 => stepC_len (traj_len h k).1 (traj_len h k).2
theorem traj_stop {ts : List (Int × Int)} {w0 : List Int} {k : Nat} (h : (traj ts w0 k).1.length ≤ k) : ∀ j, traj ts w0 (k + j) = traj ts w0 k
  | 0 => rfl
  | j + 1 => by
    show stepC ts (traj ts w0 (k + j)) (k + j) = _
    rw [traj_stop h j]
    unfold stepC
    rw [List.getElem?_eq_none (Nat.le_trans h (Nat.le_add_right k j))]

section
variable {prog : Program} {w : World} {A : Around} {F : Led} {K : Frag}

theorem fx_lenI {a : Addr} {ys : List Int} (hm : (a, Ent.lI ys) ∈ F) (hz : ys.length < 1000) : Fx prog w K A F (.builtin "len") [.av (.ref a)] (.av (.int ys.length)) := by
  intro vs s E Q G H ha h
  obtain ⟨v, rfl, hv⟩ := ha.one
  focus
    cases hv
    obtain ⟨vs, pl, sa⟩ := H _ hm
    have hl := ints_len sa
    refine len_list pl.isList (by rw [List.size_toArray]; omega) ?_
    rw [List.size_toArray, hl]
    exact h (.int ys.length (s.toks + 1)) { s with toks := s.toks + 1 + 1 } ⟨_, rfl⟩ ⟨_, _, rfl, Up.refl _⟩
theorem Xn.toI {env : Env} {e : PySem.Expr} {l : List AV} {ys : List Int} (h : Xn prog w K A env F e (.lA l)) (q : l = ys.map .int) : Xn prog w K A env F e (.lI ys) :=
  fun s E Q G H z => h s E Q G H fun a s' hn hat k => z a s' hn (lA_lI (q ▸ hat)) k

noncomputable def cnM (i : Nat) (d wl sl : Addr) : List (Str × AV) := [(Str.ofString "k", .int i), (Str.ofString "done", .ref d), (Str.ofString "waiting", .ref wl), (Str.ofString "steps", .ref sl)]

theorem cnM_ne {i : Nat} {d wl sl : Addr} {x : Str} (h : ∀ n ∈ [Str.ofString "k", Str.ofString "done", Str.ofString "waiting", Str.ofString "steps"], n ≠ x) : ∀ p ∈ cnM i d wl sl, p.1 ≠ x := fun p hp => h _ (List.mem_map_of_mem (f := fun p => p.1) hp)

noncomputable def aboveV (row : Int) : AV → Bool
  | .int o => Builtin.bitOr o row == o
  | _ => false
noncomputable def apartV (row : Int) : AV → Bool
  | .int o => Builtin.bitOr row o != row
  | _ => false
theorem above_map (row : Int) (d : List Int) : ((d.map AV.int).filter (aboveV row)).map id = (above row d).map AV.int := by
  rw [List.map_id, List.filter_map]; rfl
theorem apart_map (row : Int) (d : List Int) : ((d.map AV.int).filter (apartV row)).map id = (apart row d).map AV.int := by
  rw [List.map_id, List.filter_map]; rfl

theorem if_dec {env : Env} {e : PySem.Expr} {body orelse rest : List Stmt} {pos : Pos} {s₀ s : Shared} {G : Led} {b : Bool} {Q : Flow → Shared → Prop} {E : PySem.Value → Shared → Prop} (S : St prog w s₀ G s) (D : Gd K s₀.heap) (hF : Has prog w F s₀.heap) (he : Tx prog w K A env (G ++ F) e b)
    (ht : b = true → ∀ s', St prog w s₀ G s' → wpAny (model prog w) A (execs body env) (thn prog w A env rest Q E) E s')
    (hf : b = false → ∀ s', St prog w s₀ G s' → wpAny (model prog w) A (execs orelse env) (thn prog w A env rest Q E) E s') : wpAny (model prog w) A (execs (.If e body orelse pos :: rest) env) Q E s := by
  cases b with
  | true => exact if_true S D hF he (ht rfl)
  | false => exact if_false S D hF he (hf rfl)

theorem iter_at {env : Env} {e : PySem.Expr} {ax : Addr} {ent : Ent} {its : List AV} {s₀ s : Shared} {G : Led} (S : St prog w s₀ G s) (D : Gd K s₀.heap) (H : Has prog w F s₀.heap) (he : Ex prog w K A env (G ++ F) e (.av (.ref ax))) (hm : (ax, ent) ∈ G) (hi : ent.items = some its) :
    ∀ (E' : PySem.Value → Shared → Prop) (Q' : PySem.Value → Shared → Prop), (∀ s₁ I f s', Kp s s₁ → Itr prog w [(ax, ent)] I its.length f (fun i => its[i]?.getD .none) → St prog w s₁ [(I, .own (f 0))] s' → Q' (.ref I) s') → wpAny (model prog w) A (eval e env) (fun x s₁ => wpAny (model prog w) A (pyIter x) Q' E' s₁) E' s := by
  intro E' Q' q
  refine he s _ _ (S.gd D) (S.all H) fun v s₁ hv k => ?_
  cases hv
  obtain ⟨vs, pl, pa⟩ := ((S.keep k).has _ hm).list hi
  refine wpAny_pyIter_list pl.isList ?_
  exact q s₁ _ (isLI ax) _ k (Itr.list List.mem_cons_self hi) (St.one (own_LI.mpr ⟨_, Heap.get?_push_size _ rfl, rfl, rfl⟩))

theorem shf_map (ts : List (Addr × Int × Int)) (u : Int) : ((ts.filter fun t => (fun (sh st : Int) => Builtin.bitAnd (u.fdiv (2 ^ sh.toNat)) 255 == st) t.2.1 t.2.2).map fun t => (fun (sh _ : Int) => AV.int sh) t.2.1 t.2.2) = (shf (ts.map (·.2)) u).map AV.int := by
  unfold shf
  rw [List.filter_map, List.map_map, List.map_map]
  rfl
theorem fold_take {ts : List (Int × Int)} {row : Int} {dd ws : List Int} {j : Nat} {o : Int} (h : dd[j]? = some o) : (dd.take (j + 1)).foldl (join1 ts row) ws = join1 ts row ((dd.take j).foldl (join1 ts row) ws) o := by
  rw [List.take_add_one, h, List.foldl_append]; rfl

theorem Ex.consensus {env : Env} {x : Str} {p pos : Pos} {e1 e2 : PySem.Expr} {sl : Addr} {ts : List (Addr × Int × Int)} {tt : List (Int × Int)} {w0 : List Int} (htt : ts.map (·.2) = tt) (hh : A.handled = none) (hroom : A.depth + 1 < recursionLimit) (hu : A.units + 100 < cLine)
    (hf : Ex prog w (KK w) A env F (.Name x p) (.av (.ref 115))) (h1 : Xn prog w (KK w) A env F e1 (.lI w0)) (h2 : Ex prog w (KK w) A env F e2 (.av (.ref sl)))
    (hsl0 : (sl, Ent.lA (ts.map fun t => .ref t.1)) ∈ F) (hts : ∀ t ∈ ts, (t.1, Ent.tI [t.2.1, t.2.2]) ∈ F) (hw0 : w0.length ≤ 400) (htz : ts.length ≤ 100)
    (hs0 : ∀ t ∈ ts, 0 ≤ t.2.1 ∧ t.2.1 ≤ 1000000) (hx0 : ∀ k, ∀ a ∈ (traj tt w0 k).1, ∀ b ∈ (traj tt w0 k).2, 0 ≤ Builtin.bitXor a b)
    (hp1 : plainE e1 = true := by rfl) (hp2 : plainE e2 = true := by rfl) :
    Ex prog w (KK w) A env F (.Call (.Name x p) [e1, e2] [] pos) (.new (.lI (runC tt w0))) := by
  intro s E Q G H h
  refine Call_Name rfl (hf s E _ G H fun v s₁ hv k₁ => ?_)
  cases hv
  have G₁ := G.up k₁.up
  obtain ⟨o, fd, ho, hd⟩ := isFunc_of G₁.X (f := 115) (by rfl)
  refine callWith_function (o := o) (fd := fd) ?_
  rw [star_plain hp1, star_plain hp2]
  refine evalArgs_plain (spliced_cons (h1 s₁ _ _ G₁ (H.up k₁.up) fun wl s₂ hn hat k₂ => spliced_cons (h2 s₂ _ _ (G₁.up k₂.up) ((H.up k₁.up).up k₂.up) fun v s₃ hv k₃ => spliced_nil ?_)))
  cases hv
  have S₃ : St prog w s₁ [(wl, .lI w0)] s₃ := ((St.start s₁).add k₂ hn hat).keep k₃
  have D := G₁
  have H₁ := H.up k₁.up
  refine ⟨⟨(k₂.tr k₃).up _ _ ho, hd⟩, ?_⟩
  replace h : ∀ d s', (Ent.lI (runC tt w0)).At prog w s'.heap d → Kp s₁ s' → Q (.ref d) s' := fun d s' a k => h _ s' ⟨d, rfl, a⟩ (k₁.tr k)
  refine call_cells (as := [.ref wl, .ref sl]) [Str.ofString "waiting", Str.ofString "steps"] [Str.ofString "row", Str.ofString "unlike"] S₃ (G₁.up (k₂.tr k₃).up) (.cons rfl (.cons rfl .nil)) (by rfl) (by rfl) (dp0 hroom) (by rfl) (zip2 rfl fun _ _ => rfl) (by rfl) (by decide) (by rfl) (fun n => by rfl) (by decide) (by decide) (fun s₄ L S₄ => ?_) (by rfl) (by rfl) (by rfl)
  refine Go.run ?_ S₄
  refine Go.abs fun Q₀ hQ₀ => ?_
  refine g_new D H₁ Xn.nilI fun d => ?_
  refine g_local D H₁ (Ex.int (i := 0)) ?_
  refine Go.wk (m' := cnM 0 d wl sl) (Sub.cons mN (Sub.cons (mS mN) (Sub.cons (mS (mS (.head _))) (Sub.cons (mS (mS (.tail _ (.head _)))) Sub.nil)))) ?_
  refine g_while D H₁ (fun i G => ∃ d c1 c2 ws ds, traj tt w0 i = (ws, ds) ∧ G = [(L, .nm (cnM i d wl sl)), (d, .lI ds), (L + 1, .ce c1), (L + 1 + 1, .ce c2), (wl, .lI ws)]) (fun i => decide ((i : Int) < ((traj tt w0 i).1.length : Int))) 400 0
    (fun i G hJ => ?_) (fun i hb => ?_) (fun i G Q₁ E₁ hi hJ hQ₁ => ?_) (fun i G hi hJ => ?_) ⟨d, none, none, _, _, rfl, rfl⟩
  · obtain ⟨d, c1, c2, ws, ds, hwd, rfl⟩ := hJ
    have hw4 := (traj_len (ts := tt) hw0 i).1
    rw [hwd] at hw4 ⊢
    exact Tx.ltI (Ex.local (.head _) (.head _)) (Ex.callB (Ex.blt (v := .builtin "len") (r := .bi "len") (by rfl) (by rfl) rfl) (Sx.cons (Ex.local (v := .ref wl) (.head _) (.tail _ (.tail _ (.head _)))) Sx.nil) (fx_lenI (.tail _ (.tail _ (.tail _ (.tail _ (.head _))))) (Nat.lt_of_le_of_lt hw4 (by decide))))
  · exact Int.ofNat_lt.mp (Int.lt_of_lt_of_le (of_decide_eq_true hb) (Int.ofNat_le.mpr (traj_len (ts := tt) hw0 i).1))
  · obtain ⟨d, c1, c2, ws, ds, hwd, rfl⟩ := hJ
    obtain ⟨hw4, hd4⟩ := traj_len (ts := tt) hw0 i
    have hx1 := hx0 i
    have hnx : traj tt w0 (i + 1) = stepC tt (ws, ds) i := congrArg (fun st => stepC tt st i) hwd
    have hi' := of_decide_eq_true hi
    rw [hwd] at hw4 hd4 hx1 hi'
    obtain ⟨row, hrow⟩ : ∃ row, ws[i]? = some row := ⟨_, List.getElem?_eq_getElem (Int.ofNat_lt.mp hi')⟩
    have hx := hx1 row (List.mem_of_getElem? hrow)
    clear hx1 hi' hi hwd
    have hi4 : i < 400 := Nat.lt_of_lt_of_le (List.getElem?_eq_some_iff.mp hrow).1 hw4
    have hd9 : ds.length ≤ 400 := Nat.le_trans hd4 (Nat.le_of_lt hi4)
    refine g_cell (pre := [(L, _), (d, _)]) (c := L + 1) D H₁ (Ex.idxLI (c := wl) (ys := ws) (i := i) (Ex.local (v := .ref wl) (.head _) (.tail _ (.tail _ (.head _)))) (.tail _ (.tail _ (.tail _ (.tail _ (.head _))))) (Ex.local (.head _) (.head _)) (i_nn i) (i_lt hi4 (by decide)) hrow) ?_
    refine g_aug D H₁ (.head _) (Ex.int (i := 1)) ?_
    refine Go.wk (m' := cnM (i + 1) d wl sl) (Sub.cons mN (Sub.cons (mS (.tail _ (.head _))) (Sub.cons (mS (.tail _ (.tail _ (.head _)))) (Sub.cons (mS (.tail _ (.tail _ (.tail _ (.head _))))) Sub.nil)))) ?_
    refine g_dec D H₁ (led3 (P := fun F => Tx prog w (KK w) _ _ F _ _) (a := (L, _)) (b := (d, .lI ds)) (c := (L + 1, .ce (some (.int row)))) (.head _) (.tail _ (.head _)) (.tail _ (.tail _ (.head _))) fun F m1 m2 m3 => Tx.eqLI (ns := above row ds) (ms := []) (show A.units + 67 < cLine from dp hu (by decide)) (Xn.ex (Xn.toI (ys := above row ds) (Xn.comp (its := ds.map AV.int) (cl := [(Str.ofString "row", L + 1)]) (Ix.list (Ex.local (v := .ref d) m1 (.tail _ (.head _))) m2 rfl) (CL.one (p := aboveV row) (f := id) hh (fun v hv C => ?_) (ml hd9 (by decide)))) (above_map row ds))) Ex.nilI) (fun hdec => ?_) (fun hdec => ?_)
    · obtain ⟨o, ho, rfl⟩ := List.mem_map.mp hv
      refine ⟨Ts.one (Tx.eqI (a := Builtin.bitOr o row) (b := o) ?_ (Ex.local (.head _) (.head _))), fun _ => Ex.local (.head _) (.head _)⟩
      exact Ex.callF (f := 84) (Ex.glob (v := .ref 84) (by rfl) rfl) (by rfl) (Sx.cons (Ex.local (.head _) (.head _)) (Sx.cons (Ex.cell (v := .int row) (c := L + 1) (.tail _ m3) (by rfl)) Sx.nil)) (fx_or (A := A.deeper _) hroom _ _)
    · have hab : decide (above row ds = []) = true := decide_eq_true (of_decide_eq_true hdec)
      have hdl : (apart row ds).length ≤ 400 := Nat.le_trans (List.length_filter_le ..) hd9
      have hdsub : ∀ o ∈ apart row ds, 0 ≤ Builtin.bitXor row o := fun o ho => hx o (List.mem_filter.mp ho).1
      have hnx' : traj tt w0 (i + 1) = ((apart row ds).foldl (join1 tt row) ws, apart row ds ++ [row]) := by
        rw [hnx]; unfold stepC; dsimp only; rw [hrow]; exact if_pos hab
      have hap := apart_map row ds
      obtain ⟨dd, hdd⟩ : ∃ dd, apart row ds = dd := ⟨_, rfl⟩
      rw [hdd] at hdl hdsub hnx' hap
      clear hnx hdec hab hx hdd
      refine g_comp (ent := .lI dd) (cl := [(Str.ofString "row", L + 1)]) D H₁ (Ix.list (ent := .lI ds) (Ex.local (v := .ref d) (.head _) (.tail _ (.head _))) (.tail _ (.head _)) rfl) (led1 (P := fun F => CL prog w (KK w) _ _ F _ _ _ _ _ _ _) (a := (L + 1, .ce (some (.int row)))) (.tail _ (.tail _ (.head _))) fun F m3 => CL.one (p := apartV row) (f := id) hh (fun v hv C => ?_) (ml hd9 (by decide))) (fun {h a} x => by rw [hap] at x; exact lA_lI x) fun d' => ?_
      · obtain ⟨o, ho, rfl⟩ := List.mem_map.mp hv
        refine ⟨Ts.one (Tx.neI (a := Builtin.bitOr row o) (b := row) ?_ (Ex.cell (v := .int row) (c := L + 1) (.tail _ m3) (by rfl))), fun _ => Ex.local (.head _) (.head _)⟩
        exact Ex.callF (f := 84) (Ex.glob (v := .ref 84) (by rfl) rfl) (by rfl) (Sx.cons (Ex.cell (v := .int row) (c := L + 1) (.tail _ m3) (by rfl)) (Sx.cons (Ex.local (.head _) (.head _)) Sx.nil)) (fx_or (A := A.deeper _) hroom _ _)
      refine Go.drop (.cons₂ _ (.cons₂ _ (.cons _ (List.Sublist.refl _)))) ?_
      refine Go.wk (m' := cnM (i + 1) d' wl sl) (Sub.cons (mS (.head _)) (Sub.cons mN (Sub.cons (mS (.tail _ (.tail _ (.head _)))) (Sub.cons (mS (.tail _ (.tail _ (.tail _ (.head _))))) Sub.nil)))) ?_
      refine g_for (L := L) (m₀ := cnM (i + 1) d' wl sl) (its := dd.map AV.int) (F' := [(d', .lI dd)]) (fun j G' => ∃ c2 wv, (dd.take j).foldl (join1 tt row) ws = wv ∧ G' = [(d', .lI dd), (L + 1, .ce (some (.int row))), (L + 1 + 1, .ce c2), (wl, .lI wv)]) (fun j => [(Str.ofString "other", (dd.map AV.int)[j]?.getD .none)]) hh D H₁ (fun _ h => h) ⟨c2, ws, rfl, rfl⟩
        (fun s S => iter_at S D H₁ (Ex.local (v := .ref d') (.head _) (.tail _ (.head _))) (.tail _ (.head _)) rfl) (fun j G' hJ p hp => ?_)
        (fun I f j hj It => Binds.name (by rfl) (by rfl) (by rfl)) (fun j _ p hp q hq => by rw [List.mem_singleton] at hq; subst hq; exact cnM_ne (x := Str.ofString "other") (by decide) p hp) ?_ ?_
      · obtain ⟨c2, wv, _, rfl⟩ := hJ
        rw [List.mem_singleton] at hp; subst hp; exact List.mem_cons_self
      · intro j m' G' p Q₂ E₂ hj hm' hb hJ hpd hQ₂
        obtain ⟨c2, wv, hwv, rfl⟩ := hJ
        rw [List.length_map] at hj
        obtain ⟨o, ho⟩ : ∃ o, dd[j]? = some o := ⟨_, List.getElem?_eq_getElem hj⟩
        have hoo : (Str.ofString "other", AV.int o) ∈ m' := by have := hb _ List.mem_cons_self; rw [List.getElem?_map, ho] at this; exact this
        have hxu := hdsub o (List.mem_of_getElem? ho)
        have hwj : wv.length ≤ 400 := hwv ▸ fold_len hw4
        have hfold := fold_take (ts := tt) (row := row) (ws := ws) ho
        rw [hwv] at hfold
        clear hwv hb hj ho
        refine g_cell (pre := [(L, _), p, (d', _), (L + 1, _)]) (c := L + 1 + 1) D H₁ (v := .int (Builtin.bitXor row o)) ?_ ?_
        · exact Ex.callF (f := 98) (Ex.glob (v := .ref 98) (by rfl) rfl) (by rfl) (Sx.cons (Ex.cell (v := .int row) (c := L + 1) (.tail _ (.tail _ (.tail _ (.head _)))) (by rfl)) (Sx.cons (Ex.local (.head _) hoo) Sx.nil)) (fx_xor (A := A.deeper _) hroom _ _)
        have hj1 : join1 tt row wv o = if ((shf tt (Builtin.bitXor row o)).length : Int) == 1 && decide ((wv.length : Int) < 400) then wv ++ [Builtin.bitOr (Builtin.bitAnd row o) (63 * 2 ^ ((shf tt (Builtin.bitXor row o)).headD 0).toNat)] else wv := rfl
        obtain ⟨sh, hsh⟩ : ∃ sh, shf tt (Builtin.bitXor row o) = sh := ⟨_, rfl⟩
        have hsm : ∀ x ∈ sh, 0 ≤ x ∧ x ≤ 1000000 := fun x hx => by
          rw [← hsh, ← htt] at hx
          obtain ⟨t, ht, rfl⟩ := List.mem_map.mp hx
          obtain ⟨t', ht', rfl⟩ := List.mem_map.mp (List.mem_filter.mp ht).1
          exact hs0 t' ht'
        have hsl : sh.length ≤ 100 := by
          rw [← hsh, ← htt]
          unfold shf
          rw [List.length_map]
          exact Nat.le_trans (List.length_filter_le ..) (by rw [List.length_map]; exact htz)
        rw [hsh] at hj1
        refine g_comp (ent := .lI sh) (cl := [(Str.ofString "unlike", L + 1 + 1)]) (its := ts.map fun t => .ref t.1) (out := sh.map AV.int) D H₁ (Ix.list (ent := .lA (ts.map fun t => .ref t.1)) (Ex.local (v := .ref sl) (.head _) (hm' _ (.tail _ (.tail _ (.tail _ (.head _)))))) (.tail _ (.tail _ (.tail _ (.tail _ (.tail _ (.tail _ hsl0)))))) rfl)
          ?_ (fun {h a} x => lA_lI x) fun b => ?_
        · rw [← hsh, ← htt, ← shf_map]
          refine ledP (P := fun F => CL prog w (KK w) _ _ F _ _ _ _ _ _ _) (R := fun F => ∀ t ∈ ts, (t.1, Ent.tI [t.2.1, t.2.2]) ∈ F) (a := (L + 1 + 1, .ce (some (.int (Builtin.bitXor row o))))) (.tail _ (.tail _ (.tail _ (.tail _ (.head _))))) (fun t ht => .tail _ (.tail _ (.tail _ (.tail _ (.tail _ (.tail _ (hts t ht))))))) fun F m1 m2 => CL.pair (ts := ts) (p := fun sh st => Builtin.bitAnd ((Builtin.bitXor row o).fdiv (2 ^ sh.toNat)) 255 == st) (f := fun sh _ => .int sh) hh m2 (fun t ht C => ?_) (Nat.le_trans htz (by decide))
          refine ⟨Ts.one (Tx.eqI (a := Builtin.bitAnd ((Builtin.bitXor row o).fdiv (2 ^ t.2.1.toNat)) 255) (b := t.2.2) ?_ (Ex.local (.head _) (.tail _ (.head _)))), fun _ => Ex.local (.head _) (.head _)⟩
          refine Ex.callF (f := 70) (Ex.glob (v := .ref 70) (by rfl) rfl) (by rfl) (Sx.cons ?_ (Sx.cons Ex.int Sx.nil)) (fx_and (A := A.deeper _) hroom _ _)
          exact Ex.callF (f := 91) (Ex.glob (v := .ref 91) (by rfl) rfl) (by rfl) (Sx.cons (Ex.cell (v := .int (Builtin.bitXor row o)) (c := L + 1 + 1) (.tail _ m1) (by rfl)) (Sx.cons (Ex.local (.head _) (.head _)) Sx.nil)) (fx_shr (A := A.deeper _) hroom _ _ (hs0 t ht).1 hxu)
        clear hsh
        have M14 : Sub (cnM (i + 1) d' wl sl) (setAl (Str.ofString "shifts") (.ref b) m') := hm'.set (cnM_ne (by decide))
        refine g_dec D H₁ (led3 (P := fun F => Tx prog w (KK w) _ _ F _ _) (a := (L, _)) (b := (b, .lI sh)) (c := (wl, .lI wv)) (.head _) (.tail _ (.head _)) (.tail _ (.tail _ (.tail _ (.tail _ (.tail _ (.tail _ (.head _))))))) fun F m1 m2 m3 => Tx.and (Ax.cons (Tx.eqI (a := sh.length) (b := 1) (Ex.callB (Ex.blt (v := .builtin "len") (r := .bi "len") (by rfl) (by rfl) rfl) (Sx.cons (Ex.local (v := .ref b) m1 mN) Sx.nil) (fx_lenI m2 (Nat.lt_of_le_of_lt hsl (by decide)))) Ex.int) fun _ =>
          Ax.cons (Tx.ltI (a := wv.length) (b := 400) (Ex.callB (Ex.blt (v := .builtin "len") (r := .bi "len") (by rfl) (by rfl) rfl) (Sx.cons (Ex.local (v := .ref wl) m1 (M14 _ (.tail _ (.tail _ (.head _))))) Sx.nil) (fx_lenI (ys := wv) m3 (Nat.lt_of_le_of_lt hwj (by decide)))) Ex.int) fun _ => Ax.nil)) (fun hif => ?_) (fun hif => ?_)
        · rw [Bool.and_true] at hif
          obtain ⟨x, rfl⟩ : ∃ x, sh = [x] := List.length_eq_one_iff.mp (Int.ofNat.inj (eq_of_beq (Bool.and_eq_true _ _ ▸ hif).1))
          rw [if_pos hif] at hj1
          have hx16 := hsm x (List.mem_singleton.mpr rfl)
          refine g_app (pre := [(L, _), (b, _), p, (d', _), (L + 1, _), (L + 1 + 1, _)]) (B := wl) (G := []) (ent := .lI wv) (ent' := .lI (wv ++ [Builtin.bitOr (Builtin.bitAnd row o) (63 * 2 ^ x.toNat)])) (y := .int (Builtin.bitOr (Builtin.bitAnd row o) (63 * 2 ^ x.toNat))) D H₁ rfl (Ex.local (v := .ref wl) (.head _) (M14 _ (.tail _ (.tail _ (.head _))))) ?_ (nd_cons rfl (nd_cons rfl (nd_cons hpd (nd_cons rfl (nd_cons rfl (nd_cons rfl nd_nil)))))) (ml hwj (by decide)) hent_I ?_
          · refine led3 (P := fun F => Ex prog w (KK w) _ _ F _ _) (a := (L, _)) (b := (b, .lI [x])) (c := (L + 1, .ce (some (.int row)))) (.head _) (.tail _ (.head _)) (.tail _ (.tail _ (.tail _ (.tail _ (.head _))))) fun F m1 m2 m3 => ?_
            refine Ex.callF (f := 84) (Ex.glob (v := .ref 84) (by rfl) rfl) (by rfl) (Sx.cons (r := .av (.int (Builtin.bitAnd row o))) ?_ (Sx.cons (r := .av (.int (63 * 2 ^ x.toNat))) ?_ Sx.nil)) (fx_or (A := A.deeper _) hroom _ _)
            · exact Ex.callF (f := 70) (Ex.glob (v := .ref 70) (by rfl) rfl) (by rfl) (Sx.cons (Ex.cell (v := .int row) (c := L + 1) m3 (by rfl)) (Sx.cons (Ex.local m1 (mS hoo)) Sx.nil)) (fx_and (A := A.deeper _) hroom _ _)
            · exact Ex.callF (f := 77) (Ex.glob (v := .ref 77) (by rfl) rfl) (by rfl) (Sx.cons Ex.int (Sx.cons (Ex.idxLI (c := b) (ys := [x]) (i := 0) (Ex.local (v := .ref b) m1 mN) m2 Ex.int (by decide) (by decide) rfl) Sx.nil)) (fx_shl (A := A.deeper _) hroom 63 x hx16.1 hx16.2 (by decide))
          · exact Go.back (Go.drop (.cons₂ _ (.cons _ (List.Sublist.refl _))) (Go.nil fun s S => hQ₂ _ _ s M14 ⟨_, _, hfold.trans hj1, rfl⟩ S))
        · rw [Bool.and_true] at hif
          rw [if_neg (by rw [hif]; exact Bool.false_ne_true)] at hj1
          exact Go.back (Go.drop (.cons₂ _ (.cons _ (List.Sublist.refl _))) (Go.nil fun s S => hQ₂ _ _ s M14 ⟨_, _, hfold.trans hj1, rfl⟩ S))
      · intro m' G' hm' hJ
        obtain ⟨c2, wv, hwv, rfl⟩ := hJ
        rw [List.length_map, List.take_length] at hwv
        rw [hwv] at hnx'
        refine g_app (pre := [(L, _)]) (B := d') (ent := .lI dd) (ent' := .lI (dd ++ [row])) (y := .int row) D H₁ rfl (Ex.local (v := .ref d') (.head _) (hm' _ (.tail _ (.head _)))) (Ex.cell (v := .int row) (c := L + 1) (.tail _ (.tail _ (.head _))) (by rfl)) (nd_cons rfl (nd_cons rfl (nd_cons rfl (nd_cons rfl nd_nil)))) (ml hdl (by decide)) hent_I ?_
        exact Go.back (Go.wk hm' (Go.nil fun s S => hQ₁ (i + 1) _ s (Nat.lt_succ_self i) ⟨d', some (.int row), c2, wv, _, hnx', rfl⟩ S))
    · have hab : ¬ decide (above row ds = []) = true := by rw [decide_eq_false (of_decide_eq_false hdec)]; exact Bool.false_ne_true
      have hnx' : traj tt w0 (i + 1) = (ws, ds) := by
        rw [hnx]; unfold stepC; dsimp only; rw [hrow]; exact if_neg hab
      exact Go.back (Go.nil fun s S => hQ₁ (i + 1) _ s (Nat.lt_succ_self i) ⟨d, some (.int row), c2, ws, ds, hnx', rfl⟩ S)
  · obtain ⟨d, c1, c2, ws, ds, hwd, rfl⟩ := hJ
    have hi' := of_decide_eq_false hi
    have e400 : runC tt w0 = (traj tt w0 i).2 := by
      by_cases h4 : i ≤ 400
      · have := traj_stop (ts := tt) (w0 := w0) (k := i) (Int.ofNat_le.mp (Int.not_lt.mp hi')) (400 - i)
        rw [Nat.add_sub_cancel' h4] at this
        exact congrArg Prod.snd this
      · have := traj_stop (ts := tt) (w0 := w0) (k := 400) (traj_len hw0 400).1 (i - 400)
        rw [Nat.add_sub_cancel' (Nat.le_of_not_le h4)] at this
        exact (congrArg Prod.snd this).symm
    rw [hwd] at e400
    refine g_retN D H₁ (Ex.local (v := .ref d) (.head _) (.tail _ (.head _))) (.tail _ (.head _)) fun s' hn hat k => hQ₀ _ _ ⟨_, rfl, ?_⟩
    exact h d s' (e400 ▸ hat) k
end
end Mine

-- B24
namespace Mine
open PySem PySem.Calls PyProof.Rows PySem.W

noncomputable def isSl (lo hi st : Option Int) (o : Obj) : Prop := o.cls = .type "slice" ∧ ∃ vl vu vk, o.data = .fields #[vl, vu, vk] ∧ IsPart vl lo ∧ IsPart vu hi ∧ IsPart vk st
theorem part_of {v : PySem.Value} {k : Option Int} (h : IsPart v k) : ∃ p : Option (Int × Tok), v = partValue p ∧ p.map (·.1) = k := by
  cases h with
  | none => exact ⟨none, rfl, rfl⟩
  | int i t => exact ⟨some (i, t), rfl, rfl⟩

section
variable {prog : Program} {w : World} {A : Around} {F : Led} {K : Frag} {env : Env}

/- a slice's part -/
noncomputable def Px (prog : Program) (w : World) (K : Frag) (A : Around) (env : Env) (F : Led) (e : Option PySem.Expr) (k : Option Int) : Prop :=
  ∀ (s : Shared) (E : PySem.Value → Shared → Prop) (Q : PySem.Value → Shared → Prop), Gd K s.heap → Has prog w F s.heap → (∀ v s', IsPart v k → Kp s s' → Q v s') → wpAny (model prog w) A (evalPart e env) Q E s
theorem Px.none : Px prog w K A env F none none := fun s E Q _ _ h => wpAny_evalPart_none (h _ s .none (Kp.refl s))
theorem Px.some {e : PySem.Expr} {i : Int} (he : Ex prog w K A env F e (.av (.int i))) : Px prog w K A env F (some e) (some i) := fun s E Q G H h =>
  wpAny_evalPart_some (he s E Q G H fun v s' ⟨t, hv⟩ k => hv ▸ h _ s' (.int i t) k)

theorem Ex.slice {e1 e2 e3 : Option PySem.Expr} {pos : Pos} {lo hi st : Option Int} (h1 : Px prog w K A env F e1 lo) (h2 : Px prog w K A env F e2 hi) (h3 : Px prog w K A env F e3 st) : Ex prog w K A env F (.Slice e1 e2 e3 pos) (.new (.own (isSl lo hi st))) := by
  intro s E Q G H h
  refine wpAny_Slice (h1 s _ _ G H fun v1 s₁ p1 k1 => h2 s₁ _ _ (G.up k1.up) (H.up k1.up) fun v2 s₂ p2 k2 => h3 s₂ _ _ ((G.up k1.up).up k2.up) ((H.up k1.up).up k2.up) fun v3 s₃ p3 k3 => ?_)
  refine h _ _ ⟨_, rfl, ?_⟩ (((k1.tr k2).tr k3).tr (Kp.push s₃ _))
  exact ⟨_, Heap.get?_push_size _ rfl, ⟨rfl, v1, v2, v3, rfl, p1, p2, p3⟩, fun _ _ q => nomatch q⟩

theorem Ex.sliceI {value : PySem.Expr} {e1 e2 e3 : Option PySem.Expr} {p pos : Pos} {c : Addr} {ns : List Int} {lo hi st : Option Int} (hv : Ex prog w K A env F value (.av (.ref c))) (hm : (c, Ent.lI ns) ∈ F) (hs : Ex prog w K A env F (.Slice e1 e2 e3 p) (.new (.own (isSl lo hi st)))) (h0 : st ≠ some 0) (hz : ns.length ≤ 100000) :
    Ex prog w K A env F (.Subscript value (.Slice e1 e2 e3 p) pos) (.new (.lI (pickNums ns lo hi st))) :=
  Ex.sub hv hs fun v u s E Q hv hu G H h => by
    cases hv
    obtain ⟨a, rfl, o, ho, ⟨hc, vl, vu, vk, hd, p1, p2, p3⟩, _⟩ := hu
    obtain ⟨vs, pl, hi⟩ := H _ hm
    have hops : ∃ ops, subscripted (.Slice e1 e2 e3 p) false (.ref c) (.ref a) = operate ops (getItem (.ref c) (.ref a)) := by
      cases e3 with
      | none => exact ⟨_, rfl⟩
      | some e => exact ⟨_, rfl⟩
    obtain ⟨ops, hops⟩ := hops
    refine tail_any pl.isList.typeIs list_getitem_lookup (wpAny_getItem_list_slice pl.isList ⟨o, ho, hc, hd⟩ p1 p2 p3 h0 ?_ (by rw [List.size_toArray, hi.length, sizeLine_eq]; omega)) hops
    refine h _ _ ⟨_, rfl, (slicePick vs.toArray lo _ st).toList, ⟨0, Heap.get?_push_size _ rfl⟩, hi.pick lo _ st⟩ (Kp.push s _)

theorem Ex.sliceS {value : PySem.Expr} {e1 e2 : Option PySem.Expr} {p pos : Pos} {x : Str} {lo hi : Option Int} (hv : Ex prog w K A env F value (.av (.str x))) (hs : Ex prog w K A env F (.Slice e1 e2 none p) (.new (.own (isSl lo hi none)))) (hz : x.length ≤ 1000) :
    Ex prog w K A env F (.Subscript value (.Slice e1 e2 none p) pos) (.av (.str (PySem.Txt.slice x lo hi))) :=
  Ex.sub hv hs fun v u s E Q ⟨t, hv⟩ hu G H h => by
    subst hv
    obtain ⟨a, rfl, o, ho, ⟨hc, vl, vu, vk, hd, p1, p2, p3⟩, _⟩ := hu
    obtain ⟨l, rfl, rfl⟩ := part_of p1
    obtain ⟨u, rfl, rfl⟩ := part_of p2
    cases p3
    refine tail_any (typeIs_str s x t) slot_str_getitem.lookup (wpAny_getItem_str_slice (l := l) (u := u) (st := none) ⟨o, ho, hc, hd⟩ rfl (post_val_or_str ⟨Nat.le_trans (Txt.slice_le x _ _) (by rw [sizeLine_eq]; omega), fun t' k => ?_⟩)) rfl
    exact h _ _ ⟨t', rfl⟩ (Kp.tok s k)

theorem fx_sum (hh : A.handled = none) {ns : List Int} : Fx prog w K A F (.builtin "sum") [.new (.lI ns)] (.av (.int ns.sum)) := by
  intro vs s E Q G H ha h
  obtain ⟨v, rfl, c, hv, vs, pl, hi⟩ := ha.one
  focus
    subst hv
    obtain ⟨xs, hx⟩ := hi.allInts.items
    have hn := hi.numsOf
    refine sum_intListG hh (xs := xs) (hx ▸ pl.isList) fun h' tk t' hk => ?_
    have e : preSum (numAt xs) xs.size = ns.sum := by
      rw [preSum_eq, List.take_of_length_le (by simp), ← hn, show vs = vs.toArray.toList from rfl, hx, nums_intItems]
    rw [e]
    exact h _ _ ⟨t', rfl⟩ ⟨h', tk, rfl, hk⟩

theorem fx_ord {c : Nat} : Fx prog w K A F (.builtin "ord") [.av (.str ⟨#[c]⟩)] (.av (.int c)) := by
  intro vs s E Q G H ha h
  obtain ⟨v, rfl, t, hv⟩ := ha.one
  focus
    subst hv
    exact P.ord_of_char (h _ _ ⟨_, rfl⟩ (Kp.tok s _))

theorem fx_join {x : Str} {ys : List Str} (hok : (ys.map (·.length)).sum + ys.length * x.length ≤ 16777216) : Fx prog w K A F (.builtin "str.join") [.av (.str x), .new (.lS ys)] (.av (.str (PySem.Txt.join x ys))) := by
  intro vs s E Q G H ha h
  obtain ⟨v, u, rfl, ⟨t, hv⟩, c, hu, vs, pl, hi⟩ := ha.two
  focus
    subst hv; subst hu
    exact join_list pl.isList (by simpa using hi) hok fun t' k => h _ _ ⟨t', rfl⟩ (Kp.tok s k)

/- a list's numbers in their order -/
noncomputable def srt (ns : List Int) : List Int := ns.mergeSort
theorem srt_of {ns ns' : List Int} (hp : ns'.Perm ns) (ho : ns'.Pairwise (· ≤ ·)) : ns' = srt ns := by
  refine List.Perm.eq_of_pairwise (le := (· ≤ ·)) (fun a b _ _ h1 h2 => Int.le_antisymm h1 h2) ho ?_ (hp.trans (List.mergeSort_perm ns _).symm)
  have := List.pairwise_mergeSort (le := fun a b : Int => decide (a ≤ b)) (fun a b c h1 h2 => decide_eq_true (Int.le_trans (of_decide_eq_true h1) (of_decide_eq_true h2))) (fun a b => by rw [Bool.or_eq_true]; exact (Int.le_total a b).imp decide_eq_true decide_eq_true) ns
  exact this.imp (fun h => by simpa using h)
theorem fx_sorted {ns : List Int} (h64 : ns.length < 64) : Fx prog w K A F (.builtin "sorted") [.new (.lI ns)] (.new (.lI (srt ns))) := by
  intro vs s E Q G H ha h
  obtain ⟨v, rfl, c, hv, vs, pl, hi⟩ := ha.one
  focus
    subst hv
    refine sorted_ints pl.isList hi (by rw [hi.length]; exact h64) fun out ns' a1 a2 a3 => ?_
    obtain ⟨e, he⟩ := sortedAll_at s.heap vs out
    exact h _ _ ⟨_, rfl, out.toList, ⟨e, he⟩, srt_of a2 a3 ▸ a1⟩ ⟨_, s.toks, rfl, fun _ _ => sortedAll_old⟩
end
end Mine

-- B25
namespace Mine
open PySem PySem.Calls PyProof.Rows PySem.W

theorem va_cons {K : Type} [DecidableEq K] {a : K × PySem.Value} {r : List (K × PySem.Value)} {k : K} : valueAt (a :: r) k = if a.1 = k then some a.2 else valueAt r k := by
  show Option.map _ (match decide (a.1 = k) with | true => some a | false => r.find? _) = _
  by_cases h : a.1 = k
  · rw [decide_eq_true h, if_pos h]; rfl
  · rw [decide_eq_false h, if_neg h]; rfl
theorem va_rest {K : Type} [DecidableEq K] {k k' : K} {v : PySem.Value} (h : ¬ k' = k) (r : List (K × PySem.Value)) : valueAt (r.map fun kv => if kv.1 = k then (kv.1, v) else kv) k' = valueAt r k' := by
  induction r with
  | nil => rfl
  | cons a r ih =>
    rw [List.map_cons, va_cons, va_cons, ih]
    by_cases hk : a.1 = k
    · rw [if_pos hk, if_neg fun q => h (q.symm.trans hk), if_neg fun q => h (q.symm.trans hk)]
    · rw [if_neg hk]
theorem valueAt_map {K : Type} [DecidableEq K] (k k' : K) (v : PySem.Value) (kvs : List (K × PySem.Value)) (h : kvs.any (fun kv => kv.1 = k) = true) : valueAt (kvs.map fun kv => if kv.1 = k then (kv.1, v) else kv) k' = if k' = k then some v else valueAt kvs k' := by
  induction kvs with
  | nil => cases h
  | cons a r ih =>
    rw [List.map_cons, va_cons, va_cons]
    by_cases hk : a.1 = k
    · rw [if_pos hk]
      by_cases ha : k' = k
      · rw [if_pos ha, if_pos (hk.trans ha.symm)]
      · rw [if_neg ha, if_neg fun q => ha (q.symm.trans hk), if_neg fun q => ha (q.symm.trans hk)]
        exact va_rest ha r
    · rw [if_neg hk]
      have hr : r.any (fun kv => kv.1 = k) = true := by
        rw [List.any_cons, decide_eq_false hk] at h; exact h
      by_cases ha : a.1 = k'
      · rw [if_pos ha, if_pos ha, if_neg fun q => hk (ha.trans q)]
      · rw [if_neg ha, if_neg ha]; exact ih hr
theorem valueAt_stored {K : Type} [DecidableEq K] (kvs : List (K × PySem.Value)) (k k' : K) (v : PySem.Value) : valueAt (stored kvs k v) k' = if k' = k then some v else valueAt kvs k' := by
  unfold stored
  by_cases h : kvs.any (fun kv => kv.1 = k) = true
  · rw [if_pos h, valueAt_map _ _ _ _ h]
  · rw [if_neg h]
    induction kvs with
    | nil =>
      rw [List.nil_append, va_cons]
      by_cases ha : k' = k
      · rw [if_pos ha, if_pos ha.symm]
      · rw [if_neg ha, if_neg fun q => ha q.symm]
    | cons a r ih =>
      rw [List.cons_append, va_cons, va_cons]
      have hk : ¬ a.1 = k := fun q => h (by rw [List.any_cons, decide_eq_true q]; rfl)
      by_cases ha : a.1 = k'
      · rw [if_pos ha, if_pos ha, if_neg fun q => hk (ha.trans q)]
      · rw [if_neg ha, if_neg ha]
        exact ih fun q => h (by rw [List.any_cons, q, Bool.or_true])

section
variable {prog : Program} {w : World} {A : Around} {F : Led} {K : Frag} {env : Env}

noncomputable def isD (prog : Program) (w : World) (kvs : List (Str × PySem.Value)) (o : Obj) : Prop := o.IsDictOf (strKind prog w) kvs
theorem own_D {h : Heap} {D : Addr} {kvs : List (Str × PySem.Value)} : (Ent.own (isD prog w kvs)).At prog w h D ↔ h.DictOf (strKind prog w) D kvs := by
  constructor
  · rintro ⟨o, ho, a, _⟩; exact Heap.dictOf_iff.mpr ⟨o, ho, a⟩
  · intro x
    obtain ⟨o, ho, a⟩ := Heap.dictOf_iff.mp x
    refine ⟨o, ho, a, fun its n q => ?_⟩
    obtain ⟨es, ep, _, b, _⟩ := a
    rw [b] at q; cases q

/- {k: v for x in iter}, each v a new list -/
theorem Xn.dict {kx vx iter : PySem.Expr} {x : Str} {px pos : Pos} {scope : Scope} {cl : List (Str × Addr)} {keys : List Str} {val : Str → List Str} (hh : A.handled = none) (hix : Ix prog w K A env F iter (keys.map .str))
    (hk : ∀ k ∈ keys, ∀ C, Ex prog w K A (compEnvC scope cl C env) ((C, .nm [(x, .str k)]) :: F) kx (.av (.str k))) (hv : ∀ k ∈ keys, ∀ C, Xn prog w K A (compEnvC scope cl C env) ((C, .nm [(x, .str k)]) :: F) vx (.lS (val k))) (hz : keys.length ≤ 1000)
    (hclos : closureFor scope env = pure cl := by rfl) (hcell : ∀ y ∈ scope.names, y.2 ≠ .cell := by decide) (hkind : scope.kind = .function := by rfl)
    (hnames : ∀ y ∈ scope.names, y.2 = .local → scope.names.lookup y.1 = some .local := by decide) (hx : scope.names.lookup x = some .local := by rfl) (hs : ∀ x, foldedSetIterable iter env x = pure x := by intro _; rfl) :
    Xn prog w K A env F (.DictComp kx vx [⟨.Name x px, iter, [], 0⟩] scope pos) (.dL fun k => if k ∈ keys then some (val k) else none) := by
  intro s E Q G₀ H₀ q
  rw [arm_eval_DictComp]
  refine wpAny_comprehension_free (use := none) rfl hs hclos hkind hnames ?_
  refine hix s E _ G₀ H₀ fun s₁ I e F' s₂ k HF It S => ?_
  have G := G₀.up k.up
  have H := H₀.up k.up
  refine wpAny_newObj_type ?_
  have S₁ := S.add (e := .own (isD prog w [])) (Kp.push s₂ { cls := .type "dict", data := .dict #[] }) (Heap.get?_none_of_le (Nat.le_refl _)) (own_D.mpr (Heap.DictOf.new s₂.heap))
  refine wpAny_newFunctionEnv hcell (by intro y hy; simp at hy) (fun h₁ hns₁ hsb₁ => ?_) hkind
  have S₂ := S₁.add (e := .nm []) (s' := { s₂ with heap := h₁, toks := s₂.toks + ([] : List (Str × PySem.Value)).length }) ⟨⟨h₁, _, rfl, fun b o q => hsb₁.extBut b o (Nat.ne_of_lt (Heap.lt_size q)) (Heap.get?_push_of_some _ q)⟩⟩ (Heap.get?_none_of_le (Nat.le_refl _)) ⟨_, hns₁, fun _ h => nomatch h⟩
  have fin : ∀ C D m kvs lists s', (∀ k ∈ keys, ∃ l, valueAt kvs k = some (.ref l) ∧ (l, Ent.lS (val k)) ∈ lists) → St prog w s₁ ((C, .nm m) :: (D, .own (isD prog w kvs)) :: lists) s' → compPost (model prog w) A E none Q (.ref D) C (.ok .next) s' := by
    intro C D m kvs lists s' hl S'
    obtain ⟨mf, hn, _⟩ := S'.has (C, .nm m) List.mem_cons_self
    refine ⟨mf, hn, fun h' hs' => ?_⟩
    have S'' := S'.gone (tk := s'.toks) hs'.extBut (ns_noTup hn) (ns_noList hn)
    refine q D _ ?_ ⟨_, (own_D.mp (S''.has _ List.mem_cons_self)).mapOf, fun k ys hk => ?_⟩ (k.tr S''.kp)
    · cases z : s.heap.get? D with
      | none => rfl
      | some o => have := k.up _ _ z; rw [S''.fresh _ List.mem_cons_self] at this; cases this
    · dsimp only at hk
      split at hk
      · rename_i hkm
        cases hk
        obtain ⟨l, hv, hm⟩ := hl k hkm
        exact ⟨l, hv, S''.has _ (List.mem_cons_of_mem _ hm)⟩
      · cases hk
  have loop : ∀ s₃ : Shared, ∀ C D, (∃ m, St prog w s₁ [(C, .nm m), (D, .own (isD prog w [])), (I, .own (e 0))] s₃) → codeAny (model prog w) A (.compLoop (.DictComp kx vx [⟨.Name x px, iter, [], 0⟩] scope pos) 0 (.ref I) (.ref D) (compEnvC scope cl C env)) (compPost (model prog w) A E none Q (.ref D) C) s₃ := by
    rintro s₃ C D ⟨m, S₃⟩
    refine codeAny_compLoop_testsD (fun n s => ∃ i m kvs lists, n = keys.length - i ∧ i ≤ keys.length ∧ kvs.length ≤ i ∧ (∀ k ∈ keys.take i, ∃ l, valueAt kvs k = some (.ref l) ∧ (l, Ent.lS (val k)) ∈ lists) ∧
      St prog w s₁ ((C, .nm m) :: (D, .own (isD prog w kvs)) :: (I, .own (e i)) :: lists) s) ?_ keys.length ⟨0, m, [], [], rfl, Nat.zero_le _, Nat.le_refl _, fun _ h => (by simp at h), S₃⟩
    rintro n s₄ ⟨i, m, kvs, lists, rfl, hi, hkl, hl, S₄⟩
    rw [List.length_map] at It
    have S₄' := S₄.perm (G' := (I, .own (e i)) :: (C, .nm m) :: (D, .own (isD prog w kvs)) :: lists) (List.perm_middle (l₁ := [(C, Ent.nm m), (D, Ent.own (isD prog w kvs))])).symm
    by_cases hlt : i < keys.length
    · refine It.item A i s₁ _ s₄ _ _ hh hlt S₄' (HF.up S₄.kp.up) fun v s₅ hv' S₅ => ?_
      have ek : ((keys.map AV.str)[i]?.getD .none) = .str keys[i] := by simp [hlt]
      rw [ek] at hv'
      have S₆ := S₅.perm (G' := (C, .nm m) :: (I, .own (e (i + 1))) :: (D, .own (isD prog w kvs)) :: lists) (List.Perm.swap ..)
      refine wpAny_assign_Name (S₆.store hv' (fun s₇ S₇ => ?_) rfl (cenv_local hx) (cenv_plain hkind))
      refine wpAny_tests_nil (ite_so rfl ?_)
      have hkm : keys[i] ∈ keys := List.getElem_mem hlt
      have hsub : Sub [(x, AV.str keys[i])] (setAl x (.str keys[i]) m) := Sub.cons mN Sub.nil
      refine hk _ hkm C s₇ _ _ (S₇.gd G) (Has.sub hsub (Has.cons (S₇.has _ List.mem_cons_self) (H.up S₇.kp.up))) fun kv s₈ hkv k₈ => ?_
      obtain ⟨t, rfl⟩ := hkv
      have S₈ := S₇.keep k₈
      refine hv _ hkm C s₈ _ _ (S₈.gd G) (Has.sub hsub (Has.cons (S₈.has _ List.mem_cons_self) (H.up S₈.kp.up))) fun a s₉ hn hat k₉ => ?_
      have S₉ := S₈.add k₉ hn hat
      have S₁₀ := S₉.perm (G' := (D, .own (isD prog w kvs)) :: (C, .nm (setAl x (.str keys[i]) m)) :: (I, .own (e (i + 1))) :: (a, .lS (val keys[i])) :: lists)
        (by
          refine List.Perm.trans ?_ (List.Perm.trans (List.perm_middle (l₁ := [(C, Ent.nm (setAl x (.str keys[i]) m)), (I, Ent.own (e (i + 1))), (D, Ent.own (isD prog w kvs))])) (List.Perm.refl _))
          exact (List.perm_middle (l₁ := [(C, Ent.nm (setAl x (.str keys[i]) m)), (I, Ent.own (e (i + 1)))])).symm)
      have oD := S₁₀.has _ List.mem_cons_self
      refine wpAny_dictSet_pairs (strKind_is prog w _ t) (own_D.mp oD) (fun h' hd' hs' => ?_) (ok_size (Nat.le_trans hkl (Nat.le_trans hi hz)))
      have S₁₁ := S₁₀.soft (e' := .own (isD prog w (stored kvs keys[i] (.ref a)))) (tk := s₉.toks + 1) hs' (own_D.mpr hd') (own_noTup oD) (own_noList oD)
      refine ⟨keys.length - (i + 1), Nat.sub_lt_sub_left hlt (Nat.lt_succ_self i), i + 1, _, stored kvs keys[i] (.ref a), (a, .lS (val keys[i])) :: lists, rfl, hlt, Nat.le_trans (stored_length_le kvs keys[i] (.ref a)) (Nat.succ_le_succ hkl), fun k' hk' => ?_, S₁₁.perm (List.Perm.swap ..)⟩
      rw [List.take_add_one, List.getElem?_eq_getElem hlt, List.mem_append] at hk'
      rw [valueAt_stored]
      by_cases hkk : k' = keys[i]
      · rw [if_pos hkk]; exact ⟨a, rfl, by rw [hkk]; exact List.mem_cons_self⟩
      · rw [if_neg hkk]
        rcases hk' with hk' | hk'
        · obtain ⟨l, a1, a2⟩ := hl k' hk'
          exact ⟨l, a1, List.mem_cons_of_mem _ a2⟩
        · exact absurd (by simpa using hk') hkk
    · obtain rfl : i = keys.length := Nat.le_antisymm hi (Nat.le_of_not_lt hlt)
      refine It.done A s₁ _ s₄ _ _ hh S₄' (HF.up S₄.kp.up) fun s₅ S₅ => ?_
      rw [List.take_length] at hl
      exact fin C D m kvs lists s₅ hl S₅
  refine codeAny_compStart_dict (loop _ _ _ ⟨_, S₂⟩) (It.self A 0 _ _ _ (S₂.has (I, .own (e 0)) (.tail _ (.tail _ (.head _)))) (loop _ _ _ ⟨_, S₂⟩))
end
end Mine

-- B26
namespace Mine
open PySem PySem.Calls PyProof.Rows PySem.W

theorem lay_strs {ys : List Str} (h : ∀ y ∈ ys, PyData.strOk y = true) : PyData.canLayAll0 (ys.map .str) = true ∧ PyData.depthAll (ys.map .str) = 0 := by
  induction ys with
  | nil => exact ⟨rfl, rfl⟩
  | cons y r ih =>
    have := ih fun z hz => h z (List.mem_cons_of_mem _ hz)
    simp only [List.map_cons, PyData.canLayAll0, PyData.canLay0, PyData.depthAll, PyData.depth, this.1, this.2, h y List.mem_cons_self]
    exact ⟨rfl, rfl⟩
theorem shaped_strs {ys : List Str} (h : ∀ y ∈ ys, PyData.strOk y = true) : SeqAt.shaped (.list (ys.map .str)) = true := by
  have := lay_strs h
  simp [SeqAt.shaped, PyData.canLay0, PyData.depth, this.1, this.2]

section
variable {prog : Program} {w : World} {A : Around} {F : Led} {K : Frag} {env : Env} {l r : PySem.Expr} {pos : Pos}
theorem same_nil (ys : List Str) : Spec.same (.list (ys.map .str)) (.list []) = decide (ys = []) := by
  cases ys <;> simp [Spec.same, Spec.sameAll]
theorem noMix_nil (ys : List Str) : SeqAt.noMix (.list (ys.map .str)) (.list []) = true := by
  cases ys <;> simp [SeqAt.noMix, SeqAt.noMixAll]
theorem Tx.eqSN {ys : List Str} (hu : A.units + 64 < cLine) (hl : Ex prog w K A env F l (.new (.lS ys))) (hr : Ex prog w K A env F r (.new (.lS []))) (hok : ∀ y ∈ ys, PyData.strOk y = true) (hm : behindInMarks .Eq r = false := by rfl) : Tx prog w K A env F (.Compare l [.Eq] [r] pos) (decide (ys = [])) :=
  Tx.cmp hl hr (fun v u s E Q h1 h2 _ H h => by
    obtain ⟨c, rfl, vs, ⟨n, p⟩, i⟩ := h1
    obtain ⟨c', rfl, vs', ⟨n', p'⟩, i'⟩ := h2
    cases i'
    refine eq_dataH_same (Reads.list p rfl rfl (by simpa using readsAll_of_strs i)) (Reads.list p' rfl rfl (by simpa using ReadsAll.nil)) (shaped_strs hok) rfl hu (noMix_nil ys) ?_
    rw [same_nil]
    exact h s (Kp.refl s)) hm
theorem Tx.neSN {ys : List Str} (hu : A.units + 64 < cLine) (hl : Ex prog w K A env F l (.new (.lS ys))) (hr : Ex prog w K A env F r (.new (.lS []))) (hok : ∀ y ∈ ys, PyData.strOk y = true) (hm : behindInMarks .NotEq r = false := by rfl) : Tx prog w K A env F (.Compare l [.NotEq] [r] pos) (!decide (ys = [])) :=
  Tx.cmp hl hr (fun v u s E Q h1 h2 _ H h => by
    obtain ⟨c, rfl, vs, ⟨n, p⟩, i⟩ := h1
    obtain ⟨c', rfl, vs', ⟨n', p'⟩, i'⟩ := h2
    cases i'
    refine ne_dataH_same (Reads.list p rfl rfl (by simpa using readsAll_of_strs i)) (Reads.list p' rfl rfl (by simpa using ReadsAll.nil)) (shaped_strs hok) rfl hu (noMix_nil ys) ?_
    rw [same_nil]
    exact h s (Kp.refl s)) hm

/- the frame of a comprehension that has one cell of its own -/
theorem env_own {scope : Scope} {g : Addr} {q x : Str} {cl : List (Str × Addr)} {env : Env} {s : Shared} {E : PySem.Value → Shared → Prop} {Q : Env → Shared → Prop} (hcf : ∀ n, cellsFrom n scope.names cl = (x, n) :: cl) (hpc : ∀ h : Heap, pushCells h scope.names = h.push { cls := .type "cell", data := .cell none })
    (h : Q { scope := scope, locals := s.heap.objs.size, globals := g, cells := (x, (s.heap.push { cls := .type "dict", data := .dict #[] }).objs.size) :: cl, qual := q, func := none, code := env.code, frame := env.frame, builtins := env.builtins } { s with heap := (s.heap.push { cls := .type "dict", data := .dict #[] }).push { cls := .type "cell", data := .cell none } }) :
    wpAny (model prog w) A (newFunctionEnv scope g cl [] q none .none (some env)) Q E s := by
  unfold newFunctionEnv
  refine wpAny_bind (wpAny_alloc ?_)
  refine wpAny_bind (wpAny_layCells _ (fun name kind cells => by cases hkc : kind == NameKind.cell <;> simp [hkc]) _ _ _ _ ?_)
  rw [hcf, hpc]
  dsimp only
  rw [List.forIn_nil]
  exact wpAny_bind (wpAny_pure (wpAny_pure h))
/- [elt for x in iter if test], x a cell of the comprehension's own -/
theorem Xn.compC {env : Env} {elt iter : PySem.Expr} {x : Str} {px pos : Pos} {ifs : List PySem.Expr} {scope : Scope} {cl : List (Str × Addr)} {its : List AV} {p : AV → Bool} {f : AV → AV} (hh : A.handled = none) (hix : Ix prog w K A env F iter its)
    (hit : ∀ v ∈ its, ∀ C c, Ts prog w K A (compEnvC scope ((x, c) :: cl) C env) ((c, .ce (some v)) :: F) ifs (p v) ∧ (p v = true → Ex prog w K A (compEnvC scope ((x, c) :: cl) C env) ((c, .ce (some v)) :: F) elt (.av (f v)))) (hz : its.length ≤ 1000)
    (hclos : closureFor scope env = pure cl) (hcf : ∀ n, cellsFrom n scope.names cl = (x, n) :: cl) (hpc : ∀ h : Heap, pushCells h scope.names = h.push { cls := .type "cell", data := .cell none }) (hkind : scope.kind = .function) (hx : ∀ C c, (compEnvC scope ((x, c) :: cl) C env).kindOf x = some .cell)
    (hnames : ∀ y ∈ scope.names, y.2 = .local → scope.names.lookup y.1 = some .local := by decide) (hs : ∀ x, foldedSetIterable iter env x = pure x := by intro _; rfl) :
    Xn prog w K A env F (.ListComp elt [⟨.Name x px, iter, ifs, 0⟩] scope pos) (.lA ((its.filter p).map f)) := by
  intro s E Q G₀ H₀ q
  rw [eval_ListComp]
  refine wpAny_comprehension_free (use := none) rfl hs hclos hkind hnames ?_
  refine hix s E _ G₀ H₀ fun s₁ I e F' s₂ k HF It S => ?_
  have G := G₀.up k.up
  have H := H₀.up k.up
  refine wpAny_newObj_type ?_
  have S₁ := S.add (e := .lA []) (Kp.push s₂ { cls := .type "list", data := .seq ([] : List PySem.Value).toArray }) (Heap.get?_none_of_le (Nat.le_refl _)) ⟨[], ⟨0, Heap.get?_push_size _ rfl⟩, .nil⟩
  refine env_own hcf hpc ?_
  have S₂ := S₁.add (e := .nm []) (Kp.push _ { cls := .type "dict", data := .dict #[] }) (Heap.get?_none_of_le (Nat.le_refl _)) ⟨_, Heap.Ns.new _ _, fun _ h => nomatch h⟩
  have S₃ := S₂.add (e := .ce none) (Kp.push _ { cls := .type "cell", data := .cell none }) (Heap.get?_none_of_le (Nat.le_refl _)) ⟨none, ⟨_, Heap.get?_push_size _ rfl, rfl⟩, trivial⟩
  refine comp_start rfl (fun Q E hQ => It.self A 0 _ Q E (S₃.has (I, .own (e 0)) (.tail _ (.tail _ (.tail _ (.head _))))) hQ) ?_
  have main : ∀ (C c D : Addr) (s' : Shared), St prog w s₁ [(c, .ce none), (C, .nm []), (D, .lA []), (I, .own (e 0))] s' →
      codeAny (model prog w) A (.compLoop (.ListComp elt [⟨.Name x px, iter, ifs, 0⟩] scope pos) 0 (.ref I) (.ref D) (compEnvC scope ((x, c) :: cl) C env)) (compPost (model prog w) A E none Q (.ref D) C) s' := by
    intro C c D s' S₄
    refine comp_gen (Z := Option AV) (fun i vo => [(c, .ce vo), (C, .nm []), (D, .lA (((its.take i).filter p).map f))]) (fun _ _ => True) rfl hh It HF (fun i vo s' v E' hi _ hv S' => ?_) (fun vo s' _ S' => ?_) its.length 0 none _ rfl trivial (S₄.perm (List.perm_middle (l₁ := [(c, Ent.ce none), (C, Ent.nm []), (D, Ent.lA [])])).symm)
    · have S₆ := S'.perm (List.Perm.swap ..)
      refine wpAny_of_eq (a := ()) rfl ?_
      refine wpAny_assign_Name (S₆.storeC (L := 0) hv (fun s₇ S₇ => ?_) hkind (hx C c) (List.lookup_cons_self))
      obtain ⟨hT, hE⟩ := hit _ (get_mem hi) C c
      have up : ∀ {s'}, St prog w s₁ ((c, .ce (some (its[i]?.getD .none))) :: (I, .own (e (i + 1))) :: (C, .nm []) :: (D, .lA (((its.take i).filter p).map f)) :: []) s' → Has prog w ((c, .ce (some (its[i]?.getD .none))) :: F) s'.heap := fun S' => Has.cons (S'.has _ List.mem_cons_self) (H.up S'.kp.up)
      refine hT s₇ _ _ (S₇.gd G) (up S₇) fun s₈ k₈ => ?_
      have S₈ := S₇.keep k₈
      have e1 := fm_succ (p := p) (f := f) (get_some hi)
      cases hb : p (its[i]?.getD .none) with
      | false =>
        rw [hb] at e1
        refine ite_not Bool.false_ne_true ⟨some (its[i]?.getD .none), trivial, ?_⟩
        rw [e1, if_neg Bool.false_ne_true, List.append_nil]
        exact S₈.perm (List.Perm.swap ..)
      | true =>
        rw [hb] at e1
        refine ite_so rfl (nextGen_leaf rfl (hE hb s₈ _ _ (S₈.gd G) (up S₈) fun v s₉ hv k₉ => ?_))
        have S₉ := (S₈.keep k₉).perm (List.perm_middle (l₁ := [(c, Ent.ce (some (its[i]?.getD .none))), (I, Ent.own (e (i + 1))), (C, Ent.nm [])])).symm
        obtain ⟨vs, pl, pa⟩ := S₉.has _ List.mem_cons_self
        refine wpAny_list_append_plain pl (fun h' pl' hs => ?_) (by rw [List.size_toArray, ← pa.length]; exact ok_size (fm_len hz))
        have S₁₀ := S₉.list (e' := .lA (((its.take i).filter p).map f ++ [f (its[i]?.getD .none)])) (tk := s₉.toks) pl hs ⟨vs ++ [v], by simpa using pl', lA_snoc pa hv⟩ (nd_cons rfl (nd_cons rfl (nd_cons rfl nd_nil)))
        refine ⟨some (its[i]?.getD .none), trivial, ?_⟩
        rw [e1, if_pos rfl]
        exact (S₁₀.perm (List.perm_middle (l₁ := [(c, Ent.ce (some (its[i]?.getD .none))), (I, Ent.own (e (i + 1))), (C, Ent.nm [])]))).perm (List.Perm.swap ..)
    · rw [List.take_length] at S'
      have S₆ := S'.perm (List.Perm.swap ..)
      obtain ⟨mf, hn, _⟩ := S₆.has _ List.mem_cons_self
      refine ⟨mf, hn, fun h' hs' => ?_⟩
      have S₇ := S₆.gone (tk := s'.toks) hs'.extBut (ns_noTup hn) (ns_noList hn)
      refine q D _ ?_ (S₇.has (D, .lA ((its.filter p).map f)) (.tail _ (.head _))) (k.tr S₇.kp)
      cases z : s.heap.get? D with
      | none => rfl
      | some o => have := k.up _ _ z; rw [S₇.fresh (D, .lA ((its.filter p).map f)) (.tail _ (.head _))] at this; cases this
  exact main _ _ _ _ (S₃.perm (List.Perm.refl _))
end
end Mine

-- B27
namespace Mine
open PySem PySem.Calls PyProof.Rows PySem.W

section
variable {prog : Program} {w : World} {A : Around} {F : Led} {K : Frag} {env : Env} {E : PySem.Value → Shared → Prop} {s s₀ : Shared} {G : Led}

/- for x in iter, x a cell -/
theorem for_cell {x : Str} {px : Pos} {iter : PySem.Expr} {body rest : List Stmt} {pos : Pos} {Q : Flow → Shared → Prop} {c : Addr} {vo : Option AV} {its : List AV} {F' : Led} (J : Nat → Led → Prop) (hh : A.handled = none) (D : Gd K s₀.heap) (H : Has prog w F s₀.heap)
    (S : St prog w s₀ ((c, .ce vo) :: G) s) (hJ0 : J 0 G)
    (hix : ∀ (E' : PySem.Value → Shared → Prop) (Q' : PySem.Value → Shared → Prop), (∀ s₁ I f s', Kp s s₁ → Itr prog w F' I its.length f (fun i => its[i]?.getD .none) → St prog w s₁ [(I, .own (f 0))] s' → Q' (.ref I) s') → wpAny (model prog w) A (eval iter env) (fun x s₁ => wpAny (model prog w) A (pyIter x) Q' E' s₁) E' s)
    (hF : ∀ i G', J i G' → ∀ p ∈ F', p ∈ G')
    (step : ∀ i G' p s' E', i < its.length → J i G' → p.2.isDol = false → St prog w s₀ ((c, .ce (some (its[i]?.getD .none))) :: p :: G') s' →
      wpAny (model prog w) A (execs body env) (fun f s₃ => f = .next ∧ ∃ vo G'', J (i + 1) G'' ∧ St prog w s₀ ((c, .ce vo) :: p :: G'') s₃) E' s')
    (h : ∀ vo G' s', J its.length G' → St prog w s₀ ((c, .ce vo) :: G') s' → wpAny (model prog w) A (execs rest env) Q E s')
    (hs : ∀ x, foldedSetIterable iter env x = pure x := by intro _; rfl) (hk : env.scope.kind = .function := by rfl) (hl : env.kindOf x = some .cell := by rfl) (hc : env.cells.lookup x = some c := by rfl) :
    wpAny (model prog w) A (execs (.For (.Name x px) iter body [] pos :: rest) env) Q E s := by
  refine for_gen (Z := Option AV) (fun vo => (c, .ce vo)) (fun _ => True) (fun i z => z = some (its[i]?.getD .none)) J hh D H S trivial hJ0 hix hF (fun I f i hi It G' z s v E Q hv _ hS hQ => ?_)
    (fun i z G' p s' E' hi _ hB hJ hp hS => wpAny_mono (step i G' p s' E' hi hJ hp (hB ▸ hS)) (fun fl s₃ x => ⟨x.1, x.2.elim fun vo x => ⟨vo, x.elim fun G₃ x => ⟨G₃, trivial, x⟩⟩⟩) fun _ _ e => e) (fun vo G' s' _ hJ hS => h vo G' s' hJ hS) hs
  refine wpAny_of_eq (a := ()) rfl ?_
  exact wpAny_assign_Name (hS.storeC (L := 0) hv (fun s₇ S₇ => hQ _ s₇ trivial rfl S₇) hk hl hc)

/- y = [elt for x in iter] on a line of its own, each elt a new object -/
theorem as_compN {elt iter : PySem.Expr} {x : Str} {px : Pos} {scope : Scope} {pos spos py : Pos} {y : Str} {cl : List (Str × Addr)} {its : List AV} {ent : AV → Ent} {L : Addr} {mm : List (Str × AV)} {rest : List Stmt} {Q : Flow → Shared → Prop} (hh : A.handled = none)
    (S : St prog w s₀ ((L, .nm mm) :: G) s) (D : Gd K s₀.heap) (H : Has prog w F s₀.heap) (hix : Ix prog w K A env (((L, .nm mm) :: G) ++ F) iter its)
    (hit : ∀ v ∈ its, ∀ C, Xn prog w K A (compEnvC scope cl C env) ((C, .nm [(x, v)]) :: (((L, .nm mm) :: G) ++ F)) elt (ent v)) (hent : ∀ v, (ent v).isDol = false) (hz : its.length ≤ 1000)
    (h : ∀ a (ts : List (Addr × AV)) X s', ts.map (·.2) = its → (∀ t ∈ ts, (t.1, ent t.2) ∈ X) → (∀ p ∈ X, p.2.isDol = false) → St prog w s₀ ((L, .nm (setAl y (.ref a) mm)) :: (a, .lA (ts.map fun t => .ref t.1)) :: (X ++ G)) s' → wpAny (model prog w) A (execs rest env) Q E s')
    (hsw : swapsWith (.ListComp elt [⟨.Name x px, iter, [], 0⟩] scope pos) (some (.Name y py)) spos.line env = pure true := by rfl) (hclos : closureFor scope env = pure cl := by rfl) (hcell : ∀ y ∈ scope.names, y.2 ≠ .cell := by decide) (hkind : scope.kind = .function := by rfl)
    (hnames : ∀ y ∈ scope.names, y.2 = .local → scope.names.lookup y.1 = some .local := by decide) (hx : scope.names.lookup x = some .local := by rfl) (hs : ∀ x, foldedSetIterable iter env x = pure x := by intro _; rfl)
    (hL : env.locals = L := by rfl) (hl : env.kindOf y = some .local := by rfl) (hp : (env.scope.kind == .class || (env.scope.kind == .module && env.locals != env.globals)) = false := by rfl) :
    wpAny (model prog w) A (execs (.Assign [.Name y py] (.ListComp elt [⟨.Name x px, iter, [], 0⟩] scope pos) spos :: rest) env) Q E s := by
  refine wpAny_execs_cons ?_
  rw [exec_Assign_Name_used _ _ _ _ hsw]
  refine wpAny_bind (wpAny_standAt (wpAny_bind ?_))
  show wpAny _ A (do let _ ← comprehension (.ListComp elt [⟨.Name x px, iter, [], 0⟩] scope pos) scope env _ (newList []) false (eval iter env) (some (assign (.Name y py) env))) _ _ s
  refine wpAny_bind (wpAny_mono (wpAny_comprehension_free (use := some (assign (.Name y py) env)) (Q := fun _ s' => wpAny (model prog w) A (execs rest env) Q E s') rfl hs hclos hkind hnames ?_) (fun _ s' hq => wpAny_pure (wpAny_pure hq)) fun _ _ e => e)
  refine hix s E _ (S.gd D) (S.all H) fun s₁ I e F' s₂ k HF It T => ?_
  have G₁ := (S.gd D).up k.up
  have H₁ := (S.all H).up k.up
  refine wpAny_newObj_type ?_
  have T₁ := T.add (e := .lA []) (Kp.push s₂ { cls := .type "list", data := .seq ([] : List PySem.Value).toArray }) (Heap.get?_none_of_le (Nat.le_refl _)) ⟨[], ⟨0, Heap.get?_push_size _ rfl⟩, .nil⟩
  refine wpAny_newFunctionEnv hcell (by intro y hy; simp at hy) (fun h₁ hns₁ hsb₁ => ?_) hkind
  have T₂ := T₁.add (e := .nm []) (s' := { s₂ with heap := h₁, toks := s₂.toks + ([] : List (Str × PySem.Value)).length }) ⟨⟨h₁, _, rfl, fun b o q => hsb₁.extBut b o (Nat.ne_of_lt (Heap.lt_size q)) (Heap.get?_push_of_some _ q)⟩⟩ (Heap.get?_none_of_le (Nat.le_refl _)) ⟨_, hns₁, fun _ h => nomatch h⟩
  refine comp_start rfl (fun Q E hQ => It.self A 0 _ Q E (T₂.has (I, .own (e 0)) (.tail _ (.tail _ (.head _)))) hQ) ?_
  have loop : ∀ (n i : Nat) (C Da : Addr) (m : List (Str × AV)) (ts : List (Addr × AV)) (X : Led) (s' : Shared), n + i = its.length → ts.map (·.2) = its.take i → (∀ t ∈ ts, (t.1, ent t.2) ∈ X) → (∀ p ∈ X, p.2.isDol = false) → St prog w s₁ ((C, .nm m) :: (Da, .lA (ts.map fun t => .ref t.1)) :: (I, .own (e i)) :: X) s' →
      codeAny (model prog w) A (.compLoop (.ListComp elt [⟨.Name x px, iter, [], 0⟩] scope pos) 0 (.ref I) (.ref Da) (compEnvC scope cl C env)) (compPost (model prog w) A E (some (assign (.Name y py) env)) (fun _ s' => wpAny (model prog w) A (execs rest env) Q E s') (.ref Da) C) s' := by
    intro n
    induction n with
    | zero =>
      intro i C Da m ts X s' hn hts hX hXd S'
      obtain rfl : i = its.length := (Nat.zero_add i).symm.trans hn
      rw [List.take_length] at hts
      refine comp_turn rfl ?_
      refine It.done A s₁ _ s' _ _ hh (S'.perm (List.perm_middle (l₁ := [(C, Ent.nm m), (Da, Ent.lA (ts.map fun t => .ref t.1))])).symm) (HF.up S'.kp.up) fun s₅ S₅ => ?_
      have P := ((S.keep k).plus S₅).perm (G' := (L, .nm mm) :: (C, .nm m) :: (Da, .lA (ts.map fun t => .ref t.1)) :: (X ++ G)) (List.perm_middle (l₁ := (C, Ent.nm m) :: (Da, Ent.lA (ts.map fun t => .ref t.1)) :: X)).symm
      show wpAny _ A (assign (.Name y py) env (.ref Da)) _ _ _
      refine wpAny_assign_Name (P.store (av := .ref Da) rfl (fun s₃ P₃ => ?_) hL hl hp)
      have P₄ := P₃.perm (G' := (C, .nm m) :: (L, .nm (setAl y (.ref Da) mm)) :: (Da, .lA (ts.map fun t => .ref t.1)) :: (X ++ G)) (List.Perm.swap ..)
      obtain ⟨mf, hn, _⟩ := P₄.has _ List.mem_cons_self
      exact ⟨mf, hn, fun h' hs' => h Da ts X _ hts hX hXd (P₄.gone (tk := s₃.toks) hs'.extBut (ns_noTup hn) (ns_noList hn))⟩
    | succ n ih =>
      intro i C Da m ts X s' hn hts hX hXd S'
      have hi : i < its.length := hn ▸ Nat.lt_add_of_pos_left (Nat.succ_pos n)
      have hnn := (Nat.succ_add n i).symm.trans hn
      refine comp_turn rfl ?_
      refine It.item A i s₁ _ s' _ _ hh hi (S'.perm (List.perm_middle (l₁ := [(C, Ent.nm m), (Da, Ent.lA (ts.map fun t => .ref t.1))])).symm) (HF.up S'.kp.up) fun v s₅ hv S₅ => ?_
      have S₆ := S₅.perm (G' := (C, .nm m) :: (I, .own (e (i + 1))) :: (Da, .lA (ts.map fun t => .ref t.1)) :: X) (List.Perm.swap ..)
      refine wpAny_of_eq (a := ()) rfl ?_
      refine wpAny_assign_Name (S₆.store hv (fun s₇ S₇ => ?_) rfl (cenv_local hx) (cenv_plain hkind))
      refine wpAny_tests_nil (ite_so rfl ?_)
      have hsub : Sub [(x, its[i]?.getD .none)] (setAl x (its[i]?.getD .none) m) := Sub.cons mN Sub.nil
      refine nextGen_leaf rfl (hit _ (get_mem hi) C s₇ _ _ (S₇.gd G₁) (Has.sub hsub (Has.cons (S₇.has _ List.mem_cons_self) (H₁.up S₇.kp.up))) fun a s₈ hn hat k₈ => ?_)
      have S₈ := (S₇.add k₈ hn hat).perm (G' := (Da, .lA (ts.map fun t => .ref t.1)) :: (C, .nm (setAl x (its[i]?.getD .none) m)) :: (I, .own (e (i + 1))) :: (a, ent (its[i]?.getD .none)) :: X) (by
        refine List.Perm.trans ?_ (List.perm_middle (l₁ := [(C, Ent.nm (setAl x (its[i]?.getD .none) m)), (I, Ent.own (e (i + 1))), (Da, Ent.lA (ts.map fun t => .ref t.1))]))
        exact (List.perm_middle (l₁ := [(C, Ent.nm (setAl x (its[i]?.getD .none) m)), (I, Ent.own (e (i + 1)))])).symm)
      obtain ⟨vs, pl, pa⟩ := S₈.has _ List.mem_cons_self
      have lz : (ts.map fun t => AV.ref t.1).length ≤ 1000 := by
        have := congrArg List.length hts
        rw [List.length_map] at this
        rw [List.length_map, this]; exact Nat.le_trans (List.length_take_le' ..) hz
      refine wpAny_list_append_plain pl (fun h' pl' hs => ?_) (by rw [List.size_toArray, ← pa.length]; exact ok_size lz)
      have S₉ := S₈.list (e' := .lA ((ts.map fun t => .ref t.1) ++ [.ref a])) (tk := s₈.toks) pl hs ⟨vs ++ [.ref a], by simpa using pl', lA_snoc (y := .ref a) (v := .ref a) pa rfl⟩ (nd_cons rfl (nd_cons rfl (nd_cons (hent _) hXd)))
      refine ih (i + 1) C Da (setAl x (its[i]?.getD .none) m) (ts ++ [(a, its[i]?.getD .none)]) ((a, ent (its[i]?.getD .none)) :: X) _ hnn ?_ ?_ ?_ ?_
      · rw [List.map_append, hts, take_get hi]; rfl
      · intro t ht
        rcases List.mem_append.mp ht with ht | ht
        · exact List.mem_cons_of_mem _ (hX t ht)
        · rw [List.mem_singleton] at ht; subst ht; exact List.mem_cons_self
      · intro p hp
        rcases List.mem_cons.mp hp with rfl | hp
        · exact hent _
        · exact hXd p hp
      · rw [List.map_append]
        exact S₉.perm (List.Perm.swap ..)
  exact loop its.length 0 _ _ [] [] [] _ rfl rfl (fun _ h => absurd h List.not_mem_nil) nd_nil T₂
end
end Mine

-- B28
namespace Mine
open PySem PySem.Calls PyProof.Rows PySem.W

/-! what the law builds -/
noncomputable def T6 : List (Nat × Nat) := [(55, 59), (55, 61), (55, 62), (59, 61), (59, 62), (61, 62)]
noncomputable def codeOf (ns : List Int) : Int := 113 + (pickNums ns none (some 24) none).sum
noncomputable def pidx (code : Int) (p : Nat) : Int := (code.fdiv (6 ^ p)).fmod 6
noncomputable def prOf (code : Int) (p : Nat) : Nat × Nat := T6[(pidx code p).toNat]?.getD (55, 59)
noncomputable def offs : List Int := [18, 5, 13, 0]
noncomputable def numOf (ns : List Int) (k : Nat) : Int := offs[k]?.getD 0 + (pickNums ns (some k) (some 24) (some 4)).sum
noncomputable def dgOf (n : Int) (p : Nat) : Int := (n.fdiv (3 ^ p)).fmod 3
noncomputable def sg3 (a : Nat × Nat) (d : Nat) : Nat := if d = 0 then a.1 else if d = 1 then a.2 else 63
noncomputable def mk3 (a b c : Nat) : Nat → Nat := fun i => if i = 0 then a else if i = 1 then b else c
noncomputable def lsC (ns : List Int) (k : Nat) : Nat → Nat := fun p => sg3 (prOf (codeOf ns) p) (dgOf (numOf ns k) p).toNat
noncomputable def ptx (a : Nat × Nat) : Str := ⟨#[a.1, a.2]⟩
noncomputable def ptq (a : Nat × Nat) : Str := ⟨#[a.1, a.2, 63]⟩
noncomputable def P2 (a : Nat × Nat) : List Nat := [a.1, a.2]
noncomputable def P3 (a : Nat × Nat) : List Nat := [a.1, a.2, 63]
noncomputable def all3 (l : Nat → List Nat) : List (Nat → Nat) := (l 0).flatMap fun a => (l 1).flatMap fun b => (l 2).flatMap fun c => [mk3 a b c]
noncomputable def listedS (ns : List Int) : List Str := (List.range 4).map fun k => tx (lsC ns k)
noncomputable def namesC (ns : List Int) : List (Nat → Nat) := all3 fun p => P2 (prOf (codeOf ns) p)
noncomputable def pattsC (ns : List Int) : List (Nat → Nat) := all3 fun p => P3 (prOf (codeOf ns) p)
noncomputable def namesS (ns : List Int) : List Str := (namesC ns).map tx
noncomputable def pattsS (ns : List Int) : List Str := (pattsC ns).map tx
noncomputable def cof (k : Str) : Nat → Nat := fun i => k.cps[i]?.getD 0
noncomputable def valS (ns : List Int) (k : Str) : List Str := (namesS ns).filter (hitS (cof k))
noncomputable def heldS (ns : List Int) : List Str := (namesS ns).filter fun n => !decide (((listedS ns).filter fun q => (valS ns q).any (· == n)) = [])
noncomputable def wholeS (ns : List Int) : List Str := (pattsS ns).filter fun q => decide (((valS ns q).filter fun n => !((heldS ns).any (· == n))) = [])
noncomputable def wid (q : Str) (k : Nat) : Str := (PySem.Txt.slice q none (some k) ++ Str.ofString "?") ++ PySem.Txt.slice q (some ((k : Int) + 1)) none
noncomputable def wideB (ns : List Int) (q : Str) : Bool := decide (((List.range 3).filter fun k => (cof q k != 63) && (((wholeS ns).any (· == wid q k)) && true)) = [])
noncomputable def numS (q : Str) : Int := num3 (cof q 0) (cof q 1) (cof q 2)
noncomputable def widestI (ns : List Int) : List Int := ((wholeS ns).filter (wideB ns)).map numS
noncomputable def stepI (ns : List Int) (p : Nat) : Int × Int := (16 - 8 * (p : Int), Builtin.bitXor ((prOf (codeOf ns) p).1 : Nat) ((prOf (codeOf ns) p).2 : Nat))
noncomputable def stepsI (ns : List Int) : List (Int × Int) := (List.range 3).map (stepI ns)
noncomputable def waitI (ns : List Int) : List Int := (listedS ns).map numS
noncomputable def lawB (ns : List Int) : Bool := decide (srt (runC (stepsI ns) (waitI ns)) = srt (widestI ns))

theorem sg55 : sg 55 := .inl rfl
theorem sg59 : sg 59 := .inr (.inl rfl)
theorem sg61 : sg 61 := .inr (.inr (.inl rfl))
theorem sg62 : sg 62 := .inr (.inr (.inr rfl))
theorem T6_ok (i : Nat) (hi : i < 6) : sg (T6[i]?.getD (55, 59)).1 ∧ sg (T6[i]?.getD (55, 59)).2 :=
  lt6 (P := fun i => sg (T6[i]?.getD (55, 59)).1 ∧ sg (T6[i]?.getD (55, 59)).2) hi ⟨sg55, sg59⟩ ⟨sg55, sg61⟩ ⟨sg55, sg62⟩ ⟨sg59, sg61⟩ ⟨sg59, sg62⟩ ⟨sg61, sg62⟩
theorem fmod_lt {a b : Int} (hb : 0 < b) : 0 ≤ a.fmod b ∧ a.fmod b < b := ⟨Int.fmod_nonneg_of_pos a hb, Int.fmod_lt_of_pos a hb⟩
theorem pr_ok (code : Int) (p : Nat) : sg (prOf code p).1 ∧ sg (prOf code p).2 := by have h := fmod_lt (a := code.fdiv (6 ^ p)) (b := 6) (by decide); exact T6_ok _ ((Int.toNat_lt h.1).mpr h.2)
theorem sg3_ok {a : Nat × Nat} (h : sg a.1 ∧ sg a.2) (d : Nat) : sq (sg3 a d) := by
  unfold sg3
  split
  · exact .inl h.1
  · split
    · exact .inl h.2
    · exact .inr rfl

section
variable {prog : Program} {w : World} {A : Around} {F : Led} {K : Frag} {env : Env}
theorem Ex.c {x : Str} {pos : Pos} {v : AV} (c : Addr) (hm : (c, Ent.ce (some v)) ∈ F := by repeat (first | assumption | exact List.mem_cons_self | apply List.mem_cons_of_mem)) (hc : env.cells.lookup x = some c := by rfl) (hk : env.scope.kind = .function := by rfl)
    (hl : env.kindOf x = some .cell := by rfl) (hd : (x == ("__debug__" : Str)) = false := by decide) : Ex prog w K A env F (.Name x pos) (.av v) := Ex.cell hm hc hk hl hd
theorem Ex.l {x : Str} {pos : Pos} (L : Addr) {m : List (Str × AV)} {v : AV} (hm : (L, Ent.nm m) ∈ F := by repeat (first | assumption | exact List.mem_cons_self | apply List.mem_cons_of_mem)) (hv : (x, v) ∈ m := by repeat (first | exact List.mem_cons_self | exact mN | refine mS ?_ | apply List.mem_cons_of_mem)) (hL : env.locals = L := by rfl) (hk : env.scope.kind = .function := by rfl)
    (hl : env.kindOf x = some .local := by rfl) (hd : (x == ("__debug__" : Str)) = false := by decide) : Ex prog w K A env F (.Name x pos) (.av v) := Ex.local hm hv hL hk hl hd
end
end Mine

-- B29
namespace Mine
open PySem PySem.Calls PyProof.Rows PySem.W

section
variable {prog : Program} {w : World} {A : Around} {F : Led} {K : Frag} {env : Env}

noncomputable def pairV (ns : List Int) : AV → AV
  | .int i => .str (ptx (prOf (codeOf ns) i.toNat))
  | _ => .none
noncomputable def r3 : List AV := (List.range 3).map fun (i : Nat) => AV.int i
theorem r3_mem {v : AV} (h : v ∈ r3) : ∃ i : Nat, i < 3 ∧ v = .int i := by
  obtain ⟨i, hi, rfl⟩ := List.mem_map.mp h
  exact ⟨i, List.mem_range.mp hi, rfl⟩
noncomputable def pairsS (ns : List Int) : List Str := (List.range 3).map fun p => ptx (prOf (codeOf ns) p)
theorem pairs_out (ns : List Int) : (r3.filter fun _ => true).map (pairV ns) = (pairsS ns).map AV.str := by
  rfl
theorem six_get (i : Int) (h0 : 0 ≤ i) (h1 : i < 6) : [Str.ofString "7;", Str.ofString "7=", Str.ofString "7>", Str.ofString ";=", Str.ofString ";>", Str.ofString "=>"][i.toNat]? = some (ptx (T6[i.toNat]?.getD (55, 59))) := by
  obtain ⟨n, rfl⟩ : ∃ n : Nat, i = n := ⟨i.toNat, (Int.toNat_of_nonneg h0).symm⟩
  exact lt6 (P := fun n : Nat => [Str.ofString "7;", Str.ofString "7=", Str.ofString "7>", Str.ofString ";=", Str.ofString ";>", Str.ofString "=>"][(n : Int).toNat]? = some (ptx (T6[(n : Int).toNat]?.getD (55, 59)))) (Int.ofNat_lt.mp h1) rfl rfl rfl rfl rfl rfl

noncomputable def r4 : List AV := (List.range 4).map fun (i : Nat) => AV.int i
theorem r4_get {j : Nat} (h : j < 4) : r4[j]?.getD .none = .int j := lt4 (P := fun j : Nat => r4[j]?.getD .none = .int j) h rfl rfl rfl rfl
theorem Ex.to {e : PySem.Expr} {r r' : Res} (h : Ex prog w K A env F e r) (q : r = r') : Ex prog w K A env F e r' := q ▸ h
noncomputable def signV (ns : List Int) (k : Nat) : AV → AV
  | .int i => .str ⟨#[lsC ns k i.toNat]⟩
  | _ => .none
theorem sign_out (ns : List Int) (k : Nat) : (r3.filter fun _ => true).map (signV ns k) = [(⟨#[lsC ns k 0]⟩ : Str), ⟨#[lsC ns k 1]⟩, ⟨#[lsC ns k 2]⟩].map AV.str := rfl
theorem ptq_get (a : Nat × Nat) (d : Int) (h0 : 0 ≤ d) (h1 : d < 3) : (ptq a).cps[d.toNat]? = some (sg3 a d.toNat) := by
  obtain ⟨n, rfl⟩ : ∃ n : Nat, d = n := ⟨d.toNat, (Int.toNat_of_nonneg h0).symm⟩
  exact lt3 (P := fun n : Nat => (ptq a).cps[(n : Int).toNat]? = some (sg3 a (n : Int).toNat)) (Int.ofNat_lt.mp h1) rfl rfl rfl
theorem pairs_get (ns : List Int) {i : Nat} (h : i < 3) : (pairsS ns)[((i : Nat) : Int).toNat]? = some (ptx (prOf (codeOf ns) i)) := lt3 (P := fun i : Nat => (pairsS ns)[((i : Nat) : Int).toNat]? = some (ptx (prOf (codeOf ns) i))) h rfl rfl rfl
theorem offs_get {j : Nat} (h : j < 4) : offs[((j : Nat) : Int).toNat]? = some (offs[j]?.getD 0) := lt4 (P := fun j : Nat => offs[((j : Nat) : Int).toNat]? = some (offs[j]?.getD 0)) h rfl rfl rfl rfl
theorem join3 (a b c : Nat) : PySem.Txt.join (Str.ofString "") [⟨#[a]⟩, ⟨#[b]⟩, ⟨#[c]⟩] = ⟨#[a, b, c]⟩ := by rfl
theorem take_listed (ns : List Int) {j : Nat} (h : j < 4) : (listedS ns).take (j + 1) = (listedS ns).take j ++ [tx (lsC ns j)] := lt4 (P := fun j : Nat => (listedS ns).take (j + 1) = (listedS ns).take j ++ [tx (lsC ns j)]) h rfl rfl rfl rfl

noncomputable def oneV (l : List Nat) : List AV := l.map fun c => .str ⟨#[c]⟩
noncomputable def catV : AV → AV → AV → AV
  | .str x, .str y, .str z => .str ((x ++ y) ++ z)
  | _, _, _ => .none
theorem one_mem {l : List Nat} {v : AV} (h : v ∈ oneV l) : ∃ c, c ∈ l ∧ v = .str ⟨#[c]⟩ := by
  obtain ⟨c, hc, rfl⟩ := List.mem_map.mp h
  exact ⟨c, hc, rfl⟩
theorem three_out2 (a b c : Nat × Nat) : ((oneV (P2 a)).flatMap fun va => (oneV (P2 b)).flatMap fun vb => (oneV (P2 c)).flatMap fun vc => [catV va vb vc]) = ((((P2 a).flatMap fun x => (P2 b).flatMap fun y => (P2 c).flatMap fun z => [mk3 x y z])).map tx).map AV.str := rfl
theorem three_out3 (a b c : Nat × Nat) : ((oneV (P3 a)).flatMap fun va => (oneV (P3 b)).flatMap fun vb => (oneV (P3 c)).flatMap fun vc => [catV va vb vc]) = ((((P3 a).flatMap fun x => (P3 b).flatMap fun y => (P3 c).flatMap fun z => [mk3 x y z])).map tx).map AV.str := rfl
theorem names_out (ns : List Int) : ((oneV (P2 (prOf (codeOf ns) 0))).flatMap fun va => (oneV (P2 (prOf (codeOf ns) 1))).flatMap fun vb => (oneV (P2 (prOf (codeOf ns) 2))).flatMap fun vc => [catV va vb vc]) = (namesS ns).map AV.str := three_out2 _ _ _
theorem patts_out (ns : List Int) : ((oneV (P3 (prOf (codeOf ns) 0))).flatMap fun va => (oneV (P3 (prOf (codeOf ns) 1))).flatMap fun vb => (oneV (P3 (prOf (codeOf ns) 2))).flatMap fun vc => [catV va vb vc]) = (pattsS ns).map AV.str := three_out3 _ _ _
theorem mem_all3 {l : Nat → List Nat} {c : Nat → Nat} (h : c ∈ all3 l) : ∃ x y z, x ∈ l 0 ∧ y ∈ l 1 ∧ z ∈ l 2 ∧ c = mk3 x y z := by
  unfold all3 at h
  obtain ⟨x, hx, h⟩ := List.mem_flatMap.mp h
  obtain ⟨y, hy, h⟩ := List.mem_flatMap.mp h
  obtain ⟨z, hz, h⟩ := List.mem_flatMap.mp h
  exact ⟨x, y, z, hx, hy, hz, List.mem_singleton.mp h⟩
theorem P3_sq {a : Nat × Nat} (h : sg a.1 ∧ sg a.2) {x : Nat} (hx : x ∈ P3 a) : sq x := by
  simp only [P3, List.mem_cons, List.not_mem_nil, or_false] at hx
  rcases hx with rfl | rfl | rfl
  · exact .inl h.1
  · exact .inl h.2
  · exact .inr rfl
theorem patt_facts {ns : List Int} {k : Str} (h : k ∈ pattsS ns) : tx (cof k) = k ∧ ∀ i, i < 3 → sq (cof k i) := by
  obtain ⟨c, hc, rfl⟩ := List.mem_map.mp h
  obtain ⟨x, y, z, hx, hy, hz, rfl⟩ := mem_all3 hc
  exact ⟨rfl, fun i hi => lt3 (P := fun i => sq (cof (tx (mk3 x y z)) i)) hi (P3_sq (pr_ok _ _) hx) (P3_sq (pr_ok _ _) hy) (P3_sq (pr_ok _ _) hz)⟩
theorem ascii2 {a : Nat × Nat} (h : sg a.1 ∧ sg a.2) : (ptx a).cps.all (· < 128) = true := by
  have e : ∀ {x}, sg x → x < 128 := fun h => by rcases h with rfl | rfl | rfl | rfl <;> decide
  simp [ptx, e h.1, e h.2]
theorem ascii3 {a : Nat × Nat} (h : sg a.1 ∧ sg a.2) : (ptq a).cps.all (· < 128) = true := by
  have e : ∀ {x}, sg x → x < 128 := fun h => by rcases h with rfl | rfl | rfl | rfl <;> decide
  simp [ptq, e h.1, e h.2]
theorem all3_len {l : Nat → List Nat} {n : Nat} (h : ∀ i, i < 3 → (l i).length = n) : (all3 l).length = n * (n * n) := by
  unfold all3
  have e0 := h 0 (by decide); have e1 := h 1 (by decide); have e2 := h 2 (by decide)
  simp only [List.length_flatMap, List.length_singleton, List.map_const', List.sum_replicate_nat, e0, e1, e2, Nat.mul_one]
theorem len_names (ns : List Int) : (namesC ns).length ≤ 100 := by unfold namesC; rw [all3_len (n := 2) (fun _ _ => rfl)]; decide
theorem len_patts (ns : List Int) : (pattsS ns).length ≤ 1000 := by unfold pattsS pattsC; rw [List.length_map, all3_len (n := 3) (fun _ _ => rfl)]; decide


noncomputable def bodyOf : Option FuncData → List Stmt
  | some fd => (match fd.body with | .stmts b => b | _ => [])
  | _ => []
noncomputable def envOf (fd : Option FuncData) (L : Addr) : Env := match fd with
  | some fd => callEnvC fd L 120
  | none => callEnvC default L 120
end
end Mine

-- B30
namespace Mine
open PySem PySem.Calls PyProof.Rows PySem.W

section
variable {prog : Program} {w : World} {A : Around} {F : Led} {K : Frag} {env : Env}

theorem Xn.tupI {es : List PySem.Expr} {k : Nat} {pos : Pos} {ys : List Int} (h : Sx prog w K A env F es (ys.map fun y => .av (.int y))) (hz : ys.length ≤ 64) : Xn prog w K A env F (.Tuple es k pos) (.tI ys) := by
  intro s E Q G H q
  refine wpAny_Tuple (h pos s E _ G H fun vs s₁ hvs k₁ => ?_)
  have hl := hvs.length
  rw [List.length_map] at hl
  refine ⟨by rw [hl]; exact ok_size (Nat.le_trans hz (by decide)), q _ _ ?_ ⟨vs, IsTup.new _ _, hvs.ints⟩ (k₁.tr (Kp.push s₁ _))⟩
  cases z : s.heap.get? s₁.heap.objs.size with
  | none => rfl
  | some o => exact absurd (Heap.lt_size (k₁.up _ _ z)) (Nat.lt_irrefl _)

noncomputable def kV (ns : List Int) (q : Str) : AV → Bool
  | .int k => (cof q k.toNat != 63) && (((wholeS ns).any (· == wid q k.toNat)) && true)
  | _ => false
theorem kV_out (ns : List Int) (q : Str) : ((r3.filter (kV ns q)).map id) = (((List.range 3).filter fun k => (cof q k != 63) && (((wholeS ns).any (· == wid q k)) && true)).map fun (k : Nat) => (k : Int)).map AV.int := by
  rw [List.map_id]
  unfold r3
  rw [List.filter_map, List.map_map]
  rfl
theorem ne_q (c : Nat) : ((⟨#[c]⟩ : Str) != Str.ofString "?") = (c != 63) := by
  have : ((⟨#[c]⟩ : Str) == Str.ofString "?") = (c == 63) := by
    rw [Bool.eq_iff_iff]
    simp only [beq_iff_eq]
    constructor
    · intro h; have := congrArg Str.cps h; have e : (Str.ofString "?").cps = #[63] := by decide
      rw [e] at this; simpa using this
    · rintro rfl; decide
  simp only [bne, this]
noncomputable def sv (ns : List Int) : AV → Int × Int
  | .int i => stepI ns i.toNat
  | _ => (0, 0)
noncomputable def stepE (ns : List Int) (v : AV) : Ent := .tI [(sv ns v).1, (sv ns v).2]
noncomputable def numV : AV → AV
  | .str q => .int (numS q)
  | _ => .none
theorem whole_patt {ns : List Int} {q : Str} (h : q ∈ wholeS ns) : q ∈ pattsS ns := (List.mem_filter.mp h).1
theorem listed_facts {ns : List Int} {q : Str} (h : q ∈ listedS ns) : tx (cof q) = q ∧ ∀ i, i < 3 → sq (cof q i) := by
  obtain ⟨k, _, rfl⟩ := List.mem_map.mp h
  exact ⟨rfl, fun i hi => lt3 (P := fun i => sq (cof (tx (lsC ns k)) i)) hi (sg3_ok (pr_ok _ _) _) (sg3_ok (pr_ok _ _) _) (sg3_ok (pr_ok _ _) _)⟩

set_option maxHeartbeats 8000000 in
theorem law_p4 (hh : A.handled = none) (hroom : A.depth + 4 < recursionLimit) (hu : A.units + 200 < cLine) {ns : List Int}
    (hx0 : ∀ k, ∀ a ∈ (traj (stepsI ns) (waitI ns) k).1, ∀ b ∈ (traj (stepsI ns) (waitI ns) k).2, 0 ≤ Builtin.bitXor a b) (hlen : (runC (stepsI ns) (waitI ns)).length < 64)
    {s₀ s : Shared} {L we pa li wh : Addr} {v6 : Option AV} (D : Gd (KK w) s₀.heap) (H : Has prog w F s₀.heap)
    (S : St prog w s₀ [(L + 6, .ce v6), (L, .nm [(Str.ofString "widest", .ref we)]), (we, .lI []), (L + 2, .ce (some (.ref pa))), (pa, .lS (pairsS ns)), (L + 3, .ce (some (.ref li))), (li, .lS (listedS ns)), (L + 9, .ce (some (.ref wh))), (wh, .lS (wholeS ns))] s) :
    wpAny (model prog w) (A.deeper (envOf (fdOf ((KK w).lookup 120)) L)) (execs ((bodyOf (fdOf ((KK w).lookup 120))).drop 10) (envOf (fdOf ((KK w).lookup 120)) L)) (fun fl s' => ∃ v, fl = .ret v ∧ (Res.av (.bool (lawB ns))).Is prog w s'.heap v ∧ Kp s₀ s') (fun _ _ => False) s := by
  show wpAny _ (A.deeper (callEnvC _ L 120)) (execs _ (callEnvC _ L 120)) _ _ _
  refine for_cell (c := L + 6) (its := (wholeS ns).map AV.str) (F' := [(wh, .lS (wholeS ns))]) (fun j G' => G' = [(L, .nm [(Str.ofString "widest", .ref we)]), (we, .lI ((((wholeS ns).take j).filter (wideB ns)).map numS)), (L + 2, .ce (some (.ref pa))), (pa, .lS (pairsS ns)), (L + 3, .ce (some (.ref li))), (li, .lS (listedS ns)), (L + 9, .ce (some (.ref wh))), (wh, .lS (wholeS ns))]) hh D H S rfl ?_ ?_ ?_ ?_
  · exact iter_at S D H (Ex.c (L + 9)) (by repeat (first | exact List.mem_cons_self | apply List.mem_cons_of_mem)) rfl
  · rintro i G' rfl p hp
    rw [List.mem_singleton] at hp; subst hp
    repeat (first | exact List.mem_cons_self | apply List.mem_cons_of_mem)
  · rintro j G' p s' E' hj rfl hpd T
    rw [List.length_map] at hj
    obtain ⟨q, hq⟩ : ∃ q, (wholeS ns)[j]? = some q := ⟨_, List.getElem?_eq_getElem hj⟩
    have hqw := List.mem_of_getElem? hq
    obtain ⟨hqt, hqs⟩ := patt_facts (whole_patt hqw)
    have hql : q.length = 3 := by rw [← hqt]; rfl
    have hqi : ((wholeS ns).map AV.str)[j]?.getD .none = .str q := by simp [hq]
    rw [hqi] at T
    have hwz : (wholeS ns).length ≤ 1000 := Nat.le_trans (List.length_filter_le ..) (len_patts ns)
    refine if_dec T D H (led3 (P := fun F => Tx prog w (KK w) _ _ F _ _) (a := (L + 6, .ce (some (.str q)))) (b := (L + 9, .ce (some (.ref wh)))) (c := (wh, .lS (wholeS ns))) (by repeat (first | exact List.mem_cons_self | apply List.mem_cons_of_mem)) (by repeat (first | exact List.mem_cons_self | apply List.mem_cons_of_mem)) (by repeat (first | exact List.mem_cons_self | apply List.mem_cons_of_mem)) fun F m1 m2 m3 => Tx.eqLI (ns := ((List.range 3).filter fun k => (cof q k != 63) && (((wholeS ns).any (· == wid q k)) && true)).map fun (k : Nat) => (k : Int)) (ms := []) (show A.units + 67 < cLine from dp hu (by decide)) (Xn.ex (Xn.toI (Xn.comp (its := r3) (cl := [(Str.ofString "whole", L + 9), (Str.ofString "pattern", L + 6)]) ?_ ?_) (kV_out ns q))) Ex.nilI) (fun hb s₂ S₂ => ?_) (fun hb s₂ S₂ => ?_)
    · exact (Iy.range (n := 3) (by decide) (Ex.blt (v := .type "range") (r := .ty "range") (by rfl) (by rfl) rfl) Ex.int).ix
    · refine CL.one (p := kV ns q) (f := id) hh (fun v hv C => ?_) (by decide)
      obtain ⟨k, hk, rfl⟩ := r3_mem hv
      refine ⟨Ts.one (Tx.to (Tx.and (Ax.cons (Tx.neS (x := ⟨#[cof q k]⟩) (y := Str.ofString "?") (Ex.idxS (x := q) (i := k) (c := cof q k) (Ex.c (L + 6)) (Ex.l C) (i_nn k) (i_lt hk (by decide)) ?_) Ex.str) fun _ => Ax.cons (Tx.inL (x := wid q k) (ys := wholeS ns) (c := wh) (Ex.addS (x := PySem.Txt.slice q none (some k) ++ Str.ofString "?") (y := PySem.Txt.slice q (some ((k : Int) + 1)) none) (Ex.addS (x := PySem.Txt.slice q none (some k)) (y := Str.ofString "?") ?_ Ex.str ?_) ?_ ?_) (Ex.c (L + 9)) ?_) fun _ => Ax.nil)) ?_), fun _ => Ex.l C⟩
      · rw [← hqt]
        exact lt3 (P := fun k : Nat => (tx (cof q)).cps[((k : Nat) : Int).toNat]? = some (cof (tx (cof q)) k)) hk rfl rfl rfl
      · exact Ex.sliceS (x := q) (lo := none) (hi := some k) (Ex.c (L + 6)) (Ex.slice Px.none (Px.some (Ex.l C)) Px.none) (by omega)
      · have := PySem.Txt.slice_le q none (some (k : Int))
        have e : (Str.ofString "?").length = 1 := by decide
        exact ok_size (Nat.le_trans (Nat.add_le_add (Nat.le_trans this (Nat.le_of_eq hql)) (Nat.le_of_eq e)) (by decide))
      · exact Ex.sliceS (x := q) (lo := some ((k : Int) + 1)) (hi := none) (Ex.c (L + 6)) (Ex.slice (Px.some (Ex.addI (Ex.l C) Ex.int)) Px.none Px.none) (by omega)
      · have h1 := PySem.Txt.slice_le q none (some (k : Int))
        have h2 := PySem.Txt.slice_le q (some ((k : Int) + 1)) none
        have e : (Str.ofString "?").length = 1 := by decide
        rw [PySem.Str.length_append]
        exact ok_size (Nat.le_trans (Nat.add_le_add (Nat.add_le_add (Nat.le_trans h1 (Nat.le_of_eq hql)) (Nat.le_of_eq e)) (Nat.le_trans h2 (Nat.le_of_eq hql))) (by decide))
      · repeat (first | assumption | apply List.mem_cons_of_mem)
      · rw [ne_q]; rfl
    · have hwb : wideB ns q = true := by
        unfold wideB
        rw [decide_eq_true_eq] at hb ⊢
        exact List.map_eq_nil_iff.mp hb
      have htk : (((wholeS ns).take (j + 1)).filter (wideB ns)).map numS = (((wholeS ns).take j).filter (wideB ns)).map numS ++ [numS q] := by
        rw [fm_succ hq, if_pos hwb]
      refine app_stmt (pre := [(L + 6, _), p, (L, _)]) (D := we) (ent := .lI ((((wholeS ns).take j).filter (wideB ns)).map numS)) (ent' := .lI ((((wholeS ns).take j).filter (wideB ns)).map numS ++ [numS q])) (y := .int (numS q)) S₂ D H rfl (Ex.l L) ?_ (nd_cons rfl (nd_cons hpd (nd_cons rfl (nd_cons rfl (nd_cons rfl (nd_cons rfl (nd_cons rfl (nd_cons rfl (nd_cons rfl nd_nil))))))))) ?_ hent_I fun s₃ S₃ => ?_
      · exact Ex.callF (f := 105) (Ex.glob (v := .ref 105) (by rfl) rfl) (by rfl) (Sx.cons (Ex.to (Ex.c (L + 6)) (by rw [← hqt]; rfl)) Sx.nil) (fx_number (A := A.deeper _) (show A.depth + 2 < _ from dp hroom (by decide)) (hqs 0 (by decide)) (hqs 1 (by decide)) (hqs 2 (by decide)))
      · rw [List.length_map, List.length_map]
        exact Nat.le_trans (List.length_filter_le ..) (Nat.le_trans (List.length_take_le' ..) hwz)
      · refine wpAny_execs_nil (wpAny_execs_nil ⟨rfl, some (.str q), _, rfl, ?_⟩)
        rw [htk]
        exact S₃
    · have hwb : wideB ns q = false := by
        unfold wideB
        rw [decide_eq_false_iff_not] at hb ⊢
        exact fun e => hb (by rw [e]; rfl)
      have htk : (((wholeS ns).take (j + 1)).filter (wideB ns)).map numS = (((wholeS ns).take j).filter (wideB ns)).map numS := by
        rw [fm_succ hq, hwb]; exact List.append_nil _
      refine wpAny_execs_nil (wpAny_execs_nil ⟨rfl, some (.str q), _, rfl, ?_⟩)
      rw [htk]
      exact S₂
  · rintro vo G' s₄ rfl T
    rw [List.length_map, List.take_length] at T
    have hwi : ((wholeS ns).filter (wideB ns)).map numS = widestI ns := rfl
    rw [hwi] at T
    have T₁ := T.perm (G' := (L, .nm [(Str.ofString "widest", .ref we)]) :: (L + 6, .ce vo) :: _) (List.Perm.swap ..)
    refine as_compN (L := L) (its := r3) (cl := [(Str.ofString "pairs", L + 2)]) (ent := stepE ns) hh T₁ D H ?_ (fun v hv C => ?_) (fun v => rfl) (by decide) fun a ts X s₅ hts hX hXd S₅ => ?_
    · exact (Iy.range (n := 3) (by decide) (Ex.blt (v := .type "range") (r := .ty "range") (by rfl) (by rfl) rfl) Ex.int).ix
    · obtain ⟨i, hi, rfl⟩ := r3_mem hv
      refine led3 (P := fun F => Xn prog w (KK w) _ _ F _ _) (a := (C, _)) (b := (L + 2, .ce (some (.ref pa)))) (c := (pa, .lS (pairsS ns))) List.mem_cons_self (by repeat (first | exact List.mem_cons_self | apply List.mem_cons_of_mem)) (by repeat (first | exact List.mem_cons_self | apply List.mem_cons_of_mem)) fun F m1 m2 m3 => ?_
      refine Xn.tupI (ys := [(stepI ns i).1, (stepI ns i).2]) (Sx.cons (r := .av (.int (16 - 8 * (i : Int)))) (Ex.subI Ex.int (Ex.mulI Ex.int (Ex.l C) ?_)) (Sx.cons (Ex.xorI (a := ((prOf (codeOf ns) i).1 : Nat)) (b := ((prOf (codeOf ns) i).2 : Nat)) ?_ ?_) Sx.nil)) (by show 2 ≤ 64; decide)
      · exact lt3 (P := fun i : Nat => IntMulOk 8 (i : Int)) hi (IntMulOk.of_bits (by decide) (by decide)) (IntMulOk.of_bits (by decide) (by decide)) (IntMulOk.of_bits (by decide) (by decide))
      · exact Ex.callB (Ex.blt (v := .builtin "ord") (r := .bi "ord") (by rfl) (by rfl) rfl) (Sx.cons (Ex.idxS (x := ptx (prOf (codeOf ns) i)) (i := 0) (c := (prOf (codeOf ns) i).1) (Ex.idxLS (c := pa) (ys := pairsS ns) (i := i) (Ex.c (L + 2)) m3 (Ex.l C) (i_nn i) (i_lt hi (by decide)) (pairs_get ns hi)) Ex.int (by decide) (by decide) rfl) Sx.nil) fx_ord
      · exact Ex.callB (Ex.blt (v := .builtin "ord") (r := .bi "ord") (by rfl) (by rfl) rfl) (Sx.cons (Ex.idxS (x := ptx (prOf (codeOf ns) i)) (i := 1) (c := (prOf (codeOf ns) i).2) (Ex.idxLS (c := pa) (ys := pairsS ns) (i := i) (Ex.c (L + 2)) m3 (Ex.l C) (i_nn i) (i_lt hi (by decide)) (pairs_get ns hi)) Ex.int (by decide) (by decide) rfl) Sx.nil) fx_ord
    · have hts' : (ts.map fun t => ((t.1, sv ns t.2) : Addr × Int × Int)).map (·.2) = stepsI ns := by
        rw [List.map_map]
        have : (ts.map (·.2)).map (sv ns) = r3.map (sv ns) := by rw [hts]
        rw [List.map_map] at this
        exact this
      have hrefs : (ts.map fun t => AV.ref t.1) = (ts.map fun t => ((t.1, sv ns t.2) : Addr × Int × Int)).map fun t => AV.ref t.1 := by rw [List.map_map]; rfl
      have hwl : (widestI ns).length < 64 := by
        unfold widestI
        rw [List.length_map]
        refine Nat.lt_of_le_of_lt (Nat.le_trans (List.length_filter_le ..) (List.length_filter_le ..)) ?_
        unfold pattsS pattsC
        rw [List.length_map, all3_len (n := 3) (fun _ _ => rfl)]; decide
      rw [hrefs] at S₅
      refine ret_ex (r := .av (.bool (lawB ns))) S₅ D H ?_ _ fun v s' hv k => ⟨v, rfl, hv, k⟩
      refine Ex.eqLI (ns := srt (runC (stepsI ns) (waitI ns))) (ms := srt (widestI ns)) (show A.units + 67 < cLine from dp hu (by decide)) (Ex.callB (Ex.blt (v := .builtin "sorted") (r := .bi "sorted") (by rfl) (by rfl) rfl) (Sx.cons ?_ Sx.nil) (fx_sorted hlen)) (Ex.callB (Ex.blt (v := .builtin "sorted") (r := .bi "sorted") (by rfl) (by rfl) rfl) (Sx.cons (Ex.known (Ex.l L (v := .ref we)) ?_) Sx.nil) (fx_sorted hwl))
      · refine Ex.to (Ex.consensus (A := A.deeper _) (w0 := waitI ns) (ts := ts.map fun t => (t.1, sv ns t.2)) (tt := stepsI ns) (sl := a) hts' hh (show A.depth + 2 < _ from dp hroom (by decide)) (show A.units + 103 < _ from dp hu (by decide)) (Ex.glob (v := .ref 115) (by rfl) rfl) ?_ (Ex.l L (v := .ref a)) ?_ ?_ ?_ ?_ ?_ ?_) rfl
        · refine Xn.toI (l := ((((listedS ns).map AV.str).filter fun _ => true).map numV)) (Xn.comp (its := (listedS ns).map AV.str) (cl := []) (Ix.list (ent := .lS (listedS ns)) (Ex.c (v := .ref li) (L + 3) (hm := ?_)) ?_ rfl) (CL.one (p := fun _ => true) (f := numV) hh (fun v hv C => ⟨Ts.nil, fun _ => ?_⟩) (by show 4 ≤ 1000; decide))) rfl
          · exact List.mem_append_left _ (List.mem_cons_of_mem _ (List.mem_cons_of_mem _ (List.mem_append_right _ (by repeat (first | exact List.mem_cons_self | apply List.mem_cons_of_mem)))))
          · exact List.mem_append_left _ (List.mem_cons_of_mem _ (List.mem_cons_of_mem _ (List.mem_append_right _ (by repeat (first | exact List.mem_cons_self | apply List.mem_cons_of_mem)))))
          · obtain ⟨q, hq, rfl⟩ := List.mem_map.mp hv
            obtain ⟨hqt, hqs⟩ := listed_facts hq
            exact Ex.callF (f := 105) (Ex.glob (v := .ref 105) (by rfl) rfl) (by rfl) (Sx.cons (Ex.to (Ex.l C) (by rw [← hqt]; rfl)) Sx.nil) (fx_number (A := A.deeper _) (show A.depth + 2 < _ from dp hroom (by decide)) (hqs 0 (by decide)) (hqs 1 (by decide)) (hqs 2 (by decide)))
        · repeat (first | exact List.mem_cons_self | apply List.mem_cons_of_mem)
        · intro t' ht'
          obtain ⟨t, ht, rfl⟩ := List.mem_map.mp ht'
          refine List.mem_append_left _ (List.mem_cons_of_mem _ (List.mem_cons_of_mem _ (List.mem_append_left _ (hX t ht))))
        · show 4 ≤ 400; decide
        · have := congrArg List.length hts
          rw [List.length_map] at this
          rw [List.length_map, this]; decide
        · intro t' ht'
          have h3 : t'.2 ∈ stepsI ns := by rw [← hts']; exact List.mem_map_of_mem ht'
          obtain ⟨i, hi, e⟩ := List.mem_map.mp h3
          have hi := List.mem_range.mp hi
          rw [← e]
          show 0 ≤ 16 - 8 * (i : Int) ∧ 16 - 8 * (i : Int) ≤ 1000000
          omega
        · exact hx0
      · exact List.mem_append_left _ (List.mem_cons_of_mem _ (List.mem_cons_of_mem _ (List.mem_append_right _ (by repeat (first | exact List.mem_cons_self | apply List.mem_cons_of_mem)))))
end
end Mine

-- B31
namespace Mine
open PySem PySem.Calls PyProof.Rows PySem.W

section
variable {prog : Program} {w : World} {A : Around} {F : Led} {K : Frag} {env : Env}

noncomputable def dictF (ns : List Int) : Str → Option (List Str) := fun k => if k ∈ pattsS ns then some (valS ns k) else none
theorem dictF_of {ns : List Int} {k : Str} (h : k ∈ pattsS ns) : dictF ns k = some (valS ns k) := if_pos h
noncomputable def inV (ns : List Int) (n : Str) : AV → Bool
  | .str q => (valS ns q).any (· == n)
  | _ => false
theorem inV_out (ns : List Int) (n : Str) : (((listedS ns).map AV.str).filter (inV ns n)).map id = ((listedS ns).filter fun q => (valS ns q).any (· == n)).map AV.str := by rw [List.map_id, List.filter_map]; rfl
noncomputable def heldV (ns : List Int) : AV → Bool
  | .str n => !decide (((listedS ns).filter fun q => (valS ns q).any (· == n)) = [])
  | _ => false
theorem heldV_out (ns : List Int) : (((namesS ns).map AV.str).filter (heldV ns)).map id = (heldS ns).map AV.str := by rw [List.map_id, List.filter_map]; rfl
noncomputable def notV (ns : List Int) : AV → Bool
  | .str n => !((heldS ns).any (· == n))
  | _ => false
theorem notV_out (ns : List Int) (l : List Str) : ((l.map AV.str).filter (notV ns)).map id = (l.filter fun n => !((heldS ns).any (· == n))).map AV.str := by rw [List.map_id, List.filter_map]; rfl
noncomputable def wholeV (ns : List Int) : AV → Bool
  | .str q => decide (((valS ns q).filter fun n => !((heldS ns).any (· == n))) = [])
  | _ => false
theorem wholeV_out (ns : List Int) : (((pattsS ns).map AV.str).filter (wholeV ns)).map id = (wholeS ns).map AV.str := by rw [List.map_id, List.filter_map]; rfl
theorem listed_patt {ns : List Int} {q : Str} (h : q ∈ listedS ns) : q ∈ pattsS ns := by
  obtain ⟨k, _, rfl⟩ := List.mem_map.mp h
  have e : tx (lsC ns k) = tx (mk3 (lsC ns k 0) (lsC ns k 1) (lsC ns k 2)) := rfl
  have hm : ∀ p, lsC ns k p ∈ P3 (prOf (codeOf ns) p) := fun p => by
    unfold lsC sg3 P3
    split
    · simp
    · split <;> simp
  rw [e]
  refine List.mem_map_of_mem ?_
  unfold pattsC all3
  exact List.mem_flatMap.mpr ⟨_, hm 0, List.mem_flatMap.mpr ⟨_, hm 1, List.mem_flatMap.mpr ⟨_, hm 2, List.mem_singleton.mpr rfl⟩⟩⟩
theorem ok_tx {c : Nat → Nat} (h : ∀ i, i < 3 → sq (c i)) : PyData.strOk (tx c) = true := by
  have e : ∀ {x}, sq x → decide (x < 0x110000) = true := fun h => by rcases h with (rfl | rfl | rfl | rfl) | rfl <;> decide
  simp only [PyData.strOk, tx]
  have h0 := e (h 0 (by decide)); have h1 := e (h 1 (by decide)); have h2 := e (h 2 (by decide))
  simp only [decide_eq_true_eq] at h0 h1 h2
  simp [h0, h1, h2]
theorem ok_patt {ns : List Int} {q : Str} (h : q ∈ pattsS ns) : PyData.strOk q = true := by
  obtain ⟨e, f⟩ := patt_facts h
  rw [← e]; exact ok_tx f
theorem ok_name {ns : List Int} {q : Str} (h : q ∈ namesS ns) : PyData.strOk q = true := by
  obtain ⟨c, hc, rfl⟩ := List.mem_map.mp h
  obtain ⟨x, y, z, hx, hy, hz, rfl⟩ := mem_all3 hc
  have e : ∀ {a : Nat × Nat} {x : Nat}, sg a.1 ∧ sg a.2 → x ∈ P2 a → sq x := fun h hx => by
    simp only [P2, List.mem_cons, List.not_mem_nil, or_false] at hx
    rcases hx with rfl | rfl
    · exact .inl h.1
    · exact .inl h.2
  refine ok_tx fun i hi => ?_
  exact lt3 (P := fun i : Nat => sq (mk3 x y z i)) hi (e (pr_ok _ _) hx) (e (pr_ok _ _) hy) (e (pr_ok _ _) hz)

set_option maxHeartbeats 8000000 in
theorem law_p3 (hh : A.handled = none) (hroom : A.depth + 4 < recursionLimit) (hu : A.units + 200 < cLine) {ns : List Int}
    (hx0 : ∀ k, ∀ a ∈ (traj (stepsI ns) (waitI ns) k).1, ∀ b ∈ (traj (stepsI ns) (waitI ns) k).2, 0 ≤ Builtin.bitXor a b) (hlen : (runC (stepsI ns) (waitI ns)).length < 64)
    {s₀ s : Shared} {L pa li na pl tk : Addr} {v6 : Option AV} (D : Gd (KK w) s₀.heap) (H : Has prog w F s₀.heap)
    (S : St prog w s₀ [(L, .nm [(Str.ofString "patterns", .ref pl)]), (pl, .lS (pattsS ns)), (L + 2, .ce (some (.ref pa))), (pa, .lS (pairsS ns)), (L + 3, .ce (some (.ref li))), (li, .lS (listedS ns)), (L + 5, .ce (some (.ref na))), (na, .lS (namesS ns)), (L + 6, .ce v6), (L + 7, .ce (some (.ref tk))), (tk, .dL (dictF ns)), (L + 8, .ce none), (L + 9, .ce none)] s) :
    wpAny (model prog w) (A.deeper (envOf (fdOf ((KK w).lookup 120)) L)) (execs ((bodyOf (fdOf ((KK w).lookup 120))).drop 7) (envOf (fdOf ((KK w).lookup 120)) L)) (fun fl s' => ∃ v, fl = .ret v ∧ (Res.av (.bool (lawB ns))).Is prog w s'.heap v ∧ Kp s₀ s') (fun _ _ => False) s := by
  show wpAny _ (A.deeper (callEnvC _ L 120)) (execs _ (callEnvC _ L 120)) _ _ _
  refine as_cellN (pre := [(L, _), (pl, _), (L + 2, _), (pa, _), (L + 3, _), (li, _), (L + 5, _), (na, _), (L + 6, _), (L + 7, _), (tk, _)]) (c := L + 8) (ent := .lS (heldS ns)) S D H (led6 (P := fun F => Xn prog w (KK w) _ _ F _ _) (a := (L + 5, .ce (some (.ref na)))) (b := (na, .lS (namesS ns))) (c := (L + 7, .ce (some (.ref tk)))) (d := (tk, .dL (dictF ns))) (e := (L + 3, .ce (some (.ref li)))) (f := (li, .lS (listedS ns))) (by repeat (first | exact List.mem_cons_self | apply List.mem_cons_of_mem)) (by repeat (first | exact List.mem_cons_self | apply List.mem_cons_of_mem)) (by repeat (first | exact List.mem_cons_self | apply List.mem_cons_of_mem)) (by repeat (first | exact List.mem_cons_self | apply List.mem_cons_of_mem)) (by repeat (first | exact List.mem_cons_self | apply List.mem_cons_of_mem)) (by repeat (first | exact List.mem_cons_self | apply List.mem_cons_of_mem)) fun F m1 m2 m3 m4 m5 m6 => Xn.toS (Xn.compC (its := (namesS ns).map AV.str) (p := heldV ns) (f := id) (cl := [(Str.ofString "taken", L + 7), (Str.ofString "listed", L + 3)]) hh (Ix.list (ent := .lS (namesS ns)) (Ex.c (L + 5)) ?_ rfl) (fun v hv C c => ?_) ?_ (by rfl) (fun n => by rfl) (fun h => by rfl) (by rfl) (fun C c => by rfl)) (heldV_out ns)) fun he s₂ S₂ => ?_
  · repeat (first | assumption | apply List.mem_cons_of_mem)
  · obtain ⟨n, hn, rfl⟩ := List.mem_map.mp hv
    refine ⟨Ts.one (Tx.neSN (ys := (listedS ns).filter fun q => (valS ns q).any (· == n)) (show A.units + 67 < cLine from dp hu (by decide)) (Xn.ex (Xn.toS (Xn.comp (its := (listedS ns).map AV.str) (cl := [(Str.ofString "taken", L + 7), (Str.ofString "name", c)]) (Ix.list (ent := .lS (listedS ns)) (Ex.c (L + 3)) ?_ rfl) (CL.one (p := inV ns n) (f := id) hh (fun v hv C' => ?_) (by show 4 ≤ 1000; decide))) (inV_out ns n))) Ex.nilS ?_), fun _ => Ex.c c⟩
    · repeat (first | assumption | apply List.mem_cons_of_mem)
    · obtain ⟨q, hq, rfl⟩ := List.mem_map.mp hv
      refine ⟨Ts.one (Tx.inN (x := n) (ys := valS ns q) (Ex.c c) (Ex.idxD (c := tk) (f := dictF ns) (x := q) (Ex.c (L + 7)) ?_ (Ex.l C') (dictF_of (listed_patt hq)))), fun _ => Ex.l C'⟩
      repeat (first | assumption | apply List.mem_cons_of_mem)
    · intro q hq
      exact ok_patt (listed_patt (List.mem_filter.mp hq).1)
  · exact ml (ml (len_names ns) (Nat.le_refl _)) (by decide)
  refine as_cellN (pre := [(L, _), (pl, _), (L + 2, _), (pa, _), (L + 3, _), (li, _), (L + 5, _), (na, _), (L + 6, _), (L + 7, _), (tk, _), (L + 8, _), (he, _)]) (c := L + 9) (post := []) (ent := .lS (wholeS ns)) S₂ D H (led6 (P := fun F => Xn prog w (KK w) _ _ F _ _) (a := (L, .nm [(Str.ofString "patterns", .ref pl)])) (b := (pl, .lS (pattsS ns))) (c := (L + 7, .ce (some (.ref tk)))) (d := (tk, .dL (dictF ns))) (e := (L + 8, .ce (some (.ref he)))) (f := (he, .lS (heldS ns))) (by repeat (first | exact List.mem_cons_self | apply List.mem_cons_of_mem)) (by repeat (first | exact List.mem_cons_self | apply List.mem_cons_of_mem)) (by repeat (first | exact List.mem_cons_self | apply List.mem_cons_of_mem)) (by repeat (first | exact List.mem_cons_self | apply List.mem_cons_of_mem)) (by repeat (first | exact List.mem_cons_self | apply List.mem_cons_of_mem)) (by repeat (first | exact List.mem_cons_self | apply List.mem_cons_of_mem)) fun F m1 m2 m3 m4 m5 m6 => Xn.toS (Xn.comp (its := (pattsS ns).map AV.str) (cl := [(Str.ofString "taken", L + 7), (Str.ofString "held", L + 8)]) (Ix.list (ent := .lS (pattsS ns)) (Ex.l L) ?_ rfl) (CL.one (p := wholeV ns) (f := id) hh (fun v hv C => ?_) ?_)) (wholeV_out ns)) fun wh s₃ S₃ => ?_
  · repeat (first | assumption | apply List.mem_cons_of_mem)
  · obtain ⟨q, hq, rfl⟩ := List.mem_map.mp hv
    refine ⟨Ts.one (Tx.eqSN (ys := (valS ns q).filter fun n => !((heldS ns).any (· == n))) (show A.units + 67 < cLine from dp hu (by decide)) (Xn.ex (Xn.toS (Xn.comp (its := (valS ns q).map AV.str) (cl := [(Str.ofString "held", L + 8)]) (Ix.new (ent := .lS (valS ns q)) (Ex.idxD (c := tk) (f := dictF ns) (x := q) (Ex.c (L + 7)) ?_ (Ex.l C) (dictF_of hq)) rfl) (CL.one (p := notV ns) (f := id) hh (fun v hv C' => ?_) ?_)) (notV_out ns _))) Ex.nilS ?_), fun _ => Ex.l C⟩
    · repeat (first | assumption | apply List.mem_cons_of_mem)
    · obtain ⟨n, hn, rfl⟩ := List.mem_map.mp hv
      refine ⟨Ts.one (Tx.notInL (x := n) (ys := heldS ns) (c := he) (Ex.l C') (Ex.c (L + 8)) ?_), fun _ => Ex.l C'⟩
      repeat (first | assumption | apply List.mem_cons_of_mem)
    · exact ml (Nat.le_trans (List.length_filter_le ..) (ml (len_names ns) (Nat.le_refl _))) (by decide)
    · intro n hn
      exact ok_name (List.mem_filter.mp (List.mem_filter.mp hn).1).1
  · rw [List.length_map]; exact len_patts ns
  refine as_new S₃ D H Xn.nilI fun we s₄ S₄ => ?_
  have S₅ := (S₄.wk (m' := [(Str.ofString "widest", .ref we)]) (Sub.cons mN Sub.nil)).drop (G' := (L, .nm [(Str.ofString "widest", .ref we)]) :: (we, .lI []) :: (L + 2, .ce (some (.ref pa))) :: (pa, .lS (pairsS ns)) :: (L + 3, .ce (some (.ref li))) :: (li, .lS (listedS ns)) :: (L + 6, .ce v6) :: (L + 9, .ce (some (.ref wh))) :: (wh, .lS (wholeS ns)) :: [])
    (.cons₂ _ (.cons₂ _ (.cons _ (.cons₂ _ (.cons₂ _ (.cons₂ _ (.cons₂ _ (.cons _ (.cons _ (.cons₂ _ (.cons _ (.cons _ (.cons _ (.cons _ (.cons₂ _ (.cons₂ _ .slnil))))))))))))))))
  exact law_p4 hh hroom hu hx0 hlen D H (S₅.perm (List.perm_middle (l₁ := [(L, Ent.nm [(Str.ofString "widest", AV.ref we)]), (we, Ent.lI []), (L + 2, Ent.ce (some (AV.ref pa))), (pa, Ent.lS (pairsS ns)), (L + 3, Ent.ce (some (AV.ref li))), (li, Ent.lS (listedS ns))])).symm)
end
end Mine

-- B32
namespace Mine
open PySem PySem.Calls PyProof.Rows PySem.W

section
variable {prog : Program} {w : World} {A : Around} {F : Led} {K : Frag} {env : Env}

set_option maxHeartbeats 8000000 in
theorem law_p2 (hh : A.handled = none) (hroom : A.depth + 4 < recursionLimit) (hu : A.units + 200 < cLine) {ns : List Int}
    (hx0 : ∀ k, ∀ a ∈ (traj (stepsI ns) (waitI ns) k).1, ∀ b ∈ (traj (stepsI ns) (waitI ns) k).2, 0 ≤ Builtin.bitXor a b) (hlen : (runC (stepsI ns) (waitI ns)).length < 64)
    {s₀ s : Shared} {L pa li : Addr} {m : List (Str × AV)} {v4 : Option AV} (D : Gd (KK w) s₀.heap) (H : Has prog w F s₀.heap)
    (T : St prog w s₀ [(L, .nm m), (L + 1, .ce (some (.int (codeOf ns)))), (L + 2, .ce (some (.ref pa))), (pa, .lS (pairsS ns)), (L + 3, .ce (some (.ref li))), (li, .lS (listedS ns)), (L + 4, .ce v4), (L + 5, .ce none), (L + 6, .ce none), (L + 7, .ce none), (L + 8, .ce none), (L + 9, .ce none)] s) :
    wpAny (model prog w) (A.deeper (envOf (fdOf ((KK w).lookup 120)) L)) (execs ((bodyOf (fdOf ((KK w).lookup 120))).drop 4) (envOf (fdOf ((KK w).lookup 120)) L)) (fun fl s' => ∃ v, fl = .ret v ∧ (Res.av (.bool (lawB ns))).Is prog w s'.heap v ∧ Kp s₀ s') (fun _ _ => False) s := by
  show wpAny _ (A.deeper (callEnvC _ L 120)) (execs _ (callEnvC _ L 120)) _ _ _
  refine as_cellN (pre := [(L, _), (L + 1, _), (L + 2, _), (pa, _), (L + 3, _), (li, _), (L + 4, _)]) (c := L + 5) (ent := .lS (namesS ns)) T D H (Xn.toS (Xn.comp (its := oneV (P2 (prOf (codeOf ns) 0))) (cl := [(Str.ofString "pairs", L + 2)]) ?_ ?_) (names_out ns)) fun na s₆ S₆ => ?_
  · exact (Iy.str (x := ptx (prOf (codeOf ns) 0)) (Ex.idxLS (c := pa) (ys := pairsS ns) (i := 0) (Ex.c (L + 2)) (by repeat (first | exact List.mem_cons_self | apply List.mem_cons_of_mem)) Ex.int (by decide) (by decide) rfl) (ascii2 (pr_ok _ _)) rfl).ix
  · refine CL.three (l0 := oneV (P2 (prOf (codeOf ns) 0))) (l1 := oneV (P2 (prOf (codeOf ns) 1))) (l2 := oneV (P2 (prOf (codeOf ns) 2))) (f := catV) hh (fun va _ C => ?_) (fun va _ vb _ C => ?_) (fun va ha vb hb vc hc C => ?_) (fun _ _ => rfl) (fun _ _ => rfl) (by show 2 ≤ 9; decide) (by show 2 ≤ 9; decide) (by show 2 ≤ 9; decide)
    · exact Iy.str (x := ptx (prOf (codeOf ns) 1)) (Ex.idxLS (c := pa) (ys := pairsS ns) (i := 1) (Ex.c (L + 2)) (by repeat (first | exact List.mem_cons_self | apply List.mem_cons_of_mem)) Ex.int (by decide) (by decide) rfl) (ascii2 (pr_ok _ _)) rfl
    · exact Iy.str (x := ptx (prOf (codeOf ns) 2)) (Ex.idxLS (c := pa) (ys := pairsS ns) (i := 2) (Ex.c (L + 2)) (by repeat (first | exact List.mem_cons_self | apply List.mem_cons_of_mem)) Ex.int (by decide) (by decide) rfl) (ascii2 (pr_ok _ _)) rfl
    · obtain ⟨x, _, rfl⟩ := one_mem ha
      obtain ⟨y, _, rfl⟩ := one_mem hb
      obtain ⟨z, _, rfl⟩ := one_mem hc
      exact Ex.addS (Ex.addS (Ex.l C) (Ex.l C) (by show 1 + 1 ≤ sizeLine; exact ok_size (by decide))) (Ex.l C) (by show 2 + 1 ≤ sizeLine; exact ok_size (by decide))
  refine as_comp (its := oneV (P3 (prOf (codeOf ns) 0))) (cl := [(Str.ofString "pairs", L + 2)]) (out := (pattsS ns).map AV.str) (ent := .lS (pattsS ns)) S₆ D H ?_ ?_ (fun {h a} x => lA_lS x) fun pl s₇ S₇ => ?_
  · exact (Iy.str (x := ptq (prOf (codeOf ns) 0)) (Ex.to (Ex.addS (Ex.idxLS (c := pa) (ys := pairsS ns) (i := 0) (Ex.c (L + 2)) (by repeat (first | exact List.mem_cons_self | apply List.mem_cons_of_mem)) Ex.int (by decide) (by decide) rfl) Ex.str (by show 2 + 1 ≤ sizeLine; exact ok_size (by decide))) rfl) (ascii3 (pr_ok _ _)) rfl).ix
  · rw [← patts_out]
    refine CL.three (l0 := oneV (P3 (prOf (codeOf ns) 0))) (l1 := oneV (P3 (prOf (codeOf ns) 1))) (l2 := oneV (P3 (prOf (codeOf ns) 2))) (f := catV) hh (fun va _ C => ?_) (fun va _ vb _ C => ?_) (fun va ha vb hb vc hc C => ?_) (fun _ _ => rfl) (fun _ _ => rfl) (by show 3 ≤ 9; decide) (by show 3 ≤ 9; decide) (by show 3 ≤ 9; decide)
    · exact Iy.str (x := ptq (prOf (codeOf ns) 1)) (Ex.to (Ex.addS (Ex.idxLS (c := pa) (ys := pairsS ns) (i := 1) (Ex.c (L + 2)) (by repeat (first | exact List.mem_cons_self | apply List.mem_cons_of_mem)) Ex.int (by decide) (by decide) rfl) Ex.str (by show 2 + 1 ≤ sizeLine; exact ok_size (by decide))) rfl) (ascii3 (pr_ok _ _)) rfl
    · exact Iy.str (x := ptq (prOf (codeOf ns) 2)) (Ex.to (Ex.addS (Ex.idxLS (c := pa) (ys := pairsS ns) (i := 2) (Ex.c (L + 2)) (by repeat (first | exact List.mem_cons_self | apply List.mem_cons_of_mem)) Ex.int (by decide) (by decide) rfl) Ex.str (by show 2 + 1 ≤ sizeLine; exact ok_size (by decide))) rfl) (ascii3 (pr_ok _ _)) rfl
    · obtain ⟨x, _, rfl⟩ := one_mem ha
      obtain ⟨y, _, rfl⟩ := one_mem hb
      obtain ⟨z, _, rfl⟩ := one_mem hc
      exact Ex.addS (Ex.addS (Ex.l C) (Ex.l C) (by show 1 + 1 ≤ sizeLine; exact ok_size (by decide))) (Ex.l C) (by show 2 + 1 ≤ sizeLine; exact ok_size (by decide))
  refine as_cellN (pre := [(L, _), (pl, _), (L + 1, _), (L + 2, _), (pa, _), (L + 3, _), (li, _), (L + 4, _), (L + 5, _), (na, _), (L + 6, _)]) (c := L + 7) (ent := .dL (dictF ns)) S₇ D H (Xn.dict (keys := pattsS ns) (val := valS ns) (cl := [(Str.ofString "names", L + 5)]) hh (Ix.list (ent := .lS (pattsS ns)) (Ex.l L) ?_ rfl) (fun k hk C => Ex.l C) (fun k hk C => ?_) (len_patts ns)) fun tk s₈ S₈ => ?_
  · repeat (first | exact List.mem_cons_self | apply List.mem_cons_of_mem)
  · obtain ⟨hkt, hks⟩ := patt_facts hk
    refine Xn.callF (f := 110) (Ex.glob (v := .ref 110) (by rfl) rfl) (by rfl) (Sx.cons (Ex.to (Ex.l C) (by rw [hkt])) (Sx.cons (Ex.c (L + 5)) Sx.nil)) (fx_taken (A := A.deeper _) (c := cof k) (nl := na) (ds := namesC ns) hh (show A.depth + 3 < _ from dp hroom (by decide)) hks ?_ (len_names ns))
    repeat (first | exact List.mem_cons_self | apply List.mem_cons_of_mem)
  have S₉ := (S₈.wk (m' := [(Str.ofString "patterns", .ref pl)]) (Sub.cons mN Sub.nil)).drop (G' := (L, .nm [(Str.ofString "patterns", .ref pl)]) :: (pl, .lS (pattsS ns)) :: (L + 2, .ce (some (.ref pa))) :: (pa, .lS (pairsS ns)) :: (L + 3, .ce (some (.ref li))) :: (li, .lS (listedS ns)) :: (L + 5, .ce (some (.ref na))) :: (na, .lS (namesS ns)) :: (L + 6, .ce none) :: (L + 7, .ce (some (.ref tk))) :: (tk, .dL (dictF ns)) :: (L + 8, .ce none) :: (L + 9, .ce none) :: [])
    (.cons₂ _ (.cons₂ _ (.cons _ (.cons₂ _ (.cons₂ _ (.cons₂ _ (.cons₂ _ (.cons _ (.cons₂ _ (.cons₂ _ (.cons₂ _ (.cons₂ _ (.cons₂ _ (.cons₂ _ (.cons₂ _ .slnil)))))))))))))))
  exact law_p3 hh hroom hu hx0 hlen D H S₉
end
end Mine

-- B33
namespace Mine
open PySem PySem.Calls PyProof.Rows PySem.W

section
variable {prog : Program} {w : World} {A : Around} {F : Led} {K : Frag} {env : Env}

set_option maxHeartbeats 8000000 in
theorem fx_law (hh : A.handled = none) (hroom : A.depth + 4 < recursionLimit) (hu : A.units + 200 < cLine) {sc : Addr} {ns : List Int} (hm : (sc, Ent.lI ns) ∈ F) (hz : ns.length ≤ 1000)
    (hx0 : ∀ k, ∀ a ∈ (traj (stepsI ns) (waitI ns) k).1, ∀ b ∈ (traj (stepsI ns) (waitI ns) k).2, 0 ≤ Builtin.bitXor a b) (hlen : (runC (stepsI ns) (waitI ns)).length < 64) :
    Fx prog w (KK w) A F (.ref 120) [.av (.ref sc)] (.av (.bool (lawB ns))) := by
  refine fun vs s E Q G H ha q => Fp.cells (P := fun s v s' => (Res.av (.bool (lawB ns))).Is prog w s'.heap v ∧ Kp s s') (as := [.ref sc]) [Str.ofString "script"] [Str.ofString "code", Str.ofString "pairs", Str.ofString "listed", Str.ofString "number", Str.ofString "names", Str.ofString "pattern", Str.ofString "taken", Str.ofString "held", Str.ofString "whole"] (by rfl) (by rfl) (dp0 hroom) (by rfl) (zip1 rfl fun _ => rfl) (by rfl) (by decide) (by rfl) (fun n => by rfl) (by decide) (by decide) (fun s₀ s₁ L S D H => ?_) (by rfl) (by rfl) (by rfl) vs s E Q G H ha fun v s' hv => q v s' hv.1 hv.2
  refine as_cell (pre := [(L, _)]) (c := L + 1) S D H (v := .int (codeOf ns)) (Ex.addI Ex.int (Ex.callB (Ex.blt (v := .builtin "sum") (r := .bi "sum") (by rfl) (by rfl) rfl) (Sx.cons (Ex.sliceI (c := sc) (ns := ns) (Ex.l L) (.tail _ (.tail _ (.tail _ (.tail _ (.tail _ (.tail _ (.tail _ (.tail _ (.tail _ (.tail _ hm)))))))))) (Ex.slice Px.none (Px.some (Ex.int (i := 24))) Px.none) (by decide) (Nat.le_trans hz (by decide))) Sx.nil) (fx_sum (A := A.deeper _) hh))) fun s₂ S₂ => ?_
  refine as_cellN (pre := [(L, _), (L + 1, _)]) (c := L + 2) (ent := .lS (pairsS ns)) S₂ D H (Xn.toS (l := (r3.filter fun _ => true).map (pairV ns)) (Xn.comp (its := r3) (cl := [(Str.ofString "code", L + 1)]) ?_ ?_) (pairs_out ns)) fun pa s₃ S₃ => ?_
  · exact (Iy.range (n := 3) (by decide) (Ex.blt (v := .type "range") (r := .ty "range") (by rfl) (by rfl) rfl) Ex.int).ix
  · refine CL.one (p := fun _ => true) (f := pairV ns) hh (fun v hv C => ⟨Ts.nil, fun _ => ?_⟩) (by decide)
    obtain ⟨i, hi, rfl⟩ := r3_mem hv
    have h6 := fmod_lt (a := (codeOf ns).fdiv (6 ^ i)) (b := 6) (by decide)
    refine Ex.idxTS (i := pidx (codeOf ns) i) (ys := [Str.ofString "7;", Str.ofString "7=", Str.ofString "7>", Str.ofString ";=", Str.ofString ";>", Str.ofString "=>"]) (Ex.tupS (Sx.cons Ex.str (Sx.cons Ex.str (Sx.cons Ex.str (Sx.cons Ex.str (Sx.cons Ex.str (Sx.cons Ex.str Sx.nil)))))) (by decide)) ?_ h6.1 (show pidx (codeOf ns) i < 1000 from Int.lt_trans h6.2 (by decide)) (six_get _ h6.1 h6.2)
    refine Ex.modI (Ex.divI (b := 6 ^ i) (Ex.c (L + 1)) (Ex.powI (a := 6) (b := i) Ex.int (Ex.l C) (i_nn i) (i_le hi (by decide)) (by decide)) ?_ ?_) Ex.int (by decide)
    · exact Int.ne_of_gt (Int.pow_pos (by decide))
    · exact lt3 (P := fun i : Nat => ((6 : Int) ^ i).natAbs < 1073741824) hi (by decide) (by decide) (by decide)
  refine as_cellN (pre := [(L, _), (L + 1, _), (L + 2, _), (pa, _)]) (c := L + 3) (ent := .lS []) S₃ D H Xn.nilS fun li s₄ S₄ => ?_
  refine for_core (L := L) (m := [(Str.ofString "script", .ref sc)]) (m₀ := [(Str.ofString "script", .ref sc)]) (its := r4) (F' := []) (fun j G' => ∃ v4, G' = [(L + 1, .ce (some (.int (codeOf ns)))), (L + 2, .ce (some (.ref pa))), (pa, .lS (pairsS ns)), (L + 3, .ce (some (.ref li))), (li, .lS ((listedS ns).take j)), (L + 4, .ce v4), (L + 5, .ce none), (L + 6, .ce none), (L + 7, .ce none), (L + 8, .ce none), (L + 9, .ce none)])
    (fun j => [(Str.ofString "k", r4[j]?.getD .none)]) hh D H S₄ (fun _ h => h) ⟨none, rfl⟩
    ?_ (fun _ _ _ p hp => absurd hp List.not_mem_nil)
    (fun I f j hj It => Binds.name (by rfl) (by rfl) (by rfl)) (fun j _ p hp q hq => by rw [List.mem_singleton] at hp hq; subst hp; subst hq; show Str.ofString "script" ≠ Str.ofString "k"; decide) ?_ ?_
  · intro E' Q' q
    exact Iy.range (n := 4) (by decide) (Ex.blt (v := .type "range") (r := .ty "range") (by rfl) (by rfl) rfl) Ex.int (by rfl) s₄ E' Q' (S₄.gd D) (S₄.all H) q
  · rintro j m' G' p s' E'' hj hm' hb ⟨v4, rfl⟩ hpd T
    have hj4 : j < 4 := hj
    have hk : (Str.ofString "k", AV.int j) ∈ m' := by have := hb _ List.mem_cons_self; rwa [r4_get hj4] at this
    have hs : (Str.ofString "script", AV.ref sc) ∈ m' := hm' _ List.mem_cons_self
    refine as_cell (pre := [(L, _), p, (L + 1, _), (L + 2, _), (pa, _), (L + 3, _), (li, _)]) (c := L + 4) T D H (v := .int (numOf ns j)) (Ex.addI (Ex.idxTI (ys := offs) (i := j) (Ex.tupI (Sx.cons Ex.int (Sx.cons Ex.int (Sx.cons Ex.int (Sx.cons Ex.int Sx.nil)))) (by decide)) (Ex.l L (hv := hk)) (i_nn j) (i_lt hj4 (by decide)) (offs_get hj4))
      (Ex.callB (Ex.blt (v := .builtin "sum") (r := .bi "sum") (by rfl) (by rfl) rfl) (Sx.cons (Ex.sliceI (c := sc) (ns := ns) (Ex.l L (hv := hs)) (by repeat (first | exact hm | apply List.mem_cons_of_mem)) (Ex.slice (Px.some (Ex.l L (hv := hk))) (Px.some (Ex.int (i := 24))) (Px.some (Ex.int (i := 4)))) (by decide) (Nat.le_trans hz (by decide))) Sx.nil) (fx_sum (A := A.deeper _) hh))) fun s₅ S₅ => ?_
    refine app_stmt (pre := [(L, _), p, (L + 1, _), (L + 2, _), (pa, _), (L + 3, _)]) (D := li) (ent := .lS ((listedS ns).take j)) (ent' := .lS ((listedS ns).take j ++ [tx (lsC ns j)])) (y := .str (tx (lsC ns j))) S₅ D H rfl (Ex.c (L + 3)) ?_ (fun q hq => ?_) (ml (List.length_take_le ..) (Nat.le_trans (Nat.le_of_lt hj4) (by decide))) hent_S fun s₆ S₆ => ?_
    · refine Ex.to (Ex.methS (x := Str.ofString "") Ex.str (Sx.cons (Xn.ex (Xn.toS (l := (r3.filter fun _ => true).map (signV ns j)) (Xn.comp (its := r3) (cl := [(Str.ofString "pairs", L + 2), (Str.ofString "number", L + 4)]) ?_ ?_) (sign_out ns j))) Sx.nil) (fx_join (by show 3 + 3 * 0 ≤ 16777216; decide)) PySem.F.slot_str_join PySem.F.type_str_join) (by rw [join3]; rfl)
      · exact (Iy.range (n := 3) (by decide) (Ex.blt (v := .type "range") (r := .ty "range") (by rfl) (by rfl) rfl) Ex.int).ix
      · refine CL.one (p := fun _ => true) (f := signV ns j) hh (fun v hv C => ⟨Ts.nil, fun _ => ?_⟩) (by decide)
        obtain ⟨i, hi, rfl⟩ := r3_mem hv
        have h3 := fmod_lt (a := (numOf ns j).fdiv (3 ^ i)) (b := 3) (by decide)
        refine Ex.idxS (x := ptq (prOf (codeOf ns) i)) (i := dgOf (numOf ns j) i) (Ex.addS (x := ptx (prOf (codeOf ns) i)) (y := Str.ofString "?") (Ex.idxLS (c := pa) (ys := pairsS ns) (i := i) (Ex.c (L + 2)) (by repeat (first | exact List.mem_cons_self | apply List.mem_cons_of_mem)) (Ex.l C) (i_nn i) (i_lt hi (by decide)) (pairs_get ns hi)) Ex.str (by show 2 + 1 ≤ sizeLine; exact ok_size (by decide))) ?_ h3.1 (show dgOf (numOf ns j) i < 1000 from Int.lt_trans h3.2 (by decide)) (ptq_get _ _ h3.1 h3.2)
        refine Ex.modI (Ex.divI (b := 3 ^ i) (Ex.c (L + 4)) (Ex.powI (a := 3) (b := i) Ex.int (Ex.l C) (i_nn i) (i_le hi (by decide)) (by decide)) ?_ ?_) Ex.int (by decide)
        · exact Int.ne_of_gt (Int.pow_pos (by decide))
        · exact lt3 (P := fun i : Nat => ((3 : Int) ^ i).natAbs < 1073741824) hi (by decide) (by decide) (by decide)
    · exact nd_cons rfl (nd_cons hpd (nd_cons rfl (nd_cons rfl (nd_cons rfl (nd_cons rfl (nd_cons rfl (nd_cons rfl (nd_cons rfl (nd_cons rfl (nd_cons rfl (nd_cons rfl nd_nil))))))))))) q hq
    · refine wpAny_execs_nil ⟨rfl, m', _, hm', ⟨some (.int (numOf ns j)), rfl⟩, ?_⟩
      rw [take_listed ns hj4]
      exact S₆
  · rintro m' G' s₅ hm' ⟨v4, rfl⟩ T
    replace T : St prog w s₀ [(L, .nm m'), (L + 1, .ce (some (.int (codeOf ns)))), (L + 2, .ce (some (.ref pa))), (pa, .lS (pairsS ns)), (L + 3, .ce (some (.ref li))), (li, .lS (listedS ns)), (L + 4, .ce v4), (L + 5, .ce none), (L + 6, .ce none), (L + 7, .ce none), (L + 8, .ce none), (L + 9, .ce none)] s₅ := T
    exact law_p2 hh hroom hu hx0 hlen D H T
end
end Mine

-- C1
namespace Mine

/-! the plain law: cubes of three places, each 0, 1 or 2 (free) -/
noncomputable abbrev Cu := Fin 3 × Fin 3 × Fin 3
noncomputable def cov1 (x y : Fin 3) : Bool := x == 2 || x == y
noncomputable def cov (a b : Cu) : Bool := cov1 a.1 b.1 && (cov1 a.2.1 b.2.1 && cov1 a.2.2 b.2.2)
noncomputable def opp1 (x y : Fin 3) : Bool := (x == 0 && y == 1) || (x == 1 && y == 0)
noncomputable def meet1 (x y : Fin 3) : Fin 3 := if x == 2 then y else x
noncomputable def getp (a : Cu) (p : Nat) : Fin 3 := if p = 0 then a.1 else if p = 1 then a.2.1 else a.2.2
noncomputable def oppL (a b : Cu) : List Nat := [0, 1, 2].filter fun p => opp1 (getp a p) (getp b p)
noncomputable def consQ (a b : Cu) (p : Nat) : Cu := (if p = 0 then 2 else meet1 a.1 b.1, if p = 1 then 2 else meet1 a.2.1 b.2.1, if p = 2 then 2 else meet1 a.2.2 b.2.2)
noncomputable def vert (a : Cu) : Bool := a.1 != 2 && (a.2.1 != 2 && a.2.2 != 2)

noncomputable def joinQ (row : Cu) (ws : List Cu) (o : Cu) : List Cu := if (((oppL row o).length : Int) == 1 && decide ((ws.length : Int) < 400)) = true then ws ++ [consQ row o ((oppL row o).headD 0)] else ws
noncomputable def stepQ (st : List Cu × List Cu) (k : Nat) : List Cu × List Cu :=
  match st.1[k]? with
  | none => st
  | some row => if decide ((st.2.filter fun o => cov o row) = []) = true then ((st.2.filter fun o => !cov row o).foldl (joinQ row) st.1, (st.2.filter fun o => !cov row o) ++ [row]) else st
noncomputable def trajQ (w0 : List Cu) : Nat → List Cu × List Cu
  | 0 => (w0, [])
  | k + 1 => stepQ (trajQ w0 k) k

theorem cov1_refl (x : Fin 3) : cov1 x x = true := by revert x; decide
theorem cov1_trans {x y z : Fin 3} : cov1 x y = true → cov1 y z = true → cov1 x z = true := by revert x y z; decide
theorem cov1_anti {x y : Fin 3} : cov1 x y = true → cov1 y x = true → x = y := by revert x y; decide
theorem cov_iff {a b : Cu} : cov a b = true ↔ cov1 a.1 b.1 = true ∧ cov1 a.2.1 b.2.1 = true ∧ cov1 a.2.2 b.2.2 = true := by simp [cov]
theorem cov_refl (a : Cu) : cov a a = true := cov_iff.mpr ⟨cov1_refl _, cov1_refl _, cov1_refl _⟩
theorem cov_trans {a b c : Cu} (h : cov a b = true) (g : cov b c = true) : cov a c = true := by
  rw [cov_iff] at *
  exact ⟨cov1_trans h.1 g.1, cov1_trans h.2.1 g.2.1, cov1_trans h.2.2 g.2.2⟩
theorem cov_anti {a b : Cu} (h : cov a b = true) (g : cov b a = true) : a = b := by
  rw [cov_iff] at *
  exact Prod.ext (cov1_anti h.1 g.1) (Prod.ext (cov1_anti h.2.1 g.2.1) (cov1_anti h.2.2 g.2.2))

noncomputable def impl (w0 : List Cu) (c : Cu) : Prop := ∀ v, vert v = true → cov c v = true → ∃ w, w ∈ w0 ∧ cov w v = true
theorem impl_down {w0 : List Cu} {a b : Cu} (h : impl w0 a) (g : cov a b = true) : impl w0 b := fun v hv hc => h v hv (cov_trans g hc)

theorem meet_both {a b v : Fin 3} : opp1 a b = false → cov1 (meet1 a b) v = true → cov1 a v = true ∧ cov1 b v = true := by revert a b v; decide
theorem opp_one {a b v : Fin 3} : opp1 a b = true → (v != 2) = true → cov1 a v = true ∨ cov1 b v = true := by revert a b v; decide
theorem meet_cov {a b y : Fin 3} : cov1 a y = true → cov1 b y = true → opp1 a b = false ∧ cov1 (meet1 a b) y = true := by revert a b y; decide
theorem opp_comm {a b : Fin 3} : opp1 a b = opp1 b a := by revert a b; decide
theorem meet_comm {a b : Fin 3} : opp1 a b = false → meet1 a b = meet1 b a := by revert a b; decide

/- the one place where two cubes stand apart -/
theorem oppL_one {a b : Cu} {p : Nat} (h : oppL a b = [p]) : (p = 0 ∧ opp1 a.1 b.1 = true ∧ opp1 a.2.1 b.2.1 = false ∧ opp1 a.2.2 b.2.2 = false) ∨ (p = 1 ∧ opp1 a.1 b.1 = false ∧ opp1 a.2.1 b.2.1 = true ∧ opp1 a.2.2 b.2.2 = false) ∨ (p = 2 ∧ opp1 a.1 b.1 = false ∧ opp1 a.2.1 b.2.1 = false ∧ opp1 a.2.2 b.2.2 = true) := by
  unfold oppL getp at h
  cases h0 : opp1 a.1 b.1 <;> cases h1 : opp1 a.2.1 b.2.1 <;> cases h2 : opp1 a.2.2 b.2.2 <;> simp [List.filter_cons, h0, h1, h2] at h ⊢ <;> exact h.symm
theorem oppL_of0 {a b : Cu} (h0 : opp1 a.1 b.1 = true) (h1 : opp1 a.2.1 b.2.1 = false) (h2 : opp1 a.2.2 b.2.2 = false) : oppL a b = [0] := by simp [oppL, getp, List.filter_cons, h0, h1, h2]
theorem oppL_of1 {a b : Cu} (h0 : opp1 a.1 b.1 = false) (h1 : opp1 a.2.1 b.2.1 = true) (h2 : opp1 a.2.2 b.2.2 = false) : oppL a b = [1] := by simp [oppL, getp, List.filter_cons, h0, h1, h2]
theorem oppL_of2 {a b : Cu} (h0 : opp1 a.1 b.1 = false) (h1 : opp1 a.2.1 b.2.1 = false) (h2 : opp1 a.2.2 b.2.2 = true) : oppL a b = [2] := by simp [oppL, getp, List.filter_cons, h0, h1, h2]
theorem oppL_comm (a b : Cu) : oppL a b = oppL b a := by
  unfold oppL
  congr 1
  funext p
  exact opp_comm
theorem consQ_comm {a b : Cu} {p : Nat} (h : oppL a b = [p]) : consQ a b p = consQ b a p := by
  rcases oppL_one h with ⟨rfl, h0, h1, h2⟩ | ⟨rfl, h0, h1, h2⟩ | ⟨rfl, h0, h1, h2⟩
  · simp [consQ, meet_comm h1, meet_comm h2]
  · simp [consQ, meet_comm h0, meet_comm h2]
  · simp [consQ, meet_comm h0, meet_comm h1]

theorem consQ_impl {w0 : List Cu} {a b : Cu} {p : Nat} (h : oppL a b = [p]) (ha : impl w0 a) (hb : impl w0 b) : impl w0 (consQ a b p) := by
  intro v hv hc
  have hv' : (v.1 != 2) = true ∧ (v.2.1 != 2) = true ∧ (v.2.2 != 2) = true := by simpa [vert] using hv
  rw [cov_iff] at hc
  rcases oppL_one h with ⟨rfl, h0, h1, h2⟩ | ⟨rfl, h0, h1, h2⟩ | ⟨rfl, h0, h1, h2⟩
  · have m1 := meet_both h1 (by simpa [consQ] using hc.2.1)
    have m2 := meet_both h2 (by simpa [consQ] using hc.2.2)
    rcases opp_one h0 hv'.1 with g | g
    · exact ha v hv (cov_iff.mpr ⟨g, m1.1, m2.1⟩)
    · exact hb v hv (cov_iff.mpr ⟨g, m1.2, m2.2⟩)
  · have m1 := meet_both h0 (by simpa [consQ] using hc.1)
    have m2 := meet_both h2 (by simpa [consQ] using hc.2.2)
    rcases opp_one h1 hv'.2.1 with g | g
    · exact ha v hv (cov_iff.mpr ⟨m1.1, g, m2.1⟩)
    · exact hb v hv (cov_iff.mpr ⟨m1.2, g, m2.2⟩)
  · have m1 := meet_both h0 (by simpa [consQ] using hc.1)
    have m2 := meet_both h1 (by simpa [consQ] using hc.2.1)
    rcases opp_one h2 hv'.2.2 with g | g
    · exact ha v hv (cov_iff.mpr ⟨m1.1, m2.1, g⟩)
    · exact hb v hv (cov_iff.mpr ⟨m1.2, m2.2, g⟩)

theorem split1 {x : Fin 3} : cov1 x 0 = true → cov1 x 2 = true ∨ x = 0 := by revert x; decide
theorem split2 {x : Fin 3} : cov1 x 1 = true → cov1 x 2 = true ∨ x = 1 := by revert x; decide

/- two halves of a cube, each within one of two cubes -/
theorem halves0 {a b : Cu} {y z : Fin 3} (h0 : cov a (0, y, z) = true) (h1 : cov b (1, y, z) = true) : cov a (2, y, z) = true ∨ cov b (2, y, z) = true ∨ (oppL a b = [0] ∧ cov (consQ a b 0) (2, y, z) = true) := by
  rw [cov_iff] at h0 h1
  dsimp only at h0 h1
  rcases split1 h0.1 with e | e
  · exact .inl (cov_iff.mpr ⟨e, h0.2⟩)
  rcases split2 h1.1 with e' | e'
  · exact .inr (.inl (cov_iff.mpr ⟨e', h1.2⟩))
  have m1 := meet_cov h0.2.1 h1.2.1
  have m2 := meet_cov h0.2.2 h1.2.2
  exact .inr (.inr ⟨oppL_of0 (by rw [e, e']; rfl) m1.1 m2.1, cov_iff.mpr ⟨by simp [consQ, cov1], by simpa [consQ] using m1.2, by simpa [consQ] using m2.2⟩⟩)
theorem halves1 {a b : Cu} {x z : Fin 3} (h0 : cov a (x, 0, z) = true) (h1 : cov b (x, 1, z) = true) : cov a (x, 2, z) = true ∨ cov b (x, 2, z) = true ∨ (oppL a b = [1] ∧ cov (consQ a b 1) (x, 2, z) = true) := by
  rw [cov_iff] at h0 h1
  dsimp only at h0 h1
  rcases split1 h0.2.1 with e | e
  · exact .inl (cov_iff.mpr ⟨h0.1, e, h0.2.2⟩)
  rcases split2 h1.2.1 with e' | e'
  · exact .inr (.inl (cov_iff.mpr ⟨h1.1, e', h1.2.2⟩))
  have m1 := meet_cov h0.1 h1.1
  have m2 := meet_cov h0.2.2 h1.2.2
  exact .inr (.inr ⟨oppL_of1 m1.1 (by rw [e, e']; rfl) m2.1, cov_iff.mpr ⟨by simpa [consQ] using m1.2, by simp [consQ, cov1], by simpa [consQ] using m2.2⟩⟩)
theorem halves2 {a b : Cu} {x y : Fin 3} (h0 : cov a (x, y, 0) = true) (h1 : cov b (x, y, 1) = true) : cov a (x, y, 2) = true ∨ cov b (x, y, 2) = true ∨ (oppL a b = [2] ∧ cov (consQ a b 2) (x, y, 2) = true) := by
  rw [cov_iff] at h0 h1
  dsimp only at h0 h1
  rcases split1 h0.2.2 with e | e
  · exact .inl (cov_iff.mpr ⟨h0.1, h0.2.1, e⟩)
  rcases split2 h1.2.2 with e' | e'
  · exact .inr (.inl (cov_iff.mpr ⟨h1.1, h1.2.1, e'⟩))
  have m1 := meet_cov h0.1 h1.1
  have m2 := meet_cov h0.2.1 h1.2.1
  exact .inr (.inr ⟨oppL_of2 m1.1 m2.1 (by rw [e, e']; rfl), cov_iff.mpr ⟨by simpa [consQ] using m1.2, by simpa [consQ] using m2.2, by simp [consQ, cov1]⟩⟩)

theorem not2 {x : Fin 3} : x ≠ 2 → (x != 2) = true := by revert x; decide
theorem two_cov (y : Fin 3) : cov1 2 y = true := by revert y; decide

/- Quine: a list that is closed takes every implicant -/
theorem quine {w0 D : List Cu} (hw : ∀ w ∈ w0, ∃ d ∈ D, cov d w = true) (hc : ∀ a ∈ D, ∀ b ∈ D, ∀ p, oppL a b = [p] → ∃ d ∈ D, cov d (consQ a b p) = true) (c : Cu) (h : impl w0 c) : ∃ d ∈ D, cov d c = true := by
  have base : ∀ c, vert c = true → impl w0 c → ∃ d ∈ D, cov d c = true := fun c hv h => by
    obtain ⟨w, hw', hcw⟩ := h c hv (cov_refl c)
    obtain ⟨d, hd, hdw⟩ := hw w hw'
    exact ⟨d, hd, cov_trans hdw hcw⟩
  have s0 : ∀ y z, (∃ d ∈ D, cov d (0, y, z) = true) → (∃ d ∈ D, cov d (1, y, z) = true) → ∃ d ∈ D, cov d (2, y, z) = true := fun y z ⟨a, ha, h0⟩ ⟨b, hb, h1⟩ => by
    rcases halves0 h0 h1 with e | e | ⟨e, e'⟩
    · exact ⟨a, ha, e⟩
    · exact ⟨b, hb, e⟩
    · obtain ⟨d, hd, hh⟩ := hc a ha b hb 0 e
      exact ⟨d, hd, cov_trans hh e'⟩
  have s1 : ∀ x z, (∃ d ∈ D, cov d (x, 0, z) = true) → (∃ d ∈ D, cov d (x, 1, z) = true) → ∃ d ∈ D, cov d (x, 2, z) = true := fun x z ⟨a, ha, h0⟩ ⟨b, hb, h1⟩ => by
    rcases halves1 h0 h1 with e | e | ⟨e, e'⟩
    · exact ⟨a, ha, e⟩
    · exact ⟨b, hb, e⟩
    · obtain ⟨d, hd, hh⟩ := hc a ha b hb 1 e
      exact ⟨d, hd, cov_trans hh e'⟩
  have s2 : ∀ x y, (∃ d ∈ D, cov d (x, y, 0) = true) → (∃ d ∈ D, cov d (x, y, 1) = true) → ∃ d ∈ D, cov d (x, y, 2) = true := fun x y ⟨a, ha, h0⟩ ⟨b, hb, h1⟩ => by
    rcases halves2 h0 h1 with e | e | ⟨e, e'⟩
    · exact ⟨a, ha, e⟩
    · exact ⟨b, hb, e⟩
    · obtain ⟨d, hd, hh⟩ := hc a ha b hb 2 e
      exact ⟨d, hd, cov_trans hh e'⟩
  have l2 : ∀ x y z : Fin 3, x ≠ 2 → y ≠ 2 → impl w0 (x, y, z) → ∃ d ∈ D, cov d (x, y, z) = true := fun x y z hx hy h => by
    by_cases hz : z = 2
    · subst hz
      refine s2 x y (base _ ?_ (impl_down h ?_)) (base _ ?_ (impl_down h ?_))
      · simp [vert, not2 hx, not2 hy]
      · exact cov_iff.mpr ⟨cov1_refl _, cov1_refl _, two_cov _⟩
      · simp [vert, not2 hx, not2 hy]
      · exact cov_iff.mpr ⟨cov1_refl _, cov1_refl _, two_cov _⟩
    · exact base _ (by simp [vert, not2 hx, not2 hy, not2 hz]) h
  have l1 : ∀ x y z : Fin 3, x ≠ 2 → impl w0 (x, y, z) → ∃ d ∈ D, cov d (x, y, z) = true := fun x y z hx h => by
    by_cases hy : y = 2
    · subst hy
      refine s1 x z (l2 _ _ _ hx (by decide) (impl_down h ?_)) (l2 _ _ _ hx (by decide) (impl_down h ?_))
      · exact cov_iff.mpr ⟨cov1_refl _, two_cov _, cov1_refl _⟩
      · exact cov_iff.mpr ⟨cov1_refl _, two_cov _, cov1_refl _⟩
    · exact l2 _ _ _ hx hy h
  obtain ⟨x, y, z⟩ := c
  by_cases hx : x = 2
  · subst hx
    refine s0 y z (l1 _ _ _ (by decide) (impl_down h ?_)) (l1 _ _ _ (by decide) (impl_down h ?_))
    · exact cov_iff.mpr ⟨two_cov _, cov1_refl _, cov1_refl _⟩
    · exact cov_iff.mpr ⟨two_cov _, cov1_refl _, cov1_refl _⟩
  · exact l1 _ _ _ hx h
end Mine

-- C2
namespace Mine

noncomputable def allQ : List Cu := [0, 1, 2].flatMap fun x => [0, 1, 2].flatMap fun y => [0, 1, 2].flatMap fun z => [(x, y, z)]
theorem mem_allQ (q : Cu) : q ∈ allQ := by
  have : ∀ x y z : Fin 3, (x, y, z) ∈ allQ := by decide
  exact this q.1 q.2.1 q.2.2
theorem allQ_nd : allQ.Nodup := by decide
noncomputable def cvd (D : List Cu) : List Cu := allQ.filter fun q => D.any fun d => cov d q
theorem cvd_le (D : List Cu) : (cvd D).length ≤ 27 := List.length_filter_le ..

theorem filter_two {α : Type} {p q : α → Bool} (h : ∀ x, p x = true → q x = true) (l : List α) : l.filter p = (l.filter q).filter p := by
  rw [List.filter_filter]
  refine List.filter_congr fun x _ => ?_
  cases hx : p x with
  | false => rfl
  | true => exact (h x hx).symm
theorem filter_le {α : Type} {p q : α → Bool} (h : ∀ x, p x = true → q x = true) (l : List α) : (l.filter p).length ≤ (l.filter q).length := by
  rw [filter_two h]; exact List.length_filter_le ..
theorem filter_lt {α : Type} {p q : α → Bool} (h : ∀ x, p x = true → q x = true) {x : α} (hp : p x = false) (hq : q x = true) (l : List α) (hm : x ∈ l) : (l.filter p).length + 1 ≤ (l.filter q).length := by
  rw [filter_two h]; exact List.length_filter_lt_length_iff_exists.mpr ⟨x, List.mem_filter.mpr ⟨hm, hq⟩, by rw [hp]; exact Bool.false_ne_true⟩

theorem joinQ_one {row o : Cu} {ws : List Cu} {p : Nat} (hp : oppL row o = [p]) (h : ws.length < 400) : joinQ row ws o = ws ++ [consQ row o p] := by
  unfold joinQ
  rw [hp, if_pos]
  · rfl
  · rw [decide_eq_true (show (ws.length : Int) < 400 from Int.ofNat_lt.mpr h)]; rfl
theorem joinQ_not {row o : Cu} {ws : List Cu} (hp : ¬ ∃ p, oppL row o = [p]) : joinQ row ws o = ws := by
  unfold joinQ
  rw [if_neg]
  intro h
  rw [Bool.and_eq_true] at h
  exact hp (List.length_eq_one_iff.mp (Int.ofNat.inj (eq_of_beq h.1)))
theorem foldQ (row : Cu) : ∀ (l ws : List Cu), ws.length + l.length < 400 → ∃ ext, l.foldl (joinQ row) ws = ws ++ ext ∧ ext.length ≤ l.length ∧ (∀ o ∈ l, ∀ p, oppL row o = [p] → consQ row o p ∈ ext) ∧ (∀ e ∈ ext, ∃ o ∈ l, ∃ p, oppL row o = [p] ∧ e = consQ row o p) := by
  intro l
  induction l with
  | nil => exact fun ws _ => ⟨[], (List.append_nil ws).symm, Nat.le_refl _, fun _ h => absurd h List.not_mem_nil, fun _ h => absurd h List.not_mem_nil⟩
  | cons o l ih =>
    intro ws hl
    rw [List.length_cons] at hl
    by_cases hp : ∃ p, oppL row o = [p]
    · obtain ⟨p, hp⟩ := hp
      obtain ⟨ext, e1, e2, e3, e4⟩ := ih (ws ++ [consQ row o p]) (by rw [List.length_append]; exact Nat.lt_of_le_of_lt (by show ws.length + 1 + l.length ≤ ws.length + (l.length + 1); omega) hl)
      refine ⟨consQ row o p :: ext, ?_, Nat.succ_le_succ e2, fun o' ho' p' hp' => ?_, fun e he => ?_⟩
      · rw [List.foldl_cons, joinQ_one hp (Nat.lt_of_le_of_lt (Nat.le_add_right _ _) hl), e1, List.append_assoc]; rfl
      · rcases List.mem_cons.mp ho' with rfl | ho'
        · rw [hp] at hp'; cases hp'; exact List.mem_cons_self
        · exact List.mem_cons_of_mem _ (e3 o' ho' p' hp')
      · rcases List.mem_cons.mp he with rfl | he
        · exact ⟨o, List.mem_cons_self, p, hp, rfl⟩
        · obtain ⟨o', a, b⟩ := e4 e he
          exact ⟨o', List.mem_cons_of_mem _ a, b⟩
    · obtain ⟨ext, e1, e2, e3, e4⟩ := ih ws (Nat.lt_of_succ_lt hl)
      refine ⟨ext, ?_, Nat.le_succ_of_le e2, fun o' ho' p' hp' => ?_, fun e he => ?_⟩
      · rw [List.foldl_cons, joinQ_not hp, e1]
      · rcases List.mem_cons.mp ho' with rfl | ho'
        · exact absurd ⟨p', hp'⟩ hp
        · exact e3 o' ho' p' hp'
      · obtain ⟨o', a, b⟩ := e4 e he
        exact ⟨o', List.mem_cons_of_mem _ a, b⟩

structure Inv (w0 W D : List Cu) (k : Nat) : Prop where
  imp : ∀ w ∈ W, impl w0 w
  sub : ∀ d ∈ D, d ∈ W
  anti : ∀ a ∈ D, ∀ b ∈ D, cov a b = true → a = b
  nd : D.Nodup
  fin : ∀ i, i < k → ∀ q, W[i]? = some q → ∃ d ∈ D, cov d q = true
  clo : ∀ a ∈ D, ∀ b ∈ D, ∀ p, oppL a b = [p] → consQ a b p ∈ W
  pre : ∀ w ∈ w0, w ∈ W
  len1 : D.length ≤ (cvd D).length
  len2 : 2 * W.length + (cvd D).length ≤ 8 + (cvd D).length * (cvd D).length

theorem Inv.start {w0 : List Cu} (h : w0.length = 4) : Inv w0 w0 [] 0 where
  imp := fun w hw v _ hc => ⟨w, hw, hc⟩
  sub := fun _ h => absurd h List.not_mem_nil
  anti := fun _ h => absurd h List.not_mem_nil
  nd := List.nodup_nil
  fin := fun _ h => absurd h (Nat.not_lt_zero _)
  clo := fun _ h => absurd h List.not_mem_nil
  pre := fun _ h => h
  len1 := Nat.zero_le _
  len2 := by
    have : (cvd []).length = 0 := by decide
    rw [this, h]; decide
theorem Inv.w {w0 W D : List Cu} {k : Nat} (I : Inv w0 W D k) : W.length ≤ 355 := by
  have h1 := I.len2
  have h2 := cvd_le D
  have h3 : (cvd D).length * (cvd D).length ≤ 27 * (cvd D).length := Nat.mul_le_mul_right _ h2
  omega
theorem opp_self (x : Fin 3) : opp1 x x = false := by revert x; decide
theorem oppL_self (a : Cu) : oppL a a = [] := by simp [oppL, opp_self]

theorem sq_step {W E D c c' : Nat} (h : 2 * W + c ≤ 8 + c * c) (e : E ≤ D) (hl : D ≤ c) (hc : c + 1 ≤ c') : 2 * (W + E) + c' ≤ 8 + c' * c' := by
  obtain ⟨d, rfl⟩ : ∃ d, c' = d + 1 := ⟨c' - 1, by omega⟩
  have h3 : c * c ≤ d * d := Nat.mul_self_le_mul_self (Nat.le_of_succ_le_succ hc)
  have h4 : (d + 1) * (d + 1) = d * d + 2 * d + 1 := by rw [Nat.add_mul, Nat.mul_add]; omega
  rw [h4]
  omega
theorem Inv.step {w0 W D : List Cu} {k : Nat} (I : Inv w0 W D k) : Inv w0 (stepQ (W, D) k).1 (stepQ (W, D) k).2 (k + 1) := by
  unfold stepQ
  dsimp only
  cases hr : W[k]? with
  | none =>
    dsimp only
    have f : ∀ i, i < k + 1 → ∀ q, W[i]? = some q → ∃ d ∈ D, cov d q = true := fun i hi q hq => by
      rcases Nat.lt_succ_iff_lt_or_eq.mp hi with h | rfl
      · exact I.fin i h q hq
      · rw [hr] at hq; cases hq
    exact { I with fin := f }
  | some row =>
    dsimp only
    have hkl : k < W.length := (List.getElem?_eq_some_iff.mp hr).1
    have hrow : row ∈ W := List.mem_of_getElem? hr
    by_cases hd : D.filter (fun o => cov o row) = []
    · rw [if_pos (decide_eq_true hd)]
      dsimp only
      have hno : ∀ d ∈ D, cov d row = false := fun d hd' => by
        have := List.filter_eq_nil_iff.mp hd d hd'
        simpa using this
      have hlw := I.w
      have hdl : (D.filter fun o => !cov row o).length ≤ D.length := List.length_filter_le ..
      have hc27 := cvd_le D
      have hl1 := I.len1
      obtain ⟨ext, e1, e2, e3, e4⟩ := foldQ row (D.filter fun o => !cov row o) W (Nat.lt_of_le_of_lt (Nat.add_le_add hlw (Nat.le_trans hdl (Nat.le_trans hl1 hc27))) (by decide))
      rw [e1]
      have hmf : ∀ {d}, d ∈ D.filter (fun o => !cov row o) ↔ d ∈ D ∧ cov row d = false := fun {d} => by rw [List.mem_filter]; simp
      have hc : (cvd D).length + 1 ≤ (cvd ((D.filter fun o => !cov row o) ++ [row])).length := by
        refine filter_lt (fun x hx => ?_) (x := row) ?_ ?_ allQ (mem_allQ row)
        · obtain ⟨d, hd1, hd2⟩ := List.any_eq_true.mp hx
          cases hrd : cov row d with
          | true => exact List.any_eq_true.mpr ⟨row, by simp, cov_trans hrd hd2⟩
          | false => exact List.any_eq_true.mpr ⟨d, List.mem_append_left _ (hmf.mpr ⟨hd1, hrd⟩), hd2⟩
        · rw [List.any_eq_false]
          intro d hd'
          simp [hno d hd']
        · exact List.any_eq_true.mpr ⟨row, by simp, cov_refl row⟩
      refine ⟨fun q hq => ?_, fun d hd' => ?_, fun a ha b hb hab => ?_, ?_, fun i hi q hq => ?_, fun a ha b hb p hp => ?_, fun q hq => List.mem_append_left _ (I.pre q hq), ?_, ?_⟩
      · rcases List.mem_append.mp hq with hq | hq
        · exact I.imp q hq
        · obtain ⟨o, ho, p, hp, rfl⟩ := e4 q hq
          exact consQ_impl hp (I.imp row hrow) (I.imp o (I.sub o (hmf.mp ho).1))
      · rcases List.mem_append.mp hd' with h | h
        · exact List.mem_append_left _ (I.sub d (hmf.mp h).1)
        · rw [List.mem_singleton] at h; subst h; exact List.mem_append_left _ hrow
      · rcases List.mem_append.mp ha with ha | ha <;> rcases List.mem_append.mp hb with hb | hb
        · exact I.anti a (hmf.mp ha).1 b (hmf.mp hb).1 hab
        · rw [List.mem_singleton] at hb; subst hb
          rw [hno a (hmf.mp ha).1] at hab; cases hab
        · rw [List.mem_singleton] at ha; subst ha
          rw [(hmf.mp hb).2] at hab; cases hab
        · rw [List.mem_singleton] at ha hb; rw [ha, hb]
      · rw [List.nodup_append]
        refine ⟨List.Nodup.sublist List.filter_sublist I.nd, by simp, fun a ha b hb q => ?_⟩
        rw [List.mem_singleton] at hb
        subst hb; subst q
        have := (hmf.mp ha).2
        rw [cov_refl] at this; cases this
      · have hi' : i < W.length := Nat.lt_of_lt_of_le hi hkl
        rw [List.getElem?_append_left hi'] at hq
        rcases Nat.lt_succ_iff_lt_or_eq.mp hi with h | rfl
        · obtain ⟨d, hd1, hd2⟩ := I.fin i h q hq
          cases hrd : cov row d with
          | true => exact ⟨row, by simp, cov_trans hrd hd2⟩
          | false => exact ⟨d, List.mem_append_left _ (hmf.mpr ⟨hd1, hrd⟩), hd2⟩
        · rw [hr] at hq; cases hq
          exact ⟨row, by simp, cov_refl row⟩
      · rcases List.mem_append.mp ha with ha | ha <;> rcases List.mem_append.mp hb with hb | hb
        · exact List.mem_append_left _ (I.clo a (hmf.mp ha).1 b (hmf.mp hb).1 p hp)
        · rw [List.mem_singleton] at hb; subst hb
          rw [consQ_comm hp]
          exact List.mem_append_right _ (e3 a ha p (by rw [oppL_comm]; exact hp))
        · rw [List.mem_singleton] at ha; subst ha
          exact List.mem_append_right _ (e3 b hb p hp)
        · rw [List.mem_singleton] at ha hb; subst ha; subst hb
          rw [oppL_self] at hp; cases hp
      · rw [List.length_append]; exact Nat.le_trans (Nat.add_le_add_right (Nat.le_trans hdl hl1) 1) hc
      · rw [List.length_append]; exact sq_step I.len2 (Nat.le_trans e2 hdl) hl1 hc
    · rw [if_neg (by simpa using hd)]
      have f : ∀ i, i < k + 1 → ∀ q, W[i]? = some q → ∃ d ∈ D, cov d q = true := fun i hi q hq => by
        rcases Nat.lt_succ_iff_lt_or_eq.mp hi with h | rfl
        · exact I.fin i h q hq
        · rw [hr] at hq; cases hq
          obtain ⟨d, hd'⟩ := List.exists_mem_of_ne_nil _ hd
          exact ⟨d, (List.mem_filter.mp hd').1, (List.mem_filter.mp hd').2⟩
      exact { I with fin := f }

theorem Inv.traj {w0 : List Cu} (h : w0.length = 4) (k : Nat) : Inv w0 (trajQ w0 k).1 (trajQ w0 k).2 k := by
  induction k with
  | zero => exact Inv.start h
  | succ k ih => exact ih.step

/- what is left at the end: the widest implicants, each once -/
theorem end_mem {w0 : List Cu} (h : w0.length = 4) (q : Cu) : q ∈ (trajQ w0 400).2 ↔ impl w0 q ∧ ∀ c, impl w0 c → cov c q = true → c = q := by
  have I := Inv.traj h 400
  have hfin : ∀ x ∈ (trajQ w0 400).1, ∃ d ∈ (trajQ w0 400).2, cov d x = true := fun x hx => by
    obtain ⟨i, hi⟩ := List.mem_iff_getElem?.mp hx
    have hlt := (List.getElem?_eq_some_iff.mp hi).1
    have := I.w
    exact I.fin i (by omega) x hi
  have hq := quine (w0 := w0) (D := (trajQ w0 400).2) (fun x hx => hfin x (I.pre x hx)) (fun a ha b hb p hp => hfin _ (I.clo a ha b hb p hp))
  constructor
  · intro hm
    refine ⟨I.imp q (I.sub q hm), fun c hc hcq => ?_⟩
    obtain ⟨d, hd, hdc⟩ := hq c hc
    have := I.anti d hd q hm (cov_trans hdc hcq)
    subst this
    exact cov_anti hcq hdc
  · rintro ⟨h1, h2⟩
    obtain ⟨d, hd, hdc⟩ := hq q h1
    have := h2 d (I.imp d (I.sub d hd)) hdc
    subst this
    exact hd
theorem end_nd {w0 : List Cu} (h : w0.length = 4) : (trajQ w0 400).2.Nodup := (Inv.traj h 400).nd
theorem end_len {w0 : List Cu} (h : w0.length = 4) : (trajQ w0 400).2.length < 64 := by
  have I := Inv.traj h 400
  have := I.len1
  have := cvd_le (trajQ w0 400).2
  omega
end Mine

-- C3
namespace Mine
open PySem PySem.Calls PyProof.Rows PySem.W

theorem or_and (x y : Int) : Builtin.bitOr x y = x + y - Builtin.bitAnd x y := by
  have h1 := bitXor_and x y
  unfold Builtin.bitXor at h1
  omega
theorem and_nat (x y : Nat) : Builtin.bitAnd (x : Int) (y : Int) = ((x &&& y : Nat) : Int) := by
  unfold Builtin.bitAnd
  have h1 : decide (0 ≤ (x : Int)) = true := decide_eq_true (Int.natCast_nonneg _)
  have h2 : decide (0 ≤ (y : Int)) = true := decide_eq_true (Int.natCast_nonneg _)
  rw [h1, h2]
  simp
theorem and_split (x y r t : Nat) (hr : r < 2 ^ 8) (ht : t < 2 ^ 8) : (2 ^ 8 * x + r) &&& (2 ^ 8 * y + t) = 2 ^ 8 * (x &&& y) + (r &&& t) := by
  apply Nat.eq_of_testBit_eq
  intro j
  rw [Nat.testBit_and, Nat.testBit_two_pow_mul_add _ hr, Nat.testBit_two_pow_mul_add _ ht, Nat.testBit_two_pow_mul_add _ (Nat.and_lt_two_pow r ht)]
  split <;> simp
theorem num3_nat (a b c : Nat) : num3 a b c = ((2 ^ 8 * (2 ^ 8 * a + b) + c : Nat) : Int) := by
  unfold num3; push_cast; omega
theorem num3_and {a b c a' b' c' : Nat} (hb : b < 2 ^ 8) (hc : c < 2 ^ 8) (hb' : b' < 2 ^ 8) (hc' : c' < 2 ^ 8) : Builtin.bitAnd (num3 a b c) (num3 a' b' c') = num3 (a &&& a') (b &&& b') (c &&& c') := by
  rw [num3_nat, num3_nat, and_nat, and_split _ _ _ _ hc hc', and_split _ _ _ _ hb hb', num3_nat]

theorem o_lt8 : ∀ a ∈ T6, ∀ x : Fin 3, sg3 a x < 256 := by decide
theorem o_and8 : ∀ a ∈ T6, ∀ x y : Fin 3, sg3 a x &&& sg3 a y < 256 := by decide
theorem o_lt : ∀ a ∈ T6, ∀ x : Fin 3, sg3 a x < 64 := by decide
theorem o_cov : ∀ a ∈ T6, ∀ x y : Fin 3, decide (sg3 a x &&& sg3 a y = sg3 a y) = cov1 x y := by decide
theorem o_opp : ∀ a ∈ T6, ∀ x y : Fin 3, decide (sg3 a x + sg3 a y - 2 * (sg3 a x &&& sg3 a y) = a.1 + a.2 - 2 * (a.1 &&& a.2)) = opp1 x y := by decide
theorem o_xor : ∀ a ∈ T6, ∀ x y : Fin 3, 2 * (sg3 a x &&& sg3 a y) ≤ sg3 a x + sg3 a y ∧ sg3 a x + sg3 a y - 2 * (sg3 a x &&& sg3 a y) < 64 := by decide
theorem o_xor2 : ∀ a ∈ T6, 2 * (a.1 &&& a.2) ≤ a.1 + a.2 := by decide
theorem o_meet : ∀ a ∈ T6, ∀ x y : Fin 3, opp1 x y = false → sg3 a x &&& sg3 a y = sg3 a (meet1 x y) := by decide
theorem o_63 : ∀ a ∈ T6, ∀ x y : Fin 3, (sg3 a x &&& sg3 a y) &&& 63 = (sg3 a x &&& sg3 a y) := by decide
theorem o_inj : ∀ a ∈ T6, ∀ x y : Fin 3, sg3 a x = sg3 a y → x = y := by decide
theorem o_two (a : Nat × Nat) : sg3 a ((2 : Fin 3) : Nat) = 63 := rfl
theorem o_le : ∀ a ∈ T6, ∀ x y : Fin 3, sg3 a x &&& sg3 a y ≤ sg3 a x ∧ sg3 a x &&& sg3 a y ≤ sg3 a y := by decide

theorem two_inj {x y r t : Nat} (hr : r < 256) (ht : t < 256) (h : 2 ^ 8 * x + r = 2 ^ 8 * y + t) : x = y ∧ r = t := by omega
theorem sub_self_iff {x y z : Int} : x + y - z = x ↔ z = y := by omega
noncomputable def enc (pr : Nat → Nat × Nat) (q : Cu) : Int := num3 (sg3 (pr 0) q.1) (sg3 (pr 1) q.2.1) (sg3 (pr 2) q.2.2)

section
variable {pr : Nat → Nat × Nat} (h0 : pr 0 ∈ T6) (h1 : pr 1 ∈ T6) (h2 : pr 2 ∈ T6)
include h0 h1 h2
theorem enc_and (a b : Cu) : Builtin.bitAnd (enc pr a) (enc pr b) = num3 (sg3 (pr 0) a.1 &&& sg3 (pr 0) b.1) (sg3 (pr 1) a.2.1 &&& sg3 (pr 1) b.2.1) (sg3 (pr 2) a.2.2 &&& sg3 (pr 2) b.2.2) := by
  exact num3_and (o_lt8 _ h1 _) (o_lt8 _ h2 _) (o_lt8 _ h1 _) (o_lt8 _ h2 _)
theorem num3_inj {a b c a' b' c' : Nat} (hb : b < 256) (hc : c < 256) (hb' : b' < 256) (hc' : c' < 256) (h : num3 a b c = num3 a' b' c') : a = a' ∧ b = b' ∧ c = c' := by
  rw [num3_nat, num3_nat] at h
  obtain ⟨e, e2⟩ := two_inj hc hc' (Int.ofNat.inj h)
  obtain ⟨e0, e1⟩ := two_inj hb hb' e
  exact ⟨e0, e1, e2⟩
theorem enc_inj {a b : Cu} (h : enc pr a = enc pr b) : a = b := by
  obtain ⟨e0, e1, e2⟩ := num3_inj h0 h1 h2 (o_lt8 _ h1 _) (o_lt8 _ h2 _) (o_lt8 _ h1 _) (o_lt8 _ h2 _) h
  exact Prod.ext (o_inj _ h0 _ _ e0) (Prod.ext (o_inj _ h1 _ _ e1) (o_inj _ h2 _ _ e2))
theorem enc_cov (a b : Cu) : (Builtin.bitOr (enc pr a) (enc pr b) == enc pr a) = cov a b := by
  have e : (Builtin.bitOr (enc pr a) (enc pr b) == enc pr a) = decide (Builtin.bitAnd (enc pr a) (enc pr b) = enc pr b) := by
    rw [Bool.eq_iff_iff, beq_iff_eq, decide_eq_true_eq, or_and]
    exact sub_self_iff
  rw [e, enc_and h0 h1 h2]
  unfold cov
  rw [← o_cov _ h0 a.1 b.1, ← o_cov _ h1 a.2.1 b.2.1, ← o_cov _ h2 a.2.2 b.2.2, Bool.eq_iff_iff]
  simp only [decide_eq_true_eq, Bool.and_eq_true]
  constructor
  · intro h
    exact num3_inj h0 h1 h2 (o_and8 _ h1 _ _) (o_and8 _ h2 _ _) (o_lt8 _ h1 _) (o_lt8 _ h2 _) h
  · rintro ⟨e0, e1, e2⟩
    unfold enc
    rw [e0, e1, e2]
end
end Mine

-- C4
namespace Mine
open PySem PySem.Calls PyProof.Rows PySem.W

noncomputable def X8 (a : Nat × Nat) (x y : Fin 3) : Nat := sg3 a x + sg3 a y - 2 * (sg3 a x &&& sg3 a y)
noncomputable def Y8 (a : Nat × Nat) : Nat := a.1 + a.2 - 2 * (a.1 &&& a.2)
noncomputable def stepsP (pr : Nat → Nat × Nat) : List (Int × Int) := [(16, Builtin.bitXor ((pr 0).1 : Nat) ((pr 0).2 : Nat)), (8, Builtin.bitXor ((pr 1).1 : Nat) ((pr 1).2 : Nat)), (0, Builtin.bitXor ((pr 2).1 : Nat) ((pr 2).2 : Nat))]
theorem cast_two {x y m : Nat} (k : 2 * m ≤ x + y) : ((x + y - 2 * m : Nat) : Int) = x + y - 2 * m := by omega
theorem y8 {a : Nat × Nat} (h : a ∈ T6) : Builtin.bitXor (a.1 : Nat) (a.2 : Nat) = (Y8 a : Nat) := by
  rw [bitXor_and, and_nat]
  exact (cast_two (o_xor2 _ h)).symm
theorem x_eq {a : Nat × Nat} (h : a ∈ T6) (x y : Fin 3) : (((X8 a x y : Nat) : Int) == (Y8 a : Nat)) = opp1 x y := by
  rw [← o_opp _ h x y, Bool.eq_iff_iff, beq_iff_eq, decide_eq_true_eq]
  exact Int.ofNat_inj
theorem lin2 {x y x' y' m n : Int} : x + y + (x' + y') - 2 * (m + n) = (x + x' - 2 * m) + (y + y' - 2 * n) := by omega
theorem mul2 {x y m k : Int} : x * k + y * k - 2 * (m * k) = (x + y - 2 * m) * k := by rw [Int.sub_mul, Int.add_mul, Int.mul_assoc]
theorem num3_xor {a b c a' b' c' m0 m1 m2 : Nat} (k0 : 2 * m0 ≤ a + a') (k1 : 2 * m1 ≤ b + b') (k2 : 2 * m2 ≤ c + c') :
    num3 a b c + num3 a' b' c' - 2 * num3 m0 m1 m2 = num3 (a + a' - 2 * m0) (b + b' - 2 * m1) (c + c' - 2 * m2) := by
  unfold num3
  rw [cast_two k0, cast_two k1, cast_two k2, lin2, lin2, mul2, mul2]
theorem dig0 {x y z : Nat} (hx : x < 64) (hy : y < 64) (hz : z < 64) : (num3 x y z).fdiv (2 ^ (16 : Int).toNat) % 256 = (x : Int) := by
  rw [Int.fdiv_eq_ediv_of_nonneg _ (by decide)]
  show num3 _ _ _ / 65536 % 256 = _
  unfold num3
  omega
theorem dig1 {x y z : Nat} (hx : x < 64) (hy : y < 64) (hz : z < 64) : (num3 x y z).fdiv (2 ^ (8 : Int).toNat) % 256 = (y : Int) := by
  rw [Int.fdiv_eq_ediv_of_nonneg _ (by decide)]
  show num3 _ _ _ / 256 % 256 = _
  unfold num3
  omega
theorem dig2 {x y z : Nat} (hx : x < 64) (hy : y < 64) (hz : z < 64) : (num3 x y z).fdiv (2 ^ (0 : Int).toNat) % 256 = (z : Int) := by
  rw [Int.fdiv_eq_ediv_of_nonneg _ (by decide)]
  show num3 _ _ _ / 1 % 256 = _
  unfold num3
  omega
theorem or0 {x y z : Nat} : num3 x y z + num3 63 0 0 - num3 x 0 0 = num3 63 y z := by unfold num3; omega
theorem or1 {x y z : Nat} : num3 x y z + num3 0 63 0 - num3 0 y 0 = num3 x 63 z := by unfold num3; omega
theorem or2 {x y z : Nat} : num3 x y z + num3 0 0 63 - num3 0 0 z = num3 x y 63 := by unfold num3; omega

section
variable {pr : Nat → Nat × Nat} (h0 : pr 0 ∈ T6) (h1 : pr 1 ∈ T6) (h2 : pr 2 ∈ T6)
include h0 h1 h2
theorem enc_xor (a b : Cu) : Builtin.bitXor (enc pr a) (enc pr b) = num3 (X8 (pr 0) a.1 b.1) (X8 (pr 1) a.2.1 b.2.1) (X8 (pr 2) a.2.2 b.2.2) := by
  rw [bitXor_and, enc_and h0 h1 h2]
  exact num3_xor (o_xor _ h0 a.1 b.1).1 (o_xor _ h1 a.2.1 b.2.1).1 (o_xor _ h2 a.2.2 b.2.2).1
theorem enc_xor_nn (a b : Cu) : 0 ≤ Builtin.bitXor (enc pr a) (enc pr b) := by
  rw [enc_xor h0 h1 h2]
  rw [num3_nat]
  exact Int.natCast_nonneg _
theorem shf_enc (a b : Cu) : shf (stepsP pr) (Builtin.bitXor (enc pr a) (enc pr b)) = (oppL a b).map fun (p : Nat) => 16 - 8 * (p : Int) := by
  have k0 : X8 (pr 0) a.1 b.1 < 64 := (o_xor _ h0 a.1 b.1).2
  have k1 : X8 (pr 1) a.2.1 b.2.1 < 64 := (o_xor _ h1 a.2.1 b.2.1).2
  have k2 : X8 (pr 2) a.2.2 b.2.2 < 64 := (o_xor _ h2 a.2.2 b.2.2).2
  rw [enc_xor h0 h1 h2]
  have c0 : (Builtin.bitAnd ((num3 (X8 (pr 0) a.1 b.1) (X8 (pr 1) a.2.1 b.2.1) (X8 (pr 2) a.2.2 b.2.2)).fdiv (2 ^ (16 : Int).toNat)) 255 == Builtin.bitXor ((pr 0).1 : Nat) ((pr 0).2 : Nat)) = opp1 a.1 b.1 := by
    rw [y8 h0, ← x_eq h0, bitAnd_m8, dig0 k0 k1 k2]
  have c1 : (Builtin.bitAnd ((num3 (X8 (pr 0) a.1 b.1) (X8 (pr 1) a.2.1 b.2.1) (X8 (pr 2) a.2.2 b.2.2)).fdiv (2 ^ (8 : Int).toNat)) 255 == Builtin.bitXor ((pr 1).1 : Nat) ((pr 1).2 : Nat)) = opp1 a.2.1 b.2.1 := by
    rw [y8 h1, ← x_eq h1, bitAnd_m8, dig1 k0 k1 k2]
  have c2 : (Builtin.bitAnd ((num3 (X8 (pr 0) a.1 b.1) (X8 (pr 1) a.2.1 b.2.1) (X8 (pr 2) a.2.2 b.2.2)).fdiv (2 ^ (0 : Int).toNat)) 255 == Builtin.bitXor ((pr 2).1 : Nat) ((pr 2).2 : Nat)) = opp1 a.2.2 b.2.2 := by
    rw [y8 h2, ← x_eq h2, bitAnd_m8, dig2 k0 k1 k2]
  have g0 : getp a 0 = a.1 := rfl
  have g1 : getp a 1 = a.2.1 := rfl
  have g2 : getp a 2 = a.2.2 := rfl
  have g0' : getp b 0 = b.1 := rfl
  have g1' : getp b 1 = b.2.1 := rfl
  have g2' : getp b 2 = b.2.2 := rfl
  unfold shf stepsP oppL
  simp only [List.filter_cons, List.filter_nil, c0, c1, c2, g0, g1, g2, g0', g1', g2']
  cases opp1 a.1 b.1 <;> cases opp1 a.2.1 b.2.1 <;> cases opp1 a.2.2 b.2.2 <;> rfl

theorem enc_cons {a b : Cu} {p : Nat} (h : oppL a b = [p]) : Builtin.bitOr (Builtin.bitAnd (enc pr a) (enc pr b)) (63 * 2 ^ (16 - 8 * (p : Int)).toNat) = enc pr (consQ a b p) := by
  have w1 := o_and8 _ h1 a.2.1 b.2.1; have w2 := o_and8 _ h2 a.2.2 b.2.2
  rw [or_and, enc_and h0 h1 h2]
  rcases oppL_one h with ⟨rfl, e0, e1, e2⟩ | ⟨rfl, e0, e1, e2⟩ | ⟨rfl, e0, e1, e2⟩
  · have q : (63 * 2 ^ (16 - 8 * ((0 : Nat) : Int)).toNat : Int) = num3 63 0 0 := by decide
    rw [q, num3_and w1 w2 (by decide) (by decide), o_63 _ h0, Nat.and_zero, Nat.and_zero, o_meet _ h1 _ _ e1, o_meet _ h2 _ _ e2]
    exact or0
  · have q : (63 * 2 ^ (16 - 8 * ((1 : Nat) : Int)).toNat : Int) = num3 0 63 0 := by decide
    rw [q, num3_and w1 w2 (by decide) (by decide), o_63 _ h1, Nat.and_zero, Nat.and_zero, o_meet _ h0 _ _ e0, o_meet _ h2 _ _ e2]
    exact or1
  · have q : (63 * 2 ^ (16 - 8 * ((2 : Nat) : Int)).toNat : Int) = num3 0 0 63 := by decide
    rw [q, num3_and w1 w2 (by decide) (by decide), o_63 _ h2, Nat.and_zero, Nat.and_zero, o_meet _ h0 _ _ e0, o_meet _ h1 _ _ e1]
    exact or2

theorem join_enc (row o : Cu) (ws : List Cu) : join1 (stepsP pr) (enc pr row) (ws.map (enc pr)) (enc pr o) = (joinQ row ws o).map (enc pr) := by
  unfold join1 joinQ
  rw [shf_enc h0 h1 h2, List.length_map, List.length_map]
  split
  · rename_i hc
    rw [Bool.and_eq_true] at hc
    have hl : (oppL row o).length = 1 := Int.ofNat.inj (eq_of_beq hc.1)
    obtain ⟨p, hp⟩ := List.length_eq_one_iff.mp hl
    rw [hp, List.map_append]
    congr 1
    show [Builtin.bitOr _ (63 * 2 ^ (16 - 8 * (p : Int)).toNat)] = [enc pr (consQ row o p)]
    rw [enc_cons h0 h1 h2 hp]
  · rfl
theorem fold_enc (row : Cu) (l : List Cu) : ∀ ws : List Cu, (l.map (enc pr)).foldl (join1 (stepsP pr) (enc pr row)) (ws.map (enc pr)) = (l.foldl (joinQ row) ws).map (enc pr) := by
  induction l with
  | nil => exact fun _ => rfl
  | cons o l ih => intro ws; rw [List.map_cons, List.foldl_cons, List.foldl_cons, join_enc h0 h1 h2, ih]
theorem above_enc (row : Cu) (D : List Cu) : above (enc pr row) (D.map (enc pr)) = (D.filter fun o => cov o row).map (enc pr) := by
  unfold above
  rw [List.filter_map]
  exact congrArg (fun p => (D.filter p).map (enc pr)) (funext fun o => enc_cov h0 h1 h2 o row)
theorem apart_enc (row : Cu) (D : List Cu) : apart (enc pr row) (D.map (enc pr)) = (D.filter fun o => !cov row o).map (enc pr) := by
  unfold apart
  rw [List.filter_map]
  exact congrArg (fun p => (D.filter p).map (enc pr)) (funext fun o => congrArg (fun b => !b) (enc_cov h0 h1 h2 row o))
theorem step_enc (W D : List Cu) (k : Nat) : stepC (stepsP pr) (W.map (enc pr), D.map (enc pr)) k = ((stepQ (W, D) k).1.map (enc pr), (stepQ (W, D) k).2.map (enc pr)) := by
  unfold stepC stepQ
  dsimp only
  rw [List.getElem?_map]
  cases W[k]? with
  | none => rfl
  | some row =>
    dsimp only [Option.map_some]
    rw [above_enc h0 h1 h2, apart_enc h0 h1 h2, fold_enc h0 h1 h2, show decide ((D.filter fun o => cov o row).map (enc pr) = []) = decide ((D.filter fun o => cov o row) = []) from decide_eq_decide.mpr List.map_eq_nil_iff]
    by_cases q : decide ((D.filter fun o => cov o row) = []) = true
    · rw [if_pos q, if_pos q, List.map_append]; rfl
    · rw [if_neg q, if_neg q]
theorem traj_enc (w0 : List Cu) (k : Nat) : traj (stepsP pr) (w0.map (enc pr)) k = ((trajQ w0 k).1.map (enc pr), (trajQ w0 k).2.map (enc pr)) := by
  induction k with
  | zero => rfl
  | succ k ih =>
    show stepC _ _ _ = _
    rw [ih]
    exact step_enc h0 h1 h2 _ _ k
end
end Mine

-- C5
namespace Mine
open PySem PySem.Calls PyProof.Rows PySem.W

noncomputable def txq (pr : Nat → Nat × Nat) (q : Cu) : Str := tx (mk3 (sg3 (pr 0) q.1) (sg3 (pr 1) q.2.1) (sg3 (pr 2) q.2.2))
noncomputable def vq : List Cu := [0, 1].flatMap fun x => [0, 1].flatMap fun y => [0, 1].flatMap fun z => [(x, y, z)]
theorem mem_vq (q : Cu) : q ∈ vq ↔ vert q = true := by
  have : ∀ x y z : Fin 3, (x, y, z) ∈ vq ↔ vert (x, y, z) = true := by decide
  exact this q.1 q.2.1 q.2.2
noncomputable def setp (q : Cu) (k : Nat) : Cu := (if k = 0 then 2 else q.1, if k = 1 then 2 else q.2.1, if k = 2 then 2 else q.2.2)

noncomputable def heldQ (w0 : List Cu) (n : Cu) : Bool := !decide ((w0.filter fun q => (vq.filter (cov q)).any (· == n)) = [])
noncomputable def implB (w0 : List Cu) (q : Cu) : Bool := decide (((vq.filter (cov q)).filter fun n => !((vq.filter (heldQ w0)).any (· == n))) = [])
noncomputable def primeB (w0 : List Cu) (q : Cu) : Bool := decide (((List.range 3).filter fun k => (getp q k != 2) && (((allQ.filter (implB w0)).any (· == setp q k)) && true)) = [])

theorem heldQ_iff {w0 : List Cu} {n : Cu} (hn : vert n = true) : heldQ w0 n = true ↔ ∃ w ∈ w0, cov w n = true := by
  unfold heldQ
  rw [Bool.not_eq_true', decide_eq_false_iff_not]
  constructor
  · intro h
    obtain ⟨w, hw⟩ := List.exists_mem_of_ne_nil _ h
    obtain ⟨h1, h2⟩ := List.mem_filter.mp hw
    obtain ⟨x, hx, he⟩ := List.any_eq_true.mp h2
    have := eq_of_beq he
    subst this
    exact ⟨w, h1, (List.mem_filter.mp hx).2⟩
  · rintro ⟨w, hw, hc⟩ h
    have := List.filter_eq_nil_iff.mp h w hw
    exact this (List.any_eq_true.mpr ⟨n, List.mem_filter.mpr ⟨(mem_vq n).mpr hn, hc⟩, by simp⟩)
theorem implB_iff {w0 : List Cu} {q : Cu} : implB w0 q = true ↔ impl w0 q := by
  unfold implB impl
  rw [decide_eq_true_eq, List.filter_eq_nil_iff]
  constructor
  · intro h v hv hc
    have := h v (List.mem_filter.mpr ⟨(mem_vq v).mpr hv, hc⟩)
    simp only [Bool.not_eq_true', Bool.not_eq_false] at this
    obtain ⟨x, hx, he⟩ := List.any_eq_true.mp this
    have := eq_of_beq he
    subst this
    exact (heldQ_iff hv).mp (List.mem_filter.mp hx).2
  · intro h v hv
    obtain ⟨h1, h2⟩ := List.mem_filter.mp hv
    have hv' := (mem_vq v).mp h1
    simp only [Bool.not_eq_true', Bool.not_eq_false]
    exact List.any_eq_true.mpr ⟨v, List.mem_filter.mpr ⟨h1, (heldQ_iff hv').mpr (h v hv' h2)⟩, by simp⟩
theorem primeB_iff {w0 : List Cu} {q : Cu} : primeB w0 q = true ↔ ∀ k, k < 3 → getp q k ≠ 2 → ¬ impl w0 (setp q k) := by
  unfold primeB
  rw [decide_eq_true_eq, List.filter_eq_nil_iff]
  constructor
  · intro h k hk hg hi
    refine h k (List.mem_range.mpr hk) ?_
    rw [Bool.and_true, Bool.and_eq_true]
    exact ⟨by simpa using hg, List.any_eq_true.mpr ⟨setp q k, List.mem_filter.mpr ⟨mem_allQ _, implB_iff.mpr hi⟩, by simp⟩⟩
  · intro h k hk hb
    rw [Bool.and_true, Bool.and_eq_true] at hb
    obtain ⟨x, hx, he⟩ := List.any_eq_true.mp hb.2
    have := eq_of_beq he
    subst this
    exact h k (List.mem_range.mp hk) (by simpa using hb.1) (implB_iff.mp (List.mem_filter.mp hx).2)

theorem cov1_cases {x y : Fin 3} : cov1 x y = true → x = y ∨ (x = 2 ∧ y ≠ 2) := by revert x y; decide
theorem prime_max {w0 : List Cu} {q : Cu} : (impl w0 q ∧ primeB w0 q = true) ↔ (impl w0 q ∧ ∀ c, impl w0 c → cov c q = true → c = q) := by
  refine and_congr_right fun hq => ?_
  rw [primeB_iff]
  constructor
  · intro h c hc hcq
    have hh := cov_iff.mp hcq
    rcases cov1_cases hh.1 with e0 | ⟨e0, n0⟩
    · rcases cov1_cases hh.2.1 with e1 | ⟨e1, n1⟩
      · rcases cov1_cases hh.2.2 with e2 | ⟨e2, n2⟩
        · exact Prod.ext e0 (Prod.ext e1 e2)
        · exact absurd (impl_down (b := setp q 2) hc (cov_iff.mpr ⟨hh.1, hh.2.1, e2 ▸ cov1_refl 2⟩)) (h 2 (by decide) n2)
      · exact absurd (impl_down (b := setp q 1) hc (cov_iff.mpr ⟨hh.1, e1 ▸ cov1_refl 2, hh.2.2⟩)) (h 1 (by decide) n1)
    · exact absurd (impl_down (b := setp q 0) hc (cov_iff.mpr ⟨e0 ▸ cov1_refl 2, hh.2.1, hh.2.2⟩)) (h 0 (by decide) n0)
  · intro h k hk hg hi
    have c2 : ∀ x, cov1 2 x = true := fun x => by revert x; decide
    rcases (show k = 0 ∨ k = 1 ∨ k = 2 from lt3 (P := fun k => k = 0 ∨ k = 1 ∨ k = 2) hk (.inl rfl) (.inr (.inl rfl)) (.inr (.inr rfl))) with rfl | rfl | rfl
    · exact hg (congrArg (·.1) (h _ hi (cov_iff.mpr ⟨c2 _, cov1_refl _, cov1_refl _⟩))).symm
    · exact hg (congrArg (·.2.1) (h _ hi (cov_iff.mpr ⟨cov1_refl _, c2 _, cov1_refl _⟩))).symm
    · exact hg (congrArg (·.2.2) (h _ hi (cov_iff.mpr ⟨cov1_refl _, cov1_refl _, c2 _⟩))).symm

/- the two lists hold the same -/
theorem same_members {w0 : List Cu} (h : w0.length = 4) : (trajQ w0 400).2.Perm ((allQ.filter (implB w0)).filter (primeB w0)) := by
  refine (List.perm_ext_iff_of_nodup (end_nd h) ((allQ_nd.sublist List.filter_sublist).sublist List.filter_sublist)).mpr fun q => ?_
  rw [end_mem h, List.mem_filter, List.mem_filter, implB_iff]
  have := prime_max (w0 := w0) (q := q)
  constructor
  · intro hq
    have := this.mpr hq
    exact ⟨⟨mem_allQ q, this.1⟩, this.2⟩
  · rintro ⟨⟨_, a⟩, b⟩
    exact this.mp ⟨a, b⟩
theorem srt_perm {l l' : List Int} (h : l.Perm l') : srt l = srt l' := by
  refine srt_of ((List.mergeSort_perm l _).trans h) ?_
  have := List.pairwise_mergeSort (le := fun a b : Int => decide (a ≤ b)) (fun a b c h1 h2 => decide_eq_true (Int.le_trans (of_decide_eq_true h1) (of_decide_eq_true h2))) (fun a b => by rw [Bool.or_eq_true]; exact (Int.le_total a b).imp decide_eq_true decide_eq_true) l
  exact this.imp (fun h => by simpa using h)
end Mine

-- C6
namespace Mine
open PySem PySem.Calls PyProof.Rows PySem.W

theorem pr_T6 (code : Int) (p : Nat) : prOf code p ∈ T6 := by
  have h := fmod_lt (a := code.fdiv (6 ^ p)) (b := 6) (by decide)
  have : ∀ n, n < 6 → T6[n]?.getD (55, 59) ∈ T6 := by decide
  exact this _ ((Int.toNat_lt h.1).mpr h.2)

noncomputable def dq (ns : List Int) (k p : Nat) : Fin 3 := ⟨(dgOf (numOf ns k) p).toNat % 3, Nat.mod_lt _ (by decide)⟩
theorem dq_val (ns : List Int) (k p : Nat) : ((dq ns k p : Fin 3) : Nat) = (dgOf (numOf ns k) p).toNat := by
  have h := fmod_lt (a := (numOf ns k).fdiv (3 ^ p)) (b := 3) (by decide)
  exact Nat.mod_eq_of_lt ((Int.toNat_lt h.1).mpr h.2)
noncomputable def w0Q (ns : List Int) : List Cu := (List.range 4).map fun k => (dq ns k 0, dq ns k 1, dq ns k 2)
theorem listed_q (ns : List Int) : listedS ns = (w0Q ns).map (txq (prOf (codeOf ns))) := by
  unfold listedS w0Q
  rw [List.map_map]
  refine List.map_congr_left fun k _ => ?_
  show tx (lsC ns k) = tx (mk3 (sg3 _ (dq ns k 0)) (sg3 _ (dq ns k 1)) (sg3 _ (dq ns k 2)))
  rw [dq_val, dq_val, dq_val]
  rfl
theorem three_q3 (a b c : Nat × Nat) (pr : Nat → Nat × Nat) (ha : pr 0 = a) (hb : pr 1 = b) (hc : pr 2 = c) : ((((P3 a).flatMap fun x => (P3 b).flatMap fun y => (P3 c).flatMap fun z => [mk3 x y z])).map tx) = allQ.map (txq pr) := by
  unfold txq
  rw [ha, hb, hc]
  rfl
theorem three_q2 (a b c : Nat × Nat) (pr : Nat → Nat × Nat) (ha : pr 0 = a) (hb : pr 1 = b) (hc : pr 2 = c) : ((((P2 a).flatMap fun x => (P2 b).flatMap fun y => (P2 c).flatMap fun z => [mk3 x y z])).map tx) = vq.map (txq pr) := by
  unfold txq
  rw [ha, hb, hc]
  rfl
theorem patts_q (ns : List Int) : pattsS ns = allQ.map (txq (prOf (codeOf ns))) := three_q3 _ _ _ _ rfl rfl rfl
theorem names_q (ns : List Int) : namesS ns = vq.map (txq (prOf (codeOf ns))) := three_q2 _ _ _ _ rfl rfl rfl

theorem o_hit : ∀ a ∈ T6, ∀ x y : Fin 3, (sg3 a x == 63 || (some (sg3 a y) == some (sg3 a x))) = cov1 x y := by decide
theorem o_63' : ∀ a ∈ T6, ∀ x : Fin 3, (sg3 a x != 63) = (x != 2) := by decide

section
variable {pr : Nat → Nat × Nat} (h0 : pr 0 ∈ T6) (h1 : pr 1 ∈ T6) (h2 : pr 2 ∈ T6)
include h0 h1 h2
theorem hit_q (q n : Cu) : hitS (cof (txq pr q)) (txq pr n) = cov q n := by
  have e0 : hit1 (cof (txq pr q)) (txq pr n) 0 = (sg3 (pr 0) q.1 == 63 || (some (sg3 (pr 0) n.1) == some (sg3 (pr 0) q.1))) := rfl
  have e1 : hit1 (cof (txq pr q)) (txq pr n) 1 = (sg3 (pr 1) q.2.1 == 63 || (some (sg3 (pr 1) n.2.1) == some (sg3 (pr 1) q.2.1))) := rfl
  have e2 : hit1 (cof (txq pr q)) (txq pr n) 2 = (sg3 (pr 2) q.2.2 == 63 || (some (sg3 (pr 2) n.2.2) == some (sg3 (pr 2) q.2.2))) := rfl
  unfold hitS cov
  rw [e0, e1, e2, o_hit _ h0, o_hit _ h1, o_hit _ h2, Bool.and_true]
theorem txq_inj {a b : Cu} (h : txq pr a = txq pr b) : a = b := by
  have h : (#[sg3 (pr 0) a.1, sg3 (pr 1) a.2.1, sg3 (pr 2) a.2.2] : Array Nat) = #[sg3 (pr 0) b.1, sg3 (pr 1) b.2.1, sg3 (pr 2) b.2.2] := congrArg Str.cps h
  have h : [sg3 (pr 0) a.1, sg3 (pr 1) a.2.1, sg3 (pr 2) a.2.2] = [sg3 (pr 0) b.1, sg3 (pr 1) b.2.1, sg3 (pr 2) b.2.2] := congrArg Array.toList h
  injection h with e0 h
  injection h with e1 h
  injection h with e2 h
  exact Prod.ext (o_inj _ h0 _ _ e0) (Prod.ext (o_inj _ h1 _ _ e1) (o_inj _ h2 _ _ e2))
theorem any_q (l : List Cu) (n : Cu) : (l.map (txq pr)).any (· == txq pr n) = l.any (· == n) := by
  rw [List.any_map]
  congr 1
  funext x
  show (txq pr x == txq pr n) = (x == n)
  rw [Bool.eq_iff_iff, beq_iff_eq, beq_iff_eq]
  exact ⟨fun h => txq_inj h0 h1 h2 h, fun h => by rw [h]⟩
omit h0 h1 h2 in
theorem sl3 {a b c : Nat} {lo hi : Option Int} {js : List Nat} (h : Builtin.Str.strSliceIndices lo hi 1 3 = js) (hne : (js.length == 3) = false) : PySem.Txt.slice ⟨#[a, b, c]⟩ lo hi = ⟨(js.filterMap ((#[a, b, c] : Array Nat)[·]?)).toArray⟩ := by
  unfold PySem.Txt.slice
  show (if ((1 : Int) == 1 && (Builtin.Str.strSliceIndices lo hi 1 3).length == 3) = true then _ else (⟨((Builtin.Str.strSliceIndices lo hi 1 3).filterMap _).toArray⟩ : Str)) = _
  rw [h, hne, if_neg (by decide)]
omit h0 h1 h2 in
theorem wid3 (a b c : Nat) : wid ⟨#[a, b, c]⟩ 0 = ⟨#[63, b, c]⟩ ∧ wid ⟨#[a, b, c]⟩ 1 = ⟨#[a, 63, c]⟩ ∧ wid ⟨#[a, b, c]⟩ 2 = ⟨#[a, b, 63]⟩ := by
  refine ⟨?_, ?_, ?_⟩
  · unfold wid
    rw [sl3 (js := []) (by decide) (by decide), sl3 (js := [1, 2]) (by decide) (by decide)]; rfl
  · unfold wid
    rw [sl3 (js := [0]) (by decide) (by decide), sl3 (js := [2]) (by decide) (by decide)]; rfl
  · unfold wid
    rw [sl3 (js := [0, 1]) (by decide) (by decide), sl3 (js := []) (by decide) (by decide)]; rfl
theorem wid_q (q : Cu) {k : Nat} (hk : k < 3) : wid (txq pr q) k = txq pr (setp q k) := lt3 (P := fun k : Nat => wid (txq pr q) k = txq pr (setp q k)) hk (wid3 _ _ _).1 (wid3 _ _ _).2.1 (wid3 _ _ _).2.2
end

section
variable (ns : List Int)
theorem val_q (q : Cu) : valS ns (txq (prOf (codeOf ns)) q) = (vq.filter (cov q)).map (txq (prOf (codeOf ns))) := by
  unfold valS
  rw [names_q, List.filter_map]
  congr 2
  funext n
  exact hit_q (pr_T6 _ _) (pr_T6 _ _) (pr_T6 _ _) q n
theorem held_q : heldS ns = (vq.filter (heldQ (w0Q ns))).map (txq (prOf (codeOf ns))) := by
  unfold heldS
  rw [names_q, List.filter_map]
  congr 2
  funext n
  show (!decide (((listedS ns).filter fun q => (valS ns q).any (· == txq (prOf (codeOf ns)) n)) = [])) = heldQ (w0Q ns) n
  unfold heldQ
  have e : ((listedS ns).filter fun q => (valS ns q).any (· == txq (prOf (codeOf ns)) n)) = ((w0Q ns).filter fun q => (vq.filter (cov q)).any (· == n)).map (txq (prOf (codeOf ns))) := by
    rw [listed_q, List.filter_map]
    congr 2
    funext q
    show (valS ns (txq (prOf (codeOf ns)) q)).any (· == txq (prOf (codeOf ns)) n) = _
    rw [val_q, any_q (pr_T6 _ _) (pr_T6 _ _) (pr_T6 _ _)]
  rw [e]
  simp
theorem whole_q : wholeS ns = (allQ.filter (implB (w0Q ns))).map (txq (prOf (codeOf ns))) := by
  unfold wholeS
  rw [patts_q, List.filter_map]
  congr 2
  funext q
  show decide (((valS ns (txq (prOf (codeOf ns)) q)).filter fun n => !((heldS ns).any (· == n))) = []) = implB (w0Q ns) q
  unfold implB
  have e : ((valS ns (txq (prOf (codeOf ns)) q)).filter fun n => !((heldS ns).any (· == n))) = ((vq.filter (cov q)).filter fun n => !((vq.filter (heldQ (w0Q ns))).any (· == n))).map (txq (prOf (codeOf ns))) := by
    rw [val_q, List.filter_map]
    congr 2
    funext n
    show (!((heldS ns).any (· == txq (prOf (codeOf ns)) n))) = _
    rw [held_q, any_q (pr_T6 _ _) (pr_T6 _ _) (pr_T6 _ _)]
  rw [e]
  simp
theorem wide_q (q : Cu) : wideB ns (txq (prOf (codeOf ns)) q) = primeB (w0Q ns) q := by
  unfold wideB primeB
  congr 2
  refine List.filter_congr fun k hk => ?_
  have hk := List.mem_range.mp hk
  rw [wid_q (pr_T6 _ _) (pr_T6 _ _) (pr_T6 _ _) q hk, whole_q, any_q (pr_T6 _ _) (pr_T6 _ _) (pr_T6 _ _)]
  exact congrArg (· && _) (lt3 (P := fun k : Nat => (cof (txq (prOf (codeOf ns)) q) k != 63) = (getp q k != 2)) hk (o_63' _ (pr_T6 _ _) q.1) (o_63' _ (pr_T6 _ _) q.2.1) (o_63' _ (pr_T6 _ _) q.2.2))
theorem widest_q : widestI ns = ((allQ.filter (implB (w0Q ns))).filter (primeB (w0Q ns))).map (enc (prOf (codeOf ns))) := by
  unfold widestI
  rw [whole_q, List.filter_map, List.map_map]
  have e : (wideB ns ∘ txq (prOf (codeOf ns))) = primeB (w0Q ns) := funext fun q => wide_q ns q
  rw [e]
  rfl
theorem wait_q : waitI ns = (w0Q ns).map (enc (prOf (codeOf ns))) := by
  unfold waitI
  rw [listed_q, List.map_map]
  rfl
theorem steps_q : stepsI ns = stepsP (prOf (codeOf ns)) := rfl

theorem traj_q (k : Nat) : traj (stepsI ns) (waitI ns) k = ((trajQ (w0Q ns) k).1.map (enc (prOf (codeOf ns))), (trajQ (w0Q ns) k).2.map (enc (prOf (codeOf ns)))) := by
  rw [steps_q, wait_q]
  exact traj_enc (pr_T6 _ _) (pr_T6 _ _) (pr_T6 _ _) _ k
theorem w0_len : (w0Q ns).length = 4 := rfl
theorem law_x0 : ∀ k, ∀ a ∈ (traj (stepsI ns) (waitI ns) k).1, ∀ b ∈ (traj (stepsI ns) (waitI ns) k).2, 0 ≤ Builtin.bitXor a b := by
  intro k a ha b hb
  rw [traj_q] at ha hb
  obtain ⟨x, _, rfl⟩ := List.mem_map.mp ha
  obtain ⟨y, _, rfl⟩ := List.mem_map.mp hb
  exact enc_xor_nn (pr_T6 _ _) (pr_T6 _ _) (pr_T6 _ _) x y
theorem law_len : (runC (stepsI ns) (waitI ns)).length < 64 := by
  unfold runC
  rw [traj_q, List.length_map]
  exact end_len (w0_len ns)
theorem law_true : lawB ns = true := by
  unfold lawB
  rw [decide_eq_true_eq]
  refine srt_perm ?_
  unfold runC
  rw [traj_q, widest_q]
  dsimp only
  exact List.Perm.map _ (same_members (w0_len ns))
end
end Mine

-- J1
namespace Mine
open PySem PySem.Calls PyProof.Rows PySem.W

theorem law_call {prog : Program} {w : World} {s₁ : Shared} {mg mb : Str → Option PySem.Value} (X : (KK w).In s₁.heap) (g : s₁.heap.Ns mainGlobals mg) (b : s₁.heap.Ns builtinsNs mb) (hb : ∀ x : Str, x ≠ "__name__" → mb x = bootBuiltins x) (lim : s₁.heap.NoLimit)
    {a : Addr} {vs : List PySem.Value} {ns : List Int} (hL : s₁.heap.PlainList a vs.toArray) (hI : IntsAre vs ns) (hz : ns.length ≤ 1000) {E : PySem.Value → Shared → Prop} {Q : PySem.Value → Shared → Prop} (h : ∀ s', Kp s₁ s' → Q (.bool true) s') :
    wpAny (model prog w) callerA (call (.ref 120) [.ref a]) Q E s₁ := by
  have := fx_law (prog := prog) (w := w) (A := callerA) (F := [(a, Ent.lI ns)]) (sc := a) (ns := ns) rfl (by decide) (by decide) List.mem_cons_self hz (law_x0 ns) (law_len ns)
  refine this [.ref a] s₁ E Q ⟨X, ⟨mg, g⟩, ⟨mb, b, hb⟩, lim⟩ (Has.nil.cons ⟨vs, hL, hI⟩) (.cons rfl .nil) fun v s' hv k => ?_
  rw [law_true] at hv
  cases hv
  exact h s' k

theorem plain_aux {P : Params} {h : Heap} {a : Addr} {v : PySem.Value} {d : WData} {vs : List PySem.Value} (x : Well P h v d) (hv : v = .ref a) (hd : d.ctorIdx = (WData.list []).ctorIdx) (y : h.IsList a vs.toArray) : h.PlainList a vs.toArray := by
  cases x with
  | list ho _ =>
    cases hv
    obtain ⟨o, ho', _, n, hd⟩ := y
    rw [ho] at ho'
    cases ho'
    cases hd
    exact ⟨_, ho⟩
  | _ => exact absurd hd (Nat.ne_of_beq_eq_false rfl)
theorem plain_of {P : Params} {h : Heap} {a : Addr} {xs : List WData} {vs : List PySem.Value} (x : Well P h (.ref a) (.list xs)) (y : h.IsList a vs.toArray) : h.PlainList a vs.toArray := plain_aux x rfl rfl y

theorem good_end {c : ClaimW} {cl : Str → Option Addr} {mean : ExcName → Option PySem.Value} {args : List WData} {s₁ s' : Shared} (k : Kp s₁ s') (hg : s₁.gens = #[]) (hr : ∀ cls, c.raises args cls = false) (hp : c.post args (.bool true) args = true) :
    GoodWG c cl mean args s₁ (.ok (.ret (.bool true))) s' := by
  obtain ⟨h', tk, rfl, up⟩ := k.ex
  exact ⟨.inl ⟨_, _, [], rfl, hr, ReadsW.bool true, hp, fun _ => ⟨List.nodup_nil, fun _ hm => (nomatch hm)⟩⟩, .of_keep up, rfl, by show AllBare s₁.gens; rw [hg]; exact AllBare.empty⟩
end Mine
open PySem PySem.W PyProof.Rows
set_option maxHeartbeats 8000000 in
theorem Mine.law_holds : PySem.Challenge.rw_in0259_01.Holds := by
  w_on
  o_law
  o_head (kHook Mine.KP [3, 38, 48, 55, 63, 70, 77, 84, 91, 98, 105, 110, 115, 120, 47, 54, 62, 69, 76, 83, 90, 97, 104, 109, 114, 119] (fun _ => by kernel_rfl))
  (case hw => w_witness2)
  intro w s₀ s₁ mg mb G Y fa o pm cd doc dV kV ho hd hcd hD hmg hg args vals as hpre hlay hrd hwl hlo
  have KX := kIn_of Y
  refine Ground.open G ?_
  intro T B D TE TW
  have TR := topRead_of T
  have hfa : fa = 120 := by
    have e := mg_of (n := Str.ofString "law") (v := .ref 120) KX TR.g (by rfl)
    have e' : mg (Str.ofString "law") = some (.ref fa) := hmg
    rw [e'] at e
    cases e
    rfl
  clear ho hd hcd hD hmg
  subst hfa
  wrow_args hpre hlay hrd hwl hlo
  rename_i hcn _
  refine Mine.law_call KX TR.g TR.b TR.builtins TR.nolimit (Mine.plain_of (by assumption) (by assumption)) (by assumption) (by omega) fun s' k => ?_
  exact Mine.good_end k hg (fun _ => rfl) (by first | rfl | wrow_post)

end

theorem PySem.Challenge.cw_in0259_01_holds : PySem.Challenge.rw_in0259_01.Holds := by
  exact Mine.law_holds
