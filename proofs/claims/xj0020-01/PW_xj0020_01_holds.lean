import PyProof.Rows.All
import Wide.All
import OpenK.AllK
import Wide.FinOn
import Lean
import PySem.Challenge.RW_xj0020_01
set_option Elab.async false
set_option maxRecDepth 100000
set_option linter.all false
set_option compiler.extract_closed false
local macro_rules | `(tactic| omega) => `(tactic| first | with_reducible assumption | with_reducible decide | lia | omega (config := {}))
section
-- B0
open PySem PySem.W PyProof.Rows
namespace Mine
noncomputable abbrev PRG : Program := PySem.Challenge.pw_xj0020_01
inductive D where
  | none
  | bool (b : Bool)
  | int (i : Int)
  | str (s : Str)
  | list (ds : List D)
  | tup (ds : List D)
  | rng (a b c : Int)
  | raw (v : Value)
  | acc (i : Int) (ds : List D)
  deriving Inhabited
noncomputable abbrev LObj (vs : Array Value) (n : Nat) : Obj := { cls := .type "list", data := .seq vs n }
noncomputable abbrev TObj (vs : Array Value) (n : Nat) : Obj := { cls := .type "tuple", data := .seq vs n }
noncomputable abbrev AObj (da : Addr) (vs : Array Value) (n : Nat) : Obj := { cls := .ref 157, dict := some da, data := .seq vs n }
noncomputable def iniS : Str := "_initial_size"
noncomputable def accM (i : Int) (t : Tok) (y : Str) : Option Value := if y = iniS then some (.int i t) else none
mutual
noncomputable def Rp (X : Addr → Prop) (h : Heap) : D → Value → Prop
  | .none, v => v = .none
  | .bool b, v => v = .bool b
  | .int i, v => ∃ t, v = .int i t
  | .str s, v => ∃ t, v = .str s t
  | .list ds, v => ∃ a vs n, v = .ref a ∧ ¬ X a ∧ h.get? a = some (LObj vs n) ∧ RpL X h ds vs.toList
  | .tup ds, v => ∃ a vs n, v = .ref a ∧ ¬ X a ∧ h.get? a = some (TObj vs n) ∧ RpL X h ds vs.toList
  | .rng a b c, v => ∃ r t1 t2 t3, v = .ref r ∧ ¬ X r ∧ IsRange h r a b c t1 t2 t3
  | .raw w, v => v = w
  | .acc i ds, v => ∃ a da vs n t, v = .ref a ∧ ¬ X a ∧ ¬ X da ∧ h.get? a = some (AObj da vs n) ∧ h.Ns da (accM i t) ∧ RpL X h ds vs.toList
noncomputable def RpL (X : Addr → Prop) (h : Heap) : List D → List Value → Prop
  | [], vs => vs = []
  | d :: ds, vs => ∃ v r, vs = v :: r ∧ Rp X h d v ∧ RpL X h ds r
end
noncomputable def tabs : List Addr := [58, 65, 119, 126]
noncomputable def seqish (o : Obj) : Prop := ((o.cls = .type "list" ∨ o.cls = .type "tuple" ∨ o.cls = .type "range") ∧ ((∃ vs n, o.data = .seq vs n) ∨ ∃ vs, o.data = .fields vs)) ∨
  (o.cls = .ref 157 ∧ ∃ vs n, o.data = .seq vs n) ∨ ∃ es ep, o.data = .dict es ep ∧ nsFind es iniS ≠ none
theorem seqish.list {vs n} : seqish (LObj vs n) := .inl ⟨.inl rfl, .inl ⟨_, _, rfl⟩⟩
theorem seqish.tup {vs n} : seqish (TObj vs n) := .inl ⟨.inr (.inl rfl), .inl ⟨_, _, rfl⟩⟩
theorem seqish.ac {da vs n} : seqish (AObj da vs n) := .inr (.inl ⟨rfl, _, _, rfl⟩)
theorem seqish.not {o : Obj} {c : String} {vs} (hc : o.cls = .type c) (hd : o.data = .fields vs) (h : c ≠ "list" ∧ c ≠ "tuple" ∧ c ≠ "range") : ¬ seqish o := by
  rintro (⟨q, _⟩ | ⟨q, _⟩ | ⟨es, ep, q, _⟩)
  · rw [hc] at q
    rcases q with q | q | q <;> cases q
    · exact h.1 rfl
    · exact h.2.1 rfl
    · exact h.2.2 rfl
  · rw [hc] at q; cases q
  · rw [hd] at q; cases q
noncomputable def SK (X : Addr → Prop) (h h' : Heap) : Prop := ∀ b o, h.get? b = some o → seqish o → ¬ X b → h'.get? b = some o
mutual
theorem Rp.mono {X Y : Addr → Prop} {h h' : Heap} (hY : ∀ a, Y a → X a ∨ h.get? a = none) (k : SK X h h') : ∀ {d : D} {v : Value}, Rp X h d v → Rp Y h' d v
  | .none, _, x => x
  | .bool _, _, x => x
  | .int _, _, x => x
  | .str _, _, x => x
  | .raw _, _, x => x
  | .list ds, v, x => by
    unfold Rp at x ⊢
    obtain ⟨a, vs, n, rfl, hx, hl, hr⟩ := x
    have hn : ¬ Y a := fun y => (hY a y).elim hx fun q => by rw [q] at hl; cases hl
    exact ⟨a, vs, n, rfl, hn, k a _ hl .list hx, RpL.mono hY k hr⟩
  | .tup ds, v, x => by
    unfold Rp at x ⊢
    obtain ⟨a, vs, n, rfl, hx, hl, hr⟩ := x
    have hn : ¬ Y a := fun y => (hY a y).elim hx fun q => by rw [q] at hl; cases hl
    exact ⟨a, vs, n, rfl, hn, k a _ hl .tup hx, RpL.mono hY k hr⟩
  | .rng _ _ _, v, x => by
    unfold Rp at x ⊢
    obtain ⟨r, t1, t2, t3, rfl, hx, e⟩ := x
    have hn : ¬ Y r := fun y => (hY r y).elim hx fun q => by rw [IsRange, q] at e; cases e
    exact ⟨r, t1, t2, t3, rfl, hn, k r _ e (.inl ⟨.inr (.inr rfl), .inr ⟨_, rfl⟩⟩) hx⟩
  | .acc i ds, v, x => by
    unfold Rp at x ⊢
    obtain ⟨a, da, vs, n, t, rfl, hx, hxd, hl, hd, hr⟩ := x
    have hn : ¬ Y a := fun y => (hY a y).elim hx fun q => by rw [q] at hl; cases hl
    obtain ⟨o, es, ep, ho, he, sk, hm⟩ := hd
    have hnd : ¬ Y da := fun y => (hY da y).elim hxd fun q => by rw [q] at ho; cases ho
    refine ⟨a, da, vs, n, t, rfl, hn, hnd, k a _ hl .ac hx, ⟨o, es, ep, k da o ho (.inr (.inr ⟨es, ep, he, ?_⟩)) hxd, he, sk, hm⟩, RpL.mono hY k hr⟩
    rw [hm]; simp [accM]
theorem RpL.mono {X Y : Addr → Prop} {h h' : Heap} (hY : ∀ a, Y a → X a ∨ h.get? a = none) (k : SK X h h') : ∀ {ds : List D} {vs : List Value}, RpL X h ds vs → RpL Y h' ds vs
  | [], _, x => by unfold RpL at x ⊢; exact x
  | d :: ds, _, x => by
    unfold RpL at x ⊢
    obtain ⟨v, r, rfl, a, b⟩ := x
    exact ⟨v, r, rfl, Rp.mono hY k a, RpL.mono hY k b⟩
end
theorem Rp.keep {X : Addr → Prop} {h h' : Heap} {d : D} {v : Value} (x : Rp X h d v) (k : SK X h h') : Rp X h' d v := Rp.mono (fun _ y => .inl y) k x
theorem RpL.keep {X : Addr → Prop} {h h' : Heap} {ds : List D} {vs : List Value} (x : RpL X h ds vs) (k : SK X h h') : RpL X h' ds vs := RpL.mono (fun _ y => .inl y) k x
structure EffM (Mu : Addr → Prop) (s s' : Shared) : Prop where
  os : s'.os = s.os
  gens : ∀ (g : Nat) (gs : GenState), s.gens[g]? = some gs → s'.gens[g]? = some gs
  bare : AllBare s.gens → AllBare s'.gens
  keep : ∀ a o, s.heap.get? a = some o → a ∉ tabs → ¬ Mu a → s'.heap.get? a = some o
noncomputable abbrev Eff := EffM (fun _ => False)
theorem EffM.refl (Mu) (s : Shared) : EffM Mu s s := ⟨rfl, fun _ _ e => e, id, fun _ _ e _ _ => e⟩
theorem EffM.trans {Mu} {s s' s'' : Shared} (a : EffM Mu s s') (b : EffM Mu s' s'') : EffM Mu s s'' :=
  ⟨b.os.trans a.os, fun g gs e => b.gens g gs (a.gens g gs e), fun x => b.bare (a.bare x), fun x o e t m => b.keep x o (a.keep x o e t m) t m⟩
theorem EffM.weaken {Mu Mu' : Addr → Prop} {s s' : Shared} (a : EffM Mu s s') (h : ∀ x, Mu x → Mu' x) : EffM Mu' s s' :=
  ⟨a.os, a.gens, a.bare, fun x o e t m => a.keep x o e t fun y => m (h x y)⟩
theorem Eff.toM {Mu} {s s' : Shared} (a : Eff s s') : EffM Mu s s' := a.weaken fun _ x => x.elim
theorem EffM.toEff {Mu : Addr → Prop} {s s' : Shared} (a : EffM Mu s s') (h : ∀ x, Mu x → s.heap.objs.size ≤ x) : Eff s s' :=
  ⟨a.os, a.gens, a.bare, fun x o e t _ => a.keep x o e t fun m => absurd (Heap.lt_size e) (Nat.not_lt.mpr (h x m))⟩
theorem Eff.of_keeps {s : Shared} {h' : Heap} {tk : Nat} (hk : ∀ b o, s.heap.get? b = some o → h'.get? b = some o) : Eff s { s with heap := h', toks := tk } :=
  ⟨rfl, fun _ _ e => e, id, fun a o e _ _ => hk a o e⟩
theorem Eff.push (s : Shared) (o : Obj) (tk : Nat) : Eff s { s with heap := s.heap.push o, toks := tk } :=
  Eff.of_keeps (fun _ _ e => Heap.get?_push_of_some _ e)
theorem Eff.tok (s : Shared) (tk : Nat) : Eff s { s with toks := tk } := ⟨rfl, fun _ _ e => e, id, fun _ _ e _ _ => e⟩
structure Rm (n : Nat) (A : Around) : Prop where
  handled : A.handled = none
  depth : A.depth + n < recursionLimit
  units : A.units + 10 * n < cLine
theorem Rm.less {n m : Nat} {A : Around} (r : Rm n A) (h : m ≤ n) : Rm m A := ⟨r.handled, by have := r.depth; omega, by have := r.units; omega⟩
theorem Rm.in1 {n : Nat} {A : Around} (r : Rm (n + 1) A) : Rm n A.in1 := ⟨r.handled, by have := r.depth; show A.depth + n < _; omega, by have := r.units; show A.units + 1 + 10 * n < _; omega⟩
theorem Rm.deeper {n : Nat} {A : Around} {env : Env} (r : Rm (n + 1) A) : Rm n (A.deeper env) := ⟨r.handled, by have := r.depth; show A.depth + 1 + n < _; omega, by have := r.units; show A.units + 3 + 10 * n < _; omega⟩
theorem Rm.mark {n : Nat} {A : Around} (r : Rm n A) : Rm n (A.mark none) := ⟨r.handled, r.depth, r.units⟩
noncomputable def gtab : List (Str × Value) :=
  [("_strcoll", .ref 28), ("_strxfrm", .ref 35), ("_grouping_intervals", .ref 42), ("_div2n1n", .ref 49), ("_int2digits", .ref 63), ("_digits2int", .ref 70), ("_divmod_pos", .ref 77),
   ("_Accumulator", .ref 157), ("_law_told", .ref 168), ("_law_words", .ref 173), ("_law_alike", .ref 178), ("_law_near", .ref 183), ("_law_first", .ref 190)]
noncomputable def btab : List (Str × Value) :=
  [("sum", .builtin "sum"), ("len", .builtin "len"), ("divmod", .builtin "divmod"), ("sorted", .builtin "sorted"), ("chr", .builtin "chr"), ("isinstance", .builtin "isinstance"),
   ("range", .type "range"), ("list", .type "list"), ("reversed", .type "reversed"), ("str", .type "str"), ("int", .type "int"), ("bool", .type "bool"), ("ValueError", .type "ValueError"), ("super", .type "super")]
noncomputable def stAt (i : Nat) : Stmt := PRG.main.body.getD i (.Pass default)
noncomputable def clAt (i : Nat) : Stmt := match stAt 15 with | .ClassDef _ _ _ b .. => b.getD i (.Pass default) | _ => .Pass default
noncomputable def dP : Stmt → Arguments | .FunctionDef _ a .. => a | _ => default
noncomputable def dB : Stmt → List Stmt | .FunctionDef _ _ b .. => b | _ => []
noncomputable def dS : Stmt → Scope | .FunctionDef _ _ _ _ _ _ s .. => s | _ => default
noncomputable def fdT (i : Nat) (nm : Str) (pm : Value) (c : Addr) : FuncData := fnX nm nm (dP (stAt i)) (dB (stAt i)) (dS (stAt i)) [] .none .none .none pm none (.ref c) .none
noncomputable def pmL : Value := .str "cpy313.locale" 194
noncomputable def pmP : Value := .str "cpy313._pylong" 222
noncomputable def pmE : Value := .str "cpy313.email.header" 294
noncomputable def pmW : Value := .str "law_xj0020_01" 393
noncomputable def fdM (i : Nat) (nm : Str) (cl : List (Str × Addr)) (dv ct : Value) (c : Addr) : FuncData := fnX nm ("_Accumulator." ++ nm) (dP (clAt i)) (dB (clAt i)) (dS (clAt i)) cl dv .none .none pmE none (.ref c) ct
noncomputable def fnTab : List (Addr × FuncData × Addr) :=
  [(28, fdT 2 "_strcoll" pmL 27, 27), (35, fdT 3 "_strxfrm" pmL 34, 34), (42, fdT 5 "_grouping_intervals" pmL 41, 41), (49, fdT 8 "_div2n1n" pmP 48, 48),
   (63, fdT 10 "_int2digits" pmP 62, 62), (70, fdT 11 "_digits2int" pmP 69, 69), (77, fdT 12 "_divmod_pos" pmP 76, 76),
   (94, fdM 0 "__init__" [("__class__", 81)] (.ref 86) (.ref 87) 93, 93), (101, fdM 1 "push" [] .none .none 100, 100), (117, fdM 3 "pop" [("__class__", 81)] .none (.ref 110) 116, 116),
   (124, fdM 4 "__len__" [] .none .none 123, 123), (131, fdM 5 "__str__" [] .none .none 130, 130), (146, fdM 7 "is_onlyws" [] .none .none 145, 145), (154, fdM 8 "part_count" [("__class__", 81)] .none (.ref 147) 153, 153),
   (168, fdT 17 "_law_told" pmW 167, 167), (173, fdT 18 "_law_words" pmW 172, 172), (178, fdT 19 "_law_alike" pmW 177, 177), (183, fdT 20 "_law_near" pmW 182, 182), (190, fdT 21 "_law_first" pmW 189, 189), (195, fdT 22 "law" pmW 194, 194)]
noncomputable def FnIs (h : Heap) (p : Addr × FuncData × Addr) : Prop := ∃ o oc vs t, h.get? p.1 = some o ∧ o.cls = .type "function" ∧ o.data = .func p.2.1 ∧ p.2.1.code = .ref p.2.2 ∧ h.get? p.2.2 = some oc ∧ oc.data = .fields vs ∧ vs[1]? = some (.str p.2.1.qualname t)
theorem fnTab_low : ∀ p ∈ fnTab, p.1 < 196 ∧ p.2.2 < 196 := by
  intro p hp
  simp only [fnTab, List.mem_cons, List.not_mem_nil, or_false] at hp
  rcases hp with rfl | rfl | rfl | rfl | rfl | rfl | rfl | rfl | rfl | rfl | rfl | rfl | rfl | rfl | rfl | rfl | rfl | rfl | rfl | rfl <;> exact ⟨by decide, by decide⟩
noncomputable def nsE (P : Params) (x : Str) (t : Tok) (v : Value) : DictEntry := { hash := PyData.keyHash P x, key := .str x t, val := v }
noncomputable def kNs (P : Params) : Obj := { cls := .type "dict", data := .dict #[nsE P "__module__" 305 (.str "cpy313.email.header" 294), nsE P "__firstlineno__" 309 (.int 88 308), nsE P "__init__" 319 (.ref 94), nsE P "push" 328 (.ref 101), nsE P "pop_from" 337 (.ref 109), nsE P "pop" 345 (.ref 117),
  nsE P "__len__" 352 (.ref 124), nsE P "__str__" 359 (.ref 131), nsE P "reset" 367 (.ref 139), nsE P "is_onlyws" 374 (.ref 146), nsE P "part_count" 382 (.ref 154), nsE P "__static_attributes__" 384 (.ref 155), nsE P "__dict__" 387 (.ref 158), nsE P "__weakref__" 389 (.ref 159), nsE P "__doc__" 390 .none] 5 }
noncomputable def kCls : Obj := { cls := .type "type", data := .cls { name := "_Accumulator", bases := [.type "list"], mro := [.ref 157, .type "list", .type "object"], ns := 156, qualname := "_Accumulator" }, slots := #[some (.ref 78), none, some (.str "_Accumulator" 298), some (.str "_Accumulator" 306), some (.builtin "list.__new__"), some (.bool true)] }
noncomputable def kFn (fd : FuncData) : Obj := { cls := .type "function", data := .func fd }
noncomputable def Kc (P : Params) : Frag := [(157, kCls), (156, kNs P), (81, { cls := .type "cell", data := .cell (some (.ref 157)) }), (2, { cls := .none, data := .dict #[] }), (86, { cls := .type "tuple", data := .seq #[.int 0 310] }),
  (94, kFn (fdM 0 "__init__" [("__class__", 81)] (.ref 86) (.ref 87) 93)), (101, kFn (fdM 1 "push" [] .none .none 100)), (117, kFn (fdM 3 "pop" [("__class__", 81)] .none (.ref 110) 116)),
  (124, kFn (fdM 4 "__len__" [] .none .none 123)), (131, kFn (fdM 5 "__str__" [] .none .none 130)), (146, kFn (fdM 7 "is_onlyws" [] .none .none 145)), (154, kFn (fdM 8 "part_count" [("__class__", 81)] .none (.ref 147) 153))]
noncomputable def filTab : List Addr := [93, 116, 153]
theorem kc_mem {a : Addr} {o : Obj} : ∀ {K : Frag}, K.lookup a = some o → (a, o) ∈ K
  | [], e => by cases e
  | (b, x) :: r, e => by
    rw [List.lookup_cons] at e
    cases h : (a == b) with
    | true =>
      rw [h] at e; cases e
      rw [show a = b by simpa using h]; exact .head _
    | false => rw [h] at e; exact .tail _ (kc_mem e)
theorem Kc_low {P : Params} {a : Addr} {o : Obj} (h : (Kc P).lookup a = some o) : a < 196 ∧ a ∉ tabs := by
  have hm : a ∈ (Kc P).map (·.1) := List.mem_map.mpr ⟨(a, o), kc_mem h, rfl⟩
  have e : (Kc P).map (·.1) = [157, 156, 81, 2, 86, 94, 101, 117, 124, 131, 146, 154] := rfl
  rw [e] at hm
  simp only [List.mem_cons, List.not_mem_nil, or_false] at hm
  rcases hm with rfl | rfl | rfl | rfl | rfl | rfl | rfl | rfl | rfl | rfl | rfl | rfl <;> exact ⟨by decide, by decide⟩
noncomputable def dPos : Stmt → Pos | .FunctionDef _ _ _ _ _ _ _ _ _ p => p | _ => default
noncomputable def gPos : Stmt → Pos | .Return (some (.Call _ (.GeneratorExp _ _ _ p :: _) _ _)) _ => p | _ => default
noncomputable def codTab : List (Addr × Addr × Pos × Str) :=
  [(62, 58, dPos ((dB (stAt 10)).getD 1 (.Pass default)), "_int2digits.<locals>.inner"), (69, 65, dPos ((dB (stAt 11)).getD 0 (.Pass default)), "_digits2int.<locals>.inner"),
   (123, 119, gPos ((dB (clAt 4)).getD 0 (.Pass default)), "_Accumulator.__len__.<locals>.<genexpr>"), (130, 126, gPos ((dB (clAt 5)).getD 0 (.Pass default)), "_Accumulator.__str__.<locals>.<genexpr>")]
noncomputable def codish (o : Obj) : Prop := ∃ vs q t, o.data = .fields vs ∧ vs[1]? = some (.str q t)
structure CodOk (h : Heap) (p : Addr × Addr × Pos × Str) : Prop where
  hd : CodeHd h p.1 p.2.1
  tb : ∃ ps, h.get? p.2.1 = some (tabObj ps) ∧ TriplesOk ps.toList ∧ (codeAmong p.2.2.1 ps.toList = none ∨ ∃ c', codeAmong p.2.2.1 ps.toList = some (.ref c') ∧ h.CodeRec (.ref c') p.2.2.2)
theorem codTab_low : ∀ p ∈ codTab, p.1 < 196 ∧ p.2.1 < 196 ∧ p.2.1 ∈ tabs := by
  intro p hp
  simp only [codTab, List.mem_cons, List.not_mem_nil, or_false] at hp
  rcases hp with rfl | rfl | rfl | rfl <;> exact ⟨by decide, by decide, by simp [tabs]⟩
theorem CodOk.at' {h h' : Heap} {p : Addr × Addr × Pos × Str} (x : CodOk h p) (hp : p ∈ codTab) (k : ∀ b o, b < 196 → h.get? b = some o → h'.get? b = some o) (k2 : ∀ b o, codish o → h.get? b = some o → h'.get? b = some o) : CodOk h' p where
  hd := by
    obtain ⟨o, vs, file, tf, flags, tg, inF, text, tt, e, r⟩ := x.hd
    exact ⟨o, vs, file, tf, flags, tg, inF, text, tt, k _ _ (codTab_low p hp).1 e, r⟩
  tb := by
    obtain ⟨ps, e, t, q⟩ := x.tb
    refine ⟨ps, k _ _ (codTab_low p hp).2.1 e, t, q.imp id ?_⟩
    rintro ⟨c', e1, c, o, vs, t', e2, e3, e4, e5⟩
    exact ⟨c', e1, c, o, vs, t', e2, k2 c o ⟨vs, _, _, e4, e5⟩ e3, e4, e5⟩
structure Inv (h : Heap) : Prop where
  cod : ∀ p ∈ codTab, CodOk h p
  fns : ∀ p ∈ fnTab, FnIs h p
  top : ∃ o, h.get? 195 = some o
  tab : ∀ t ∈ tabs, ∃ ps, h.get? t = some (tabObj ps)
  glo : ∃ mg, h.Ns mainGlobals mg ∧ (∃ bm o, mg "__builtins__" = some (.ref bm) ∧ bm < 196 ∧ bm ∉ tabs ∧ bm ≠ builtinsNs ∧ bm ≠ mainGlobals ∧ h.get? bm = some o ∧ o.cls = .type "module" ∧ o.dict = some builtinsNs ∧ o.data = .plain) ∧ (∀ p ∈ gtab, mg p.1 = some p.2) ∧ (∀ p ∈ btab, mg p.1 = none) ∧ (∃ t, mg "CHAR_MAX" = some (.int 127 t)) ∧ (∃ t, mg "_DIV_LIMIT" = some (.int 4000 t)) ∧ (∃ t, mg "EMPTYSTRING" = some (.str Str.empty t))
  bui : ∃ mb, h.Ns builtinsNs mb ∧ (∀ p ∈ btab, mb p.1 = some p.2)
  nolimit : h.NoLimit
  kls : ∃ P, (Kc P).In h
  fil : ∀ c ∈ filTab, ∃ o vs t, h.get? c = some o ∧ o.data = .fields vs ∧ vs[2]? = some (.str PRG.main.file t)
theorem Inv.low {h h' : Heap} (I : Inv h) (k : ∀ b o, b < 196 → h.get? b = some o → h'.get? b = some o) (k2 : ∀ b o, codish o → h.get? b = some o → h'.get? b = some o) : Inv h' where
  cod := fun p hp => (I.cod p hp).at' hp k k2
  fns := fun p hp => by
    obtain ⟨o, oc, vs, t, a, b, c, d, e, f⟩ := I.fns p hp
    exact ⟨o, oc, vs, t, k _ _ (fnTab_low p hp).1 a, b, c, d, k _ _ (fnTab_low p hp).2 e, f⟩
  top := by obtain ⟨o, e⟩ := I.top; exact ⟨o, k _ _ (by decide) e⟩
  tab := fun t m => by
    obtain ⟨ps, e⟩ := I.tab t m
    exact ⟨ps, k _ _ (by simp only [tabs, List.mem_cons, List.not_mem_nil, or_false] at m; rcases m with rfl | rfl | rfl | rfl <;> decide) e⟩
  glo := by
    obtain ⟨mg, a, ⟨bm, ob, b1, b2, b3, b4, b5, b6, b7⟩, b⟩ := I.glo
    exact ⟨mg, a.at' fun o e => k _ o (by decide) e, ⟨bm, ob, b1, b2, b3, b4, b5, k _ _ b2 b6, b7⟩, b⟩
  bui := by obtain ⟨mg, a, b⟩ := I.bui; exact ⟨mg, a.at' fun o e => k _ o (by decide) e, b⟩
  nolimit := by obtain ⟨mc, a, b⟩ := I.nolimit; exact ⟨mc, a.at' fun o e => k _ o (by decide) e, b⟩
  kls := by obtain ⟨P, x⟩ := I.kls; exact ⟨P, fun a o e => k _ _ (Kc_low e).1 (x a o e)⟩
  fil := fun c hc => by
    obtain ⟨o, vs, t, e, r⟩ := I.fil c hc
    exact ⟨o, vs, t, k _ _ (by simp only [filTab, List.mem_cons, List.not_mem_nil, or_false] at hc; rcases hc with rfl | rfl | rfl <;> decide) e, r⟩
theorem Inv.big {h : Heap} (I : Inv h) : 196 ≤ h.objs.size := by obtain ⟨o, e⟩ := I.top; exact Heap.lt_size e
theorem Inv.notTab {h : Heap} (I : Inv h) {a : Addr} {o : Obj} (e : h.get? a = some o) (c : o.cls ≠ .none ∨ ∀ vs, o.data ≠ .fields vs) : a ∉ tabs := fun m => by
  obtain ⟨ps, q⟩ := I.tab a m
  rw [e] at q; cases q
  exact c.elim (fun c => c rfl) fun c => c ps rfl
theorem Inv.ns_notTab {h : Heap} (I : Inv h) {a : Addr} {m} (x : h.Ns a m) : a ∉ tabs := by
  obtain ⟨o, es, ep, e, d, _⟩ := x
  exact I.notTab e (.inr fun vs q => by rw [q] at d; cases d)
theorem Inv.cell_notTab {h : Heap} (I : Inv h) {a : Addr} {v} (x : h.IsCell a v) : a ∉ tabs := by
  obtain ⟨o, e, d⟩ := x
  exact I.notTab e (.inr fun vs q => by rw [q] at d; cases d)
theorem EffM.sk {Mu X : Addr → Prop} {s s' : Shared} (a : EffM Mu s s') (I : Inv s.heap) (h : ∀ x, Mu x → X x ∨ ∀ o, s.heap.get? x = some o → ¬ seqish o) : SK X s.heap s'.heap := fun b o e c hx =>
  a.keep b o e (I.notTab e (by
    rcases c with ⟨c | c | c, _⟩ | ⟨c, _⟩ | ⟨es, ep, c, _⟩
    · exact .inl (by rw [c]; nofun)
    · exact .inl (by rw [c]; nofun)
    · exact .inl (by rw [c]; nofun)
    · exact .inl (by rw [c]; nofun)
    · exact .inr (by rw [c]; nofun))) fun m => (h b m).elim hx fun q => q o e c
theorem Eff.sk {X : Addr → Prop} {s s' : Shared} (a : Eff s s') (I : Inv s.heap) : SK X s.heap s'.heap := EffM.sk a I fun _ x => x.elim
theorem Eff.ns {s s' : Shared} (a : Eff s s') (I : Inv s.heap) {b : Addr} {m} (x : s.heap.Ns b m) : s'.heap.Ns b m := by
  have := I.ns_notTab x
  exact x.at' fun o e => a.keep b o e this fun q => q
theorem Eff.cell {s s' : Shared} (a : Eff s s') (I : Inv s.heap) {b : Addr} {v} (x : s.heap.IsCell b v) : s'.heap.IsCell b v := by
  have := I.cell_notTab x
  obtain ⟨o, e, d⟩ := x
  exact ⟨o, a.keep b o e this fun q => q, d⟩
noncomputable def XB (X : Addr → Prop) (h : Heap) : Prop := ∀ a, X a → a ∉ tabs ∧ ∃ o, h.get? a = some o
theorem XB.eff {X : Addr → Prop} {s s' : Shared} (b : XB X s.heap) (a : Eff s s') : XB X s'.heap := fun x h => by obtain ⟨t, o, e⟩ := b x h; exact ⟨t, o, a.keep x o e t fun z => z⟩
theorem XB.keeps {X : Addr → Prop} {h h' : Heap} (b : XB X h) (k : ∀ a, X a → ∀ o, h.get? a = some o → h'.get? a = some o) : XB X h' := fun x y => by obtain ⟨t, o, e⟩ := b x y; exact ⟨t, o, k x y o e⟩
theorem XB.fresh {X : Addr → Prop} {h : Heap} (b : XB X h) : ¬ X h.objs.size := fun y => by obtain ⟨t, o, e⟩ := b _ y; exact Nat.lt_irrefl _ (Heap.lt_size e)
structure Vars (X : Addr → Prop) (env : Env) (r : List (Str × D)) (h : Heap) : Prop where
  bnd : XB X h
  kind : env.scope.kind = .function
  glo : env.globals = mainGlobals
  bui : env.builtins = builtinsNs
  ns : ∃ m, h.Ns env.locals m ∧ m iniS = none ∧ ∀ x d, r.lookup x = some d → env.kindOf x = some .local → ∃ v, m x = some v ∧ Rp X h d v
  cel : ∀ x d, r.lookup x = some d → (env.kindOf x = some .cell ∨ env.kindOf x = some .free) → ∃ c v, env.cells.lookup x = some c ∧ h.IsCell c (some v) ∧ Rp X h d v
theorem Vars.eff {X : Addr → Prop} {env : Env} {r : List (Str × D)} {s s' : Shared} (x : Vars X env r s.heap) (a : Eff s s') (I : Inv s.heap) : Vars X env r s'.heap where
  bnd := x.bnd.eff a
  kind := x.kind
  glo := x.glo
  bui := x.bui
  ns := by
    obtain ⟨m, n, mi, k⟩ := x.ns
    exact ⟨m, a.ns I n, mi, fun y d e q => by obtain ⟨v, e1, e2⟩ := k y d e q; exact ⟨v, e1, e2.keep (a.sk I)⟩⟩
  cel := fun y d e q => by
    obtain ⟨c, v, e1, e2, e3⟩ := x.cel y d e q
    exact ⟨c, v, e1, a.cell I e2, e3.keep (a.sk I)⟩
theorem Vars.sub {X : Addr → Prop} {env : Env} {r r' : List (Str × D)} {h : Heap} (x : Vars X env r h) (k : ∀ y d, r'.lookup y = some d → r.lookup y = some d) : Vars X env r' h where
  bnd := x.bnd
  kind := x.kind
  glo := x.glo
  bui := x.bui
  ns := by
    obtain ⟨m, n, mi, q⟩ := x.ns
    exact ⟨m, n, mi, fun y d e => q y d (k y d e)⟩
  cel := fun y d e => x.cel y d (k y d e)
section
variable (w : World)
noncomputable def EvP (X : Addr → Prop) (s : Shared) (d : D) (v : Value) (s' : Shared) : Prop := Eff s s' ∧ Inv s'.heap ∧ Rp X s'.heap d v
noncomputable def EvS (n : Nat) (sc : Scope) (r : List (Str × D)) (e : Expr) (d : D) : Prop :=
  ∀ (A : Around) (s : Shared) (env : Env) (X : Addr → Prop), env.scope = sc → Rm n A → Inv s.heap → Vars X env r s.heap →
    wpAny (model PRG w) A (eval e env) (fun v s' => EvP X s d v s') (fun _ _ => False) s
noncomputable def CallS (n : Nat) (f : Value) (ds : List D) (d : D) : Prop :=
  ∀ (A : Around) (s : Shared) (X : Addr → Prop) (vs : List Value), Rm n A → Inv s.heap → XB X s.heap → RpL X s.heap ds vs →
    wpAny (model PRG w) A (call f vs) (fun v s' => EvP X s d v s') (fun _ _ => False) s
end
variable {w : World}
theorem EvS.more {n m : Nat} {sc r e d} (h : EvS w n sc r e d) (k : n ≤ m) : EvS w m sc r e d := fun A s env X a b c v => h A s env X a (b.less k) c v
theorem CallS.more {n m : Nat} {f ds d} (h : CallS w n f ds d) (k : n ≤ m) : CallS w m f ds d := fun A s X vs b c B v => h A s X vs (b.less k) c B v
theorem LObj.isList {h : Heap} {a : Addr} {vs : Array Value} {n : Nat} (e : h.get? a = some (LObj vs n)) : h.IsList a vs := ⟨_, e, rfl, n, rfl⟩
theorem TObj.isTuple {h : Heap} {a : Addr} {vs : Array Value} {n : Nat} (e : h.get? a = some (TObj vs n)) : h.IsTuple a vs := ⟨_, e, rfl, n, rfl⟩
theorem RpL.length {X : Addr → Prop} {h : Heap} : ∀ {ds : List D} {vs : List Value}, RpL X h ds vs → vs.length = ds.length
  | [], _, x => by unfold RpL at x; subst x; rfl
  | d :: ds, _, x => by unfold RpL at x; obtain ⟨v, r, rfl, _, b⟩ := x; simp [RpL.length b]
theorem RpL.nil {X : Addr → Prop} {h : Heap} : RpL X h [] [] := by unfold RpL; rfl
theorem RpL.cons {X : Addr → Prop} {h : Heap} {d : D} {ds : List D} {v : Value} {vs : List Value} (a : Rp X h d v) (b : RpL X h ds vs) : RpL X h (d :: ds) (v :: vs) := by unfold RpL; exact ⟨v, vs, rfl, a, b⟩
theorem RpL.append {X : Addr → Prop} {h : Heap} : ∀ {ds es : List D} {vs ws : List Value}, RpL X h ds vs → RpL X h es ws → RpL X h (ds ++ es) (vs ++ ws)
  | [], _, _, _, x, y => by unfold RpL at x; subst x; exact y
  | d :: ds, _, _, _, x, y => by unfold RpL at x; obtain ⟨v, r, rfl, a, b⟩ := x; exact RpL.cons a (RpL.append b y)
theorem RpL.get {X : Addr → Prop} {h : Heap} : ∀ {ds : List D} {vs : List Value}, RpL X h ds vs → ∀ {i : Nat} {d : D}, ds[i]? = some d → ∃ v, vs[i]? = some v ∧ Rp X h d v
  | [], _, _, i, d, e => by simp at e
  | d :: ds, _, x, 0, d', e => by unfold RpL at x; obtain ⟨v, r, rfl, a, b⟩ := x; simp at e; subst e; exact ⟨v, rfl, a⟩
  | d :: ds, _, x, i + 1, d', e => by unfold RpL at x; obtain ⟨v, r, rfl, a, b⟩ := x; simp at e; obtain ⟨v', e1, e2⟩ := RpL.get b e; exact ⟨v', by simpa using e1, e2⟩
theorem RpL.cons_inv {X : Addr → Prop} {h : Heap} {d : D} {ds : List D} {vs : List Value} (x : RpL X h (d :: ds) vs) : ∃ v r, vs = v :: r ∧ Rp X h d v ∧ RpL X h ds r := by unfold RpL at x; exact x
theorem RpL.nil_inv {X : Addr → Prop} {h : Heap} {vs : List Value} (x : RpL X h [] vs) : vs = [] := by unfold RpL at x; exact x
theorem RpL.map_filterMap {X : Addr → Prop} {h : Heap} {ds : List D} {vs : List Value} (x : RpL X h ds vs) (l : List Nat) : RpL X h (l.filterMap (ds[·]?)) (l.filterMap (vs[·]?)) := by
  induction l with
  | nil => exact RpL.nil
  | cons i l ih =>
    simp only [List.filterMap_cons]
    cases e : ds[i]? with
    | none =>
      have : vs[i]? = none := by rw [List.getElem?_eq_none_iff] at e ⊢; rw [x.length]; exact e
      rw [this]; exact ih
    | some d =>
      obtain ⟨v, e1, e2⟩ := x.get e
      rw [e1]; exact RpL.cons e2 ih
theorem RpL.drop {X : Addr → Prop} {h : Heap} : ∀ {ds : List D} {vs : List Value}, RpL X h ds vs → ∀ k : Nat, RpL X h (ds.drop k) (vs.drop k)
  | _, _, x, 0 => x
  | [], _, x, k + 1 => by have := x.nil_inv; subst this; exact RpL.nil
  | d :: ds, _, x, k + 1 => by obtain ⟨v, r, rfl, a, b⟩ := x.cons_inv; exact b.drop k
theorem RpL.take {X : Addr → Prop} {h : Heap} : ∀ {ds : List D} {vs : List Value}, RpL X h ds vs → ∀ k : Nat, RpL X h (ds.take k) (vs.take k)
  | _, _, x, 0 => RpL.nil
  | [], _, x, k + 1 => by have := x.nil_inv; subst this; exact RpL.nil
  | d :: ds, _, x, k + 1 => by obtain ⟨v, r, rfl, a, b⟩ := x.cons_inv; exact RpL.cons a (b.take k)
theorem RpL.reverse {X : Addr → Prop} {h : Heap} : ∀ {ds : List D} {vs : List Value}, RpL X h ds vs → RpL X h ds.reverse vs.reverse
  | [], _, x => by have := x.nil_inv; subst this; exact RpL.nil
  | d :: ds, _, x => by obtain ⟨v, r, rfl, a, b⟩ := x.cons_inv; rw [List.reverse_cons, List.reverse_cons]; exact b.reverse.append (RpL.cons a RpL.nil)
theorem wpAny_gen {α : Type} {M : Model} {A : Around} {t : Sem α} {R : α → Shared → Prop} {E : Value → Shared → Prop} {s : Shared} (h : ∀ Q : α → Shared → Prop, (∀ r s', R r s' → Q r s') → wpAny M A t Q E s) : wpAny M A t R E s := h R fun _ _ x => x
theorem wpAny_gen2 {α : Type} {M : Model} {A : Around} {t : Sem α} {R : α → Shared → Prop} {E : Value → Shared → Prop} {s : Shared} (h : ∀ (Q : α → Shared → Prop) (F : Value → Shared → Prop), (∀ r s', R r s' → Q r s') → (∀ e s', E e s' → F e s') → wpAny M A t Q F s) : wpAny M A t R E s := h R E (fun _ _ x => x) fun _ _ x => x
end Mine
end
section
-- B1
open PySem PySem.W PyProof.Rows
namespace Mine
variable {w : World}
theorem kindOf_eq {env : Env} {sc : Scope} {x : Str} {k : Option NameKind} (hs : env.scope = sc) (h : sc.names.lookup x = k) : env.kindOf x = k := by
  unfold Env.kindOf; rw [hs, h]
section
variable {n : Nat} {sc : Scope} {r : List (Str × D)}
theorem EvP.of {X : Addr → Prop} {s s' : Shared} {d : D} {v : Value} (a : Eff s s') (I : Inv s'.heap) (p : Rp X s'.heap d v) : EvP X s d v s' := ⟨a, I, p⟩
theorem EvP.trans {X : Addr → Prop} {s s' s'' : Shared} {d : D} {v : Value} (a : Eff s s') (p : EvP X s' d v s'') : EvP X s d v s'' := ⟨a.trans p.1, p.2.1, p.2.2⟩
theorem EvS.int {i : Int} {k pos} : EvS w n sc r (.Constant (.int i) k pos) (.int i) := fun A s env X hs hR I V =>
  wpAny_Constant_int ⟨Eff.tok s _, I, ⟨_, rfl⟩⟩
theorem EvS.str {x : Str} {k pos} : EvS w n sc r (.Constant (.str x) k pos) (.str x) := fun A s env X hs hR I V =>
  wpAny_Constant_str ⟨Eff.tok s _, I, ⟨_, rfl⟩⟩
theorem EvS.bool {b : Bool} {k pos} : EvS w n sc r (.Constant (.bool b) k pos) (.bool b) := fun A s env X hs hR I V =>
  wpAny_Constant_bool ⟨Eff.tok s _, I, rfl⟩
theorem EvS.none {k pos} : EvS w n sc r (.Constant .none k pos) .none := fun A s env X hs hR I V =>
  wpAny_Constant_none ⟨Eff.tok s _, I, rfl⟩
theorem EvS.loc {x : Str} {pos : Pos} {d : D} (hr : r.lookup x = some d) (hk : sc.names.lookup x = some .local) (hd : (x == ("__debug__" : Str)) = false) : EvS w n sc r (.Name x pos) d := fun A s env X hs hR I V => by
  have k := kindOf_eq hs hk
  obtain ⟨m, hn, _, q⟩ := V.ns
  obtain ⟨v, e1, e2⟩ := q x d hr k
  exact wpAny_Name (wpAny_loadName_local V.kind k hn e1 ⟨EffM.refl _ s, I, e2⟩) hd
theorem EvS.cel {x : Str} {pos : Pos} {d : D} (hr : r.lookup x = some d) (hk : sc.names.lookup x = some .cell) (hd : (x == ("__debug__" : Str)) = false) : EvS w n sc r (.Name x pos) d := fun A s env X hs hR I V => by
  have k := kindOf_eq hs hk
  obtain ⟨c, v, e0, e1, e2⟩ := V.cel x d hr (.inl k)
  exact wpAny_Name (wpAny_loadName_cell V.kind k e0 e1 ⟨EffM.refl _ s, I, e2⟩) hd
theorem EvS.fre {x : Str} {pos : Pos} {d : D} (hr : r.lookup x = some d) (hk : sc.names.lookup x = some .free) (hd : (x == ("__debug__" : Str)) = false) (hd2 : (x == ("__classdict__" : Str)) = false) : EvS w n sc r (.Name x pos) d := fun A s env X hs hR I V => by
  have k := kindOf_eq hs hk
  obtain ⟨c, v, e0, e1, e2⟩ := V.cel x d hr (.inr k)
  exact wpAny_Name (wpAny_loadName_free V.kind k e0 e1 ⟨EffM.refl _ s, I, e2⟩ hd2) hd
inductive GD : Str → D → Prop
  | top {x v} : (x, v) ∈ gtab → GD x (.raw v)
  | bui {x v} : (x, v) ∈ btab → GD x (.raw v)
  | charMax : GD "CHAR_MAX" (.int 127)
  | divLimit : GD "_DIV_LIMIT" (.int 4000)
  | empty : GD "EMPTYSTRING" (.str Str.empty)
theorem GD.load {x d} (g : GD x d) {A : Around} {E} {s : Shared} {env : Env} {Q : Value → Shared → Prop} {X : Addr → Prop} (hg : env.globals = mainGlobals) (hb : env.builtins = builtinsNs) (I : Inv s.heap) (h : ∀ v, Rp X s.heap d v → Q v s) : wpAny (model PRG w) A (loadGlobal env x) Q E s := by
  cases g with
  | top hm =>
    obtain ⟨mg, hn, _, q, _⟩ := I.glo
    exact Calls.loadGlobal_global (by rw [hg]; exact hn) (q _ hm) (h _ rfl)
  | bui hm =>
    obtain ⟨mg, hn, _, _, q, _⟩ := I.glo
    obtain ⟨mb, hn', q'⟩ := I.bui
    exact Calls.loadGlobal_builtin (by rw [hg]; exact hn) (q _ hm) (by rw [hb]; exact hn') (q' _ hm) (h _ rfl)
  | charMax =>
    obtain ⟨mg, hn, _, _, _, ⟨t, e⟩, _⟩ := I.glo
    exact Calls.loadGlobal_global (by rw [hg]; exact hn) e (h _ ⟨_, rfl⟩)
  | divLimit =>
    obtain ⟨mg, hn, _, _, _, _, ⟨t, e⟩, _⟩ := I.glo
    exact Calls.loadGlobal_global (by rw [hg]; exact hn) e (h _ ⟨_, rfl⟩)
  | empty =>
    obtain ⟨mg, hn, _, _, _, _, _, ⟨t, e⟩⟩ := I.glo
    exact Calls.loadGlobal_global (by rw [hg]; exact hn) e (h _ ⟨_, rfl⟩)
theorem EvS.glo {x : Str} {pos : Pos} {d : D} (g : GD x d) (hk : sc.names.lookup x = some .globalImplicit) (hd : (x == ("__debug__" : Str)) = false) : EvS w n sc r (.Name x pos) d := fun A s env X hs hR I V => by
  have k := kindOf_eq hs hk
  refine wpAny_Name ?_ hd
  rw [loadName_read V.kind k]
  exact g.load V.glo V.bui I fun v e => ⟨EffM.refl _ s, I, e⟩
noncomputable def BinS (w : World) (n : Nat) (op : Operator) (a b d : D) : Prop := ∀ (A : Around) (s : Shared) (X : Addr → Prop) (va vb : Value), Rm n A → Inv s.heap → XB X s.heap → Rp X s.heap a va → Rp X s.heap b vb →
  wpAny (model PRG w) A (binaryOp op va vb) (fun v s' => EvP X s d v s') (fun _ _ => False) s
noncomputable def CmpS (w : World) (n : Nat) (op : CmpOp) (a b d : D) : Prop := ∀ (A : Around) (s : Shared) (X : Addr → Prop) (va vb : Value), Rm n A → Inv s.heap → XB X s.heap → Rp X s.heap a va → Rp X s.heap b vb →
  wpAny (model PRG w) A (compareOp op va vb) (fun v s' => EvP X s d v s') (fun _ _ => False) s
noncomputable def TruS (w : World) (n : Nat) (d : D) (b : Bool) : Prop := ∀ (A : Around) (s : Shared) (X : Addr → Prop) (v : Value), Rm n A → Inv s.heap → XB X s.heap → Rp X s.heap d v →
  wpAny (model PRG w) A (truthy v) (fun t s' => t = b ∧ Eff s s' ∧ Inv s'.heap) (fun _ _ => False) s
noncomputable def TstS (w : World) (n : Nat) (sc : Scope) (r : List (Str × D)) (e : Expr) (b : Bool) : Prop :=
  ∀ (A : Around) (s : Shared) (env : Env) (X : Addr → Prop), env.scope = sc → Rm n A → Inv s.heap → Vars X env r s.heap →
    wpAny (model PRG w) A (PySem.isTrue e env (eval e env)) (fun t s' => t = b ∧ Eff s s' ∧ Inv s'.heap) (fun _ _ => False) s
theorem EvS.bin {l e : Expr} {op : Operator} {pos : Pos} {a b d : D} (hl : EvS w n sc r l a) (he : EvS w n sc r e b) (ho : BinS w n op a b d) : EvS w n sc r (.BinOp l op e pos) d := fun A s env X hs hR I V =>
  wpAny_BinOp (wpAny_mono (hl A s env X hs hR I V) (fun va s₁ p => wpAny_mono (he A s₁ env X hs hR p.2.1 (V.eff p.1 I)) (fun vb s₂ q =>
    wpAny_mono (ho A s₂ X va vb hR q.2.1 ((V.bnd.eff p.1).eff q.1) (p.2.2.keep (q.1.sk p.2.1)) q.2.2) (fun v s₃ z => (z.trans (p.1.trans q.1) : EvP X s d v s₃)) fun _ _ x => x) fun _ _ x => x) fun _ _ x => x)
theorem EvS.cmp {l e : Expr} {op : CmpOp} {pos : Pos} {a b d : D} (hl : EvS w n sc r l a) (he : EvS w n sc r e b) (ho : CmpS w n op a b d) (hm : behindInMarks op e = false := by rfl) : EvS w n sc r (.Compare l [op] [e] pos) d := fun A s env X hs hR I V =>
  wpAny_Compare1 (wpAny_mono (hl A s env X hs hR I V) (fun va s₁ p => wpAny_mono (he A s₁ env X hs hR p.2.1 (V.eff p.1 I)) (fun vb s₂ q =>
    wpAny_mono (ho A s₂ X va vb hR q.2.1 ((V.bnd.eff p.1).eff q.1) (p.2.2.keep (q.1.sk p.2.1)) q.2.2) (fun v s₃ z => (z.trans (p.1.trans q.1) : EvP X s d v s₃)) fun _ _ x => x) fun _ _ x => x) fun _ _ x => x) hm
theorem TstS.cmp {l e : Expr} {op : CmpOp} {pos : Pos} {a b : D} {t : Bool} (hl : EvS w n sc r l a) (he : EvS w n sc r e b) (ho : CmpS w n op a b (.bool t)) (hm : behindInMarks op e = false := by rfl) : TstS w n sc r (.Compare l [op] [e] pos) t := fun A s env X hs hR I V =>
  wpAny_isTrue_Compare1 (wpAny_mono (hl A s env X hs hR I V) (fun va s₁ p => wpAny_mono (he A s₁ env X hs hR p.2.1 (V.eff p.1 I)) (fun vb s₂ q =>
    wpAny_mono (ho A s₂ X va vb hR q.2.1 ((V.bnd.eff p.1).eff q.1) (p.2.2.keep (q.1.sk p.2.1)) q.2.2) (fun v s₃ z => by
      obtain ⟨z1, z2, z3⟩ := z
      have z3 : v = .bool t := z3
      subst z3
      exact wpAny_truthy_bool ⟨rfl, (p.1.trans q.1).trans z1, z2⟩) fun _ _ x => x) fun _ _ x => x) fun _ _ x => x) hm
theorem TstS.not {e : Expr} {pos : Pos} {b : Bool} (h : TstS w n sc r e b) : TstS w n sc r (.UnaryOp .Not e pos) (!b) := fun A s env X hs hR I V =>
  wpAny_isTrue_Not (wpAny_mono (h A s env X hs hR I V) (fun t s' p => ⟨by rw [p.1], p.2⟩) fun _ _ x => x)
theorem TstS.val {e : Expr} {d : D} {b : Bool} (h : EvS w n sc r e d) (ht : TruS w n d b) (hv : ∀ env whole, PySem.isTrue e env whole = (do let v ← whole; standAt e.pos; holding [v] (truthy v)) := by intro _ _; rfl) : TstS w n sc r e b := fun A s env X hs hR I V =>
  wpAny_isTrue_value (wpAny_mono (h A s env X hs hR I V) (fun v s₁ p => wpAny_mono (ht A s₁ X v hR p.2.1 (V.bnd.eff p.1) p.2.2) (fun t s' q => ⟨q.1, p.1.trans q.2.1, q.2.2⟩) fun _ _ x => x) fun _ _ x => x) (hv _ _)
theorem TstS.or2 {x y : Expr} {pos : Pos} {a b : Bool} (hx : TstS w n sc r x a) (hy : a = false → TstS w n sc r y b) : TstS w n sc r (.BoolOp .Or [x, y] pos) (a || b) := fun A s env X hs hR I V => by
  refine wpAny_isTrue_BoolOp (wpAny_allTrue_Or_cons (wpAny_mono (hx A s env X hs hR I V) (fun t s₁ p => ?_) fun _ _ x => x))
  obtain ⟨rfl, p1, p2⟩ := p
  cases t with
  | true => exact ⟨rfl, p1, p2⟩
  | false =>
    refine wpAny_allTrue_Or_cons (wpAny_mono (hy rfl A s₁ env X hs hR p2 (V.eff p1 I)) (fun t s₂ q => ?_) fun _ _ x => x)
    obtain ⟨rfl, q1, q2⟩ := q
    cases t with
    | true => exact ⟨rfl, p1.trans q1, q2⟩
    | false => exact wpAny_allTrue_Or_nil ⟨rfl, p1.trans q1, q2⟩
theorem EvS.ife {c x y : Expr} {pos : Pos} {t : Bool} {d : D} (hc : TstS w n sc r c t) (hx : t = true → EvS w n sc r x d) (hy : t = false → EvS w n sc r y d) : EvS w n sc r (.IfExp c x y pos) d := fun A s env X hs hR I V => by
  refine wpAny_IfExp (wpAny_mono (hc A s env X hs hR I V) (fun b s₁ p => ?_) fun _ _ x => x)
  obtain ⟨rfl, p1, p2⟩ := p
  cases b with
  | true => exact wpAny_mono (hx rfl A s₁ env X hs hR p2 (V.eff p1 I)) (fun v s₂ q => (q.trans p1 : EvP X s d v s₂)) fun _ _ x => x
  | false => exact wpAny_mono (hy rfl A s₁ env X hs hR p2 (V.eff p1 I)) (fun v s₂ q => (q.trans p1 : EvP X s d v s₂)) fun _ _ x => x
end
end Mine
end
section
-- B2
open PySem PySem.W PyProof.Rows
namespace Mine
variable {w : World}
section
variable {n : Nat}
theorem EvP.val {X : Addr → Prop} {s : Shared} {d : D} {v : Value} {tk : Nat} (I : Inv s.heap) (h : Rp X s.heap d v) : EvP X s d v { s with toks := tk } := ⟨Eff.tok s tk, I, h⟩
theorem EvP.int {X : Addr → Prop} {s : Shared} {i : Int} {t tk : Nat} (I : Inv s.heap) : EvP X s (.int i) (.int i t) { s with toks := tk } := EvP.val I ⟨_, rfl⟩
theorem EvP.str {X : Addr → Prop} {s : Shared} {x : Str} {t tk : Nat} (I : Inv s.heap) : EvP X s (.str x) (.str x t) { s with toks := tk } := EvP.val I ⟨_, rfl⟩
theorem Inv.keeps {h h' : Heap} (I : Inv h) (k : ∀ b o, h.get? b = some o → h'.get? b = some o) : Inv h' := I.low (fun b o _ e => k b o e) fun b o _ e => k b o e
theorem Inv.push {h : Heap} (I : Inv h) (o : Obj) : Inv (h.push o) := I.keeps (fun _ _ e => Heap.get?_push_of_some _ e)
theorem Inv.ext {h h' : Heap} (I : Inv h) {a : Addr} (ha : 196 ≤ a) (k : Heap.ExtBut a h h') (hq : ∀ o, h.get? a = some o → ¬ codish o) : Inv h' :=
  I.low (fun b o hb e => k b o (fun q => by rw [q] at hb; exact absurd hb (Nat.not_lt.mpr ha)) e) fun b o c e => k b o (fun q => by subst q; exact hq o e c) e
theorem Inv.same {h h' : Heap} (I : Inv h) {a : Addr} (ha : 196 ≤ a) (k : Heap.SameBut a h h') (hq : ∀ o, h.get? a = some o → ¬ codish o) : Inv h' := I.ext ha k.extBut hq
theorem ns_notCod {h : Heap} {a : Addr} {m} (n : h.Ns a m) : ∀ o, h.get? a = some o → ¬ codish o := fun o e q => by
  obtain ⟨o', es, ep, e', hd, _⟩ := n
  obtain ⟨vs, _, _, q, _⟩ := q
  rw [e] at e'; cases e'; rw [hd] at q; cases q
theorem cell_notCod {h : Heap} {a : Addr} {m} (n : h.IsCell a m) : ∀ o, h.get? a = some o → ¬ codish o := fun o e q => by
  obtain ⟨o', e', hd⟩ := n
  obtain ⟨vs, _, _, q, _⟩ := q
  rw [e] at e'; cases e'; rw [hd] at q; cases q
theorem seq_notCod {h : Heap} {a : Addr} {o' vs k} (e' : h.get? a = some o') (hd : o'.data = .seq vs k) : ∀ o, h.get? a = some o → ¬ codish o := fun o e q => by
  obtain ⟨vs, _, _, q, _⟩ := q
  rw [e] at e'; cases e'; rw [hd] at q; cases q
theorem none_notCod {h : Heap} {a : Addr} (e' : h.get? a = none) : ∀ o, h.get? a = some o → ¬ codish o := fun o e q => by rw [e'] at e; cases e
theorem SK.push {X : Addr → Prop} {h : Heap} (o : Obj) : SK X h (h.push o) := fun _ _ e _ _ => Heap.get?_push_of_some _ e
theorem Inv.lt {h : Heap} (I : Inv h) {a : Addr} {o : Obj} (e : h.get? a = some o) : a < h.objs.size := Heap.lt_size e
theorem EvP.list {X : Addr → Prop} {s : Shared} {ds : List D} {vs : Array Value} {tk : Nat} (I : Inv s.heap) (hX : XB X s.heap) (h : RpL X s.heap ds vs.toList) :
    EvP X s (.list ds) (.ref s.heap.objs.size) { s with heap := s.heap.push (LObj vs 0), toks := tk } :=
  ⟨Eff.push s _ tk, I.push _, by
    unfold Rp
    exact ⟨_, vs, 0, rfl, hX.fresh, Heap.get?_push_size _ rfl, h.keep (SK.push _)⟩⟩
theorem EvP.tup {X : Addr → Prop} {s : Shared} {ds : List D} {vs : Array Value} {tk : Nat} (I : Inv s.heap) (hX : XB X s.heap) (h : RpL X s.heap ds vs.toList) :
    EvP X s (.tup ds) (.ref s.heap.objs.size) { s with heap := s.heap.push (TObj vs 0), toks := tk } :=
  ⟨Eff.push s _ tk, I.push _, by
    unfold Rp
    exact ⟨_, vs, 0, rfl, hX.fresh, Heap.get?_push_size _ rfl, h.keep (SK.push _)⟩⟩
/-! operators -/
theorem BinS.add {a b : Int} : BinS w n .Add (.int a) (.int b) (.int (a + b)) := fun A s X va vb R I B p q => by
  obtain ⟨t, rfl⟩ := p; obtain ⟨u, rfl⟩ := q
  exact add_int (EvP.int I)
theorem BinS.sub {a b : Int} : BinS w n .Sub (.int a) (.int b) (.int (a - b)) := fun A s X va vb R I B p q => by
  obtain ⟨t, rfl⟩ := p; obtain ⟨u, rfl⟩ := q
  exact sub_int (EvP.int I)
theorem BinS.subB {a b : Bool} : BinS w n .Sub (.bool a) (.bool b) (.int (b2i a - b2i b)) := fun A s X va vb R I B p q => by
  cases (show va = _ from p); cases (show vb = _ from q)
  exact sub_bool (EvP.int I)
theorem BinS.mul {a b : Int} (h : (-(2 ^ 64 : Int) < a ∧ a < 2 ^ 64) ∨ (-(2 ^ 64 : Int) < b ∧ b < 2 ^ 64)) : BinS w n .Mult (.int a) (.int b) (.int (a * b)) := fun A s X va vb R I B p q => by
  obtain ⟨t, rfl⟩ := p; obtain ⟨u, rfl⟩ := q
  exact mul_int (EvP.int I) (h.elim (fun h => IntMulOk.of_left (intBits_le_64 h.1 h.2)) fun h => IntMulOk.of_right (intBits_le_64 h.1 h.2))
theorem BinS.fdiv {a b : Int} (hb : b ≠ 0) (hs : b.natAbs < 1073741824) : BinS w n .FloorDiv (.int a) (.int b) (.int (a.fdiv b)) := fun A s X va vb R I B p q => by
  obtain ⟨t, rfl⟩ := p; obtain ⟨u, rfl⟩ := q
  exact floordiv_int hb (EvP.int I) (.inl (PyProof.noPylong_small hs))
theorem BinS.fmod {a b : Int} (hb : b ≠ 0) : BinS w n .Mod (.int a) (.int b) (.int (a.fmod b)) := fun A s X va vb R I B p q => by
  obtain ⟨t, rfl⟩ := p; obtain ⟨u, rfl⟩ := q
  exact mod_int' hb (EvP.int I)
theorem BinS.shl {a b : Int} (h0 : 0 ≤ b) (h1 : b ≤ 1000000) (h2 : a.natAbs < 2 ^ 64) : BinS w n .LShift (.int a) (.int b) (.int (a * 2 ^ b.toNat)) := fun A s X va vb R I B p q => by
  obtain ⟨t, rfl⟩ := p; obtain ⟨u, rfl⟩ := q
  exact lshift_int_small h0 h1 h2 (EvP.int I)
theorem BinS.shlB {a b : Int} (h0 : 0 ≤ b) (h1 : (Builtin.Int.intBits a : Int) + b ≤ 2 ^ 27) : BinS w n .LShift (.int a) (.int b) (.int (a * 2 ^ b.toNat)) := fun A s X va vb R I B p q => by
  obtain ⟨t, rfl⟩ := p; obtain ⟨u, rfl⟩ := q
  exact lshift_int_or R.handled (fun h => absurd h0 (by omega)) (fun _ => h1) fun _ => EvP.int I
theorem BinS.shr {a b : Int} (h0 : 0 ≤ b) : BinS w n .RShift (.int a) (.int b) (.int (a.fdiv (2 ^ b.toNat))) := fun A s X va vb R I B p q => by
  obtain ⟨t, rfl⟩ := p; obtain ⟨u, rfl⟩ := q
  exact rshift_int_or R.handled (fun h => absurd h0 (by omega)) fun _ => EvP.int I
theorem BinS.xor {a b : Int} : BinS w n .BitXor (.int a) (.int b) (.int (Builtin.bitXor a b)) := fun A s X va vb R I B p q => by
  obtain ⟨t, rfl⟩ := p; obtain ⟨u, rfl⟩ := q
  exact xor_int (EvP.int I)
theorem BinS.pow10 {b : Int} (h0 : 0 ≤ b) (h1 : b ≤ 1000) : BinS w n .Pow (.int 10) (.int b) (.int (10 ^ b.toNat)) := fun A s X va vb R I B p q => by
  obtain ⟨t, rfl⟩ := p; obtain ⟨u, rfl⟩ := q
  by_cases hb : b = 0
  · subst hb
    exact AutoIntOps.pow_0 (by omega) (by decide) (show EvP X s (.int 1) (.int 1 s.toks) _ from EvP.int I)
  · refine AutoIntOps.pow_4 (by omega) (by simpa using hb) (by decide) (by decide) ?_ (show EvP X s _ (.int _ s.toks) _ from EvP.int I)
    have : Builtin.Int.intBits 10 ≤ 64 := intBits_le_64 (by decide) (by decide)
    have h2 : ((Builtin.Int.intBits 10 : Nat) : Int) * b ≤ 64 * 1000 := Int.mul_le_mul (by omega) h1 h0 (by decide)
    simp only [Builtin.Int.intTooBig, decide_eq_true_eq]
    have : (bitsLine : Int) = 134217728 := by decide
    omega
theorem BinS.addS {a b : Str} (h : a.length + b.length ≤ sizeLine) : BinS w n .Add (.str a) (.str b) (.str (a ++ b)) := fun A s X va vb R I B p q => by
  obtain ⟨t, rfl⟩ := p; obtain ⟨u, rfl⟩ := q
  exact add_str (fun _ _ => EvP.str I) h
theorem BinS.mulS {a : Str} {b : Int} (h : MulOk a b) : BinS w n .Mult (.str a) (.int b) (.str (Txt.mul a b)) := fun A s X va vb R I B p q => by
  obtain ⟨t, rfl⟩ := p; obtain ⟨u, rfl⟩ := q
  exact SB.mul h fun _ _ => EvP.str I
theorem BinS.addL {a b : List D} (h : a.length + b.length ≤ sizeLine) : BinS w n .Add (.list a) (.list b) (.list (a ++ b)) := fun A s X va vb R I B p q => by
  unfold Rp at p q
  obtain ⟨l, vs, k, rfl, hx, hl, hr⟩ := p
  obtain ⟨l2, vs2, k2, rfl, hx2, hl2, hr2⟩ := q
  have e1 := hr.length; have e2 := hr2.length
  simp only [Array.length_toList] at e1 e2
  exact P.add_list hl hl2 (EvP.list (tk := s.toks) I B (by rw [Array.toList_append]; exact hr.append hr2)) (by omega)
end
end Mine
end
section
-- B3
open PySem PySem.W PyProof.Rows
namespace Mine
variable {w : World}
section
variable {n : Nat} {sc : Scope} {r : List (Str × D)}
theorem foldl_flat {α : Type} : ∀ (l : List (Array α)) (acc : Array α), (l.foldl (fun x1 x2 => x1 ++ x2) acc).toList = acc.toList ++ (l.map Array.toList).flatten
  | [], acc => by simp
  | a :: l, acc => by rw [List.foldl_cons, foldl_flat l]; simp
theorem RpL.rep {X : Addr → Prop} {h : Heap} {ds : List D} {vs : List Value} (x : RpL X h ds vs) : ∀ k : Nat, RpL X h (List.replicate k ds).flatten (List.replicate k vs).flatten
  | 0 => RpL.nil
  | k + 1 => by rw [List.replicate_succ, List.replicate_succ, List.flatten_cons, List.flatten_cons]; exact x.append (x.rep k)
theorem BinS.mulL {a : List D} {b : Int} (hlo : -(2 ^ 63 : Int) ≤ b) (hhi : b < 2 ^ 63) (h : a.length * b.toNat ≤ 2 ^ 24) : BinS w n .Mult (.list a) (.int b) (.list (List.replicate b.toNat a).flatten) := fun A s X va vb R I B p q => by
  unfold Rp at p
  obtain ⟨l, vs, k, rfl, hx, hl, hr⟩ := p
  obtain ⟨u, rfl⟩ := q
  have e1 := hr.length
  simp only [Array.length_toList] at e1
  have hsz : vs.size * b.toNat ≤ 2 ^ 24 := by rw [e1]; exact h
  refine wpAny_binaryOp_repeat_ref (T := "list") (U := "int") (by decide) ⟨_, hl, rfl⟩ (fun s' => typeIs_int s' b u) noFill_list_mul F.fills_int_mul F.slot_int_rmul repeat_list F.slot_int_index.lookup
    (call_meets F.slot_int_rmul (typeIs_int s b u) F.entry_int_rmul (F.args_int_rmul_2 _ _) (int___rmul___int_list b u l vs k)
      ⟨hl, rfl, ⟨_, hl, rfl⟩, call_meets F.slot_list_mul ⟨_, hl, rfl⟩ F.entry_list_mul (F.args_list_mul_2 _ _)
        (AutoListH.list___mul___list_int_3 l vs k b u (by simp [Builtin.List.listFitsIndex]; omega) (by omega) (by simp [Builtin.List.listTooLong, sizeLine]; omega))
        ⟨hl, EvP.list (tk := s.toks) I B ?_⟩⟩)
  rw [foldl_flat]
  cases hv : vs.isEmpty with
  | true =>
    have : vs = #[] := by simpa using hv
    subst this
    have : a = [] := by simpa using e1.symm
    subst this
    simpa using RpL.nil
  | false =>
    simp only [Bool.false_eq_true, if_false, List.map_replicate]
    simpa using hr.rep b.toNat
noncomputable def EvL (w : World) (n : Nat) (sc : Scope) (r : List (Str × D)) (es : List Expr) (ds : List D) : Prop :=
  ∀ (A : Around) (s : Shared) (env : Env) (X : Addr → Prop) (pos : Pos), env.scope = sc → Rm n A → Inv s.heap → Vars X env r s.heap →
    wpAny (model PRG w) A (spliced (backTo pos (starEach es env))) (fun vs s' => Eff s s' ∧ Inv s'.heap ∧ RpL X s'.heap ds vs) (fun _ _ => False) s ∧ (backTo pos (starEach es env)).any (·.1) = false
theorem EvL.nil : EvL w n sc r [] [] := fun A s env X pos hs R I V => ⟨Calls.spliced_nil ⟨EffM.refl _ s, I, RpL.nil⟩, rfl⟩
theorem EvL.cons {e : Expr} {es : List Expr} {d : D} {ds : List D} (h : EvS w n sc r e d) (ht : EvL w n sc r es ds) (hst : ∀ env, starEach (e :: es) env = (false, eval e env) :: starEach es env := by intro _; rfl) : EvL w n sc r (e :: es) (d :: ds) := fun A s env X pos hs R I V => by
  rw [hst env]
  have e : ∀ l, backTo pos ((false, eval e env) :: l) = (false, eval e env) :: backTo pos l := fun _ => rfl
  rw [e]
  refine ⟨Calls.spliced_cons (wpAny_mono (h A s env X hs R I V) (fun v s₁ p => wpAny_mono (ht A s₁ env X pos hs R p.2.1 (V.eff p.1 I)).1 (fun vs s₂ q => ?_) fun _ _ x => x) fun _ _ x => x), ?_⟩
  · exact ⟨p.1.trans q.1, q.2.1, RpL.cons (p.2.2.keep (q.1.sk p.2.1)) q.2.2⟩
  · have := (ht A s env X pos hs R I V).2
    rw [List.any_cons, this]; rfl
theorem EvS.listD {es : List Expr} {ds : List D} {pos : Pos} (h : EvL w n sc r es ds) (hz : ds.length ≤ sizeLine) : EvS w n sc r (.List es pos) (.list ds) := fun A s env X hs R I V => by
  refine wpAny_List_spliced (wpAny_mono (h A s env X pos hs R I V).1 (fun vs s₁ p => ⟨by rw [p.2.2.length]; exact hz, ?_⟩) fun _ _ x => x)
  exact EvP.trans p.1 (EvP.list (tk := s₁.toks) p.2.1 (V.bnd.eff p.1) (by simpa using p.2.2))
theorem EvS.tupD {es : List Expr} {ds : List D} {k : Nat} {pos : Pos} (h : EvL w n sc r es ds) (hz : ds.length ≤ sizeLine) : EvS w n sc r (.Tuple es k pos) (.tup ds) := fun A s env X hs R I V => by
  refine wpAny_Tuple_spliced (wpAny_mono (h A s env X pos hs R I V).1 (fun vs s₁ p => ⟨by rw [p.2.2.length]; exact hz, ?_⟩) fun _ _ x => x)
  exact EvP.trans p.1 (EvP.tup (tk := s₁.toks) p.2.1 (V.bnd.eff p.1) (by simpa using p.2.2))
theorem EvS.neg {e : Expr} {pos : Pos} {i : Int} (h : EvS w n sc r e (.int i)) : EvS w n sc r (.UnaryOp .USub e pos) (.int (-i)) := fun A s env X hs R I V => by
  refine wpAny_UnaryOp (wpAny_mono (h A s env X hs R I V) (fun v s₁ p => ?_) fun _ _ x => x)
  obtain ⟨p1, p2, t, rfl⟩ := p
  exact neg_int (EvP.trans p1 (EvP.int p2))
theorem EvS.notV {e : Expr} {pos : Pos} {d : D} {b : Bool} (h : EvS w n sc r e d) (ht : TruS w n d b) : EvS w n sc r (.UnaryOp .Not e pos) (.bool (!b)) := fun A s env X hs R I V => by
  refine wpAny_UnaryOp (wpAny_mono (h A s env X hs R I V) (fun v s₁ p => ?_) fun _ _ x => x)
  obtain ⟨p1, p2, p3⟩ := p
  refine not_of (wpAny_mono (ht A s₁ X v R p2 (V.bnd.eff p1) p3) (fun t s₂ q => ?_) fun _ _ x => x)
  obtain ⟨rfl, q1, q2⟩ := q
  exact ⟨p1.trans q1, q2, rfl⟩
theorem EvS.item {e i : Expr} {pos : Pos} {ds : List D} {k : Int} {d : D} (he : EvS w n sc r e (.list ds)) (hi : EvS w n sc r i (.int k)) (h0 : 0 ≤ k) (hk : ds[k.toNat]? = some d) (hz : ds.length < 2 ^ 62)
    (hs' : ∀ o v, subscripted i false o v = operate [o, v] (getItem o v) := by intro _ _; rfl) : EvS w n sc r (.Subscript e i pos) d := fun A s env X hs R I V => by
  refine Subscript_ (wpAny_mono (he A s env X hs R I V) (fun v s₁ p => wpAny_mono (hi A s₁ env X hs R p.2.1 (V.eff p.1 I)) (fun v2 s₂ q => ?_) fun _ _ x => x) fun _ _ x => x)
  obtain ⟨q1, q2, t, rfl⟩ := q
  have p3 := p.2.2.keep (q1.sk p.2.1)
  unfold Rp at p3
  obtain ⟨l, vs, m, rfl, hx, hl, hr⟩ := p3
  obtain ⟨x, e1, e2⟩ := hr.get hk
  have hlt : k.toNat < ds.length := by
    rw [List.getElem?_eq_some_iff] at hk; exact hk.1
  exact tail_any (T := "list") ⟨_, hl, rfl⟩ list_getitem_lookup (wpAny_getItem_list (LObj.isList hl) h0 (by omega) (by simpa using e1) ⟨p.1.trans q1, q2, e2⟩) (hs' _ _)
theorem EvS.itemNeg {e i : Expr} {pos : Pos} {ds : List D} {k : Int} {d : D} (he : EvS w n sc r e (.list ds)) (hi : EvS w n sc r i (.int k)) (h0 : k < 0) (hb : -(ds.length : Int) ≤ k) (hk : ds[(k + ds.length).toNat]? = some d) (hz : ds.length < 2 ^ 62)
    (hs' : ∀ o v, subscripted i false o v = operate [o, v] (getItem o v) := by intro _ _; rfl) : EvS w n sc r (.Subscript e i pos) d := fun A s env X hs R I V => by
  refine Subscript_ (wpAny_mono (he A s env X hs R I V) (fun v s₁ p => wpAny_mono (hi A s₁ env X hs R p.2.1 (V.eff p.1 I)) (fun v2 s₂ q => ?_) fun _ _ x => x) fun _ _ x => x)
  obtain ⟨q1, q2, t, rfl⟩ := q
  have p3 := p.2.2.keep (q1.sk p.2.1)
  unfold Rp at p3
  obtain ⟨l, vs, m, rfl, hx, hl, hr⟩ := p3
  obtain ⟨x, e1, e2⟩ := hr.get hk
  have e3 := hr.length
  simp only [Array.length_toList] at e3
  exact tail_any (T := "list") ⟨_, hl, rfl⟩ list_getitem_lookup (wpAny_getItem_list_neg (LObj.isList hl) h0 (by omega) (by omega) (by rw [e3]; simpa using e1) ⟨p.1.trans q1, q2, e2⟩) (hs' _ _)
theorem EvS.itemT {e i : Expr} {pos : Pos} {ds : List D} {k : Int} {d : D} (he : EvS w n sc r e (.tup ds)) (hi : EvS w n sc r i (.int k)) (h0 : 0 ≤ k) (hk : ds[k.toNat]? = some d) (hz : ds.length < 2 ^ 62)
    (hs' : ∀ o v, subscripted i false o v = operate [o, v] (getItem o v) := by intro _ _; rfl) : EvS w n sc r (.Subscript e i pos) d := fun A s env X hs R I V => by
  refine Subscript_ (wpAny_mono (he A s env X hs R I V) (fun v s₁ p => wpAny_mono (hi A s₁ env X hs R p.2.1 (V.eff p.1 I)) (fun v2 s₂ q => ?_) fun _ _ x => x) fun _ _ x => x)
  obtain ⟨q1, q2, t, rfl⟩ := q
  have p3 := p.2.2.keep (q1.sk p.2.1)
  unfold Rp at p3
  obtain ⟨l, vs, m, rfl, hx, hl, hr⟩ := p3
  obtain ⟨x, e1, e2⟩ := hr.get hk
  have hlt : k.toNat < ds.length := by
    rw [List.getElem?_eq_some_iff] at hk; exact hk.1
  have e3 := hr.length
  simp only [Array.length_toList] at e3
  refine tail_any (T := "tuple") ⟨_, hl, rfl⟩ slot_tuple_getitem.lookup (PyProof.Rows.getItem_tuple (j := k.toNat) ⟨_, hl, rfl, m, rfl⟩ (by omega) (by omega) ?_ (by simpa using e1) ⟨p.1.trans q1, q2, e2⟩) (hs' _ _)
  unfold seqIndex?
  rw [e3]
  have hn : ¬ k < 0 := by omega
  simp only [if_neg hn]
  rw [if_pos (by rw [decide_eq_true h0, decide_eq_true (show k < (ds.length : Int) by omega)]; rfl)]
inductive Part (w : World) (n : Nat) (sc : Scope) (r : List (Str × D)) : Option Expr → Option Int → Prop
  | none : Part w n sc r none none
  | some {e : Expr} {i : Int} : EvS w n sc r e (.int i) → Part w n sc r (some e) (some i)
theorem Part.ev {e : Option Expr} {i : Option Int} (p : Part w n sc r e i) {A : Around} {s : Shared} {env : Env} {X : Addr → Prop} (hs : env.scope = sc) (R : Rm n A) (I : Inv s.heap) (V : Vars X env r s.heap) :
    wpAny (model PRG w) A (evalPart e env) (fun v s' => Eff s s' ∧ Inv s'.heap ∧ IsPart v i) (fun _ _ => False) s := by
  cases p with
  | none => exact wpAny_evalPart_none ⟨EffM.refl _ s, I, IsPart.none⟩
  | some h => exact wpAny_evalPart_some (wpAny_mono (h A s env X hs R I V) (fun v s' q => by obtain ⟨a, b, t, rfl⟩ := q; exact ⟨a, b, IsPart.int _ _⟩) fun _ _ x => x)
noncomputable def pick (ds : List D) (lo hi st : Option Int) : List D :=
  (sliceRange (sliceBounds lo hi st ds.length).1 (sliceBounds lo hi st ds.length).2.1 (sliceBounds lo hi st ds.length).2.2).filterMap (ds[·]?)
theorem EvS.slice {e : Expr} {l u st : Option Expr} {pos p : Pos} {ds : List D} {lo hi sti : Option Int} (he : EvS w n sc r e (.list ds)) (hl : Part w n sc r l lo) (hu : Part w n sc r u hi) (hst : Part w n sc r st sti) (h0 : sti ≠ some 0) (hz : ds.length ≤ sizeLine)
    (hs' : ∀ o v, ∃ ops, subscripted (.Slice l u st p) false o v = operate ops (getItem o v) := by intro _ _; exact ⟨_, rfl⟩) : EvS w n sc r (.Subscript e (.Slice l u st p) pos) (.list (pick ds lo hi sti)) := fun A s env X hs R I V => by
  refine Subscript_ (wpAny_mono (he A s env X hs R I V) (fun v s₁ p => wpAny_Slice (wpAny_mono (hl.ev hs R p.2.1 (V.eff p.1 I)) (fun v1 s₂ q => wpAny_mono (hu.ev hs R q.2.1 ((V.eff p.1 I).eff q.1 p.2.1)) (fun v2 s₃ q2 =>
    wpAny_mono (hst.ev hs R q2.2.1 (((V.eff p.1 I).eff q.1 p.2.1).eff q2.1 q.2.1)) (fun v3 s₄ q3 => ?_) fun _ _ x => x) fun _ _ x => x) fun _ _ x => x)) fun _ _ x => x)
  have E1 : Eff s s₄ := (p.1.trans q.1).trans (q2.1.trans q3.1)
  have E2 : Eff s₁ s₄ := q.1.trans (q2.1.trans q3.1)
  have p3 := p.2.2.keep (E2.sk p.2.1)
  unfold Rp at p3
  obtain ⟨a, vs, m, rfl, hx, hla, hr⟩ := p3
  have e3 := hr.length
  simp only [Array.length_toList] at e3
  obtain ⟨ops, ho⟩ := hs' (.ref a) (.ref s₄.heap.objs.size)
  have hla' : (s₄.heap.push { cls := .type "slice", data := .fields #[v1, v2, v3] }).get? a = some (LObj vs m) := Heap.get?_push_of_some _ hla
  have b4 := (V.bnd.eff E1)
  refine tail_any (T := "list") ⟨_, hla', rfl⟩ list_getitem_lookup (wpAny_getItem_list_slice (lo := lo) (hi := hi) (st := sti) (LObj.isList hla') ⟨_, Heap.get?_push_size _ rfl, rfl, rfl⟩ q.2.2 q2.2.2 q3.2.2 h0 ?_ (by omega)) ho
  refine EvP.trans (E1.trans (Eff.push s₄ { cls := .type "slice", data := .fields #[v1, v2, v3] } s₄.toks)) (EvP.list (tk := s₄.toks) (q3.2.1.push _) (b4.eff (Eff.push s₄ _ s₄.toks)) ?_)
  unfold slicePick pick
  rw [← e3]
  have := (hr.keep (SK.push { cls := .type "slice", data := .fields #[v1, v2, v3] })).map_filterMap (sliceRange (sliceBounds lo hi sti vs.size).1 (sliceBounds lo hi sti vs.size).2.1 (sliceBounds lo hi sti vs.size).2.2)
  simpa using this
end
end Mine
end
section
-- B4
open PySem PySem.W PyProof.Rows
namespace Mine
variable {w : World}
/-! iterators -/
noncomputable def rngItems (a c : Int) (k : Nat) : List D := (List.range k).map fun (j : Nat) => .int (a + c * j)
theorem rngItems_succ (a c : Int) (k : Nat) : rngItems a c (k + 1) = .int a :: rngItems (a + c) c k := by
  unfold rngItems
  rw [List.range_succ_eq_map, List.map_cons, List.map_map]
  congr 1
  · simp
  · apply List.map_congr_left
    intro j _
    show D.int (a + c * ((j + 1 : Nat) : Int)) = D.int (a + c + c * (j : Int))
    congr 1
    push_cast
    rw [Int.mul_add]; omega
inductive ItAt (X : Addr → Prop) (h : Heap) (I : Addr) : List D → Prop
  | list {l i vs k ds} : h.IsListIter I l i → h.get? l = some (LObj vs k) → ¬ X l → RpL X h ds (vs.toList.drop i) → ItAt X h I ds
  | rng {x step k} : IsRangeIter h I x (k : Nat) step → ItAt X h I (rngItems x step k)
  | rev {l vs} {k n : Nat} {ds} : h.IsRevIter I l ((k : Int) - 1) → h.get? l = some (LObj vs n) → ¬ X l → RpL X h ds (vs.toList.take k) → ds.length = k → ItAt X h I ds.reverse
theorem ItAt.fld {X h I ds} (x : ItAt X h I ds) : ∃ o vs, h.get? I = some o ∧ ¬ seqish o ∧ o.cls ≠ .none ∧ o.data = .fields vs ∧ ¬ codish o := by
  cases x with
  | list a b c d => obtain ⟨o, e, cl, e2⟩ := a; exact ⟨o, _, e, seqish.not cl e2 (by decide), by rw [cl]; nofun, e2, fun ⟨vs, _, _, q, q'⟩ => by rw [e2] at q; cases q; cases q'⟩
  | rng a => exact ⟨_, _, a, seqish.not rfl rfl (by decide), nofun, rfl, fun ⟨vs, _, _, q, q'⟩ => by cases q; cases q'⟩
  | rev a b c d => obtain ⟨o, e, cl, e2⟩ := a; exact ⟨o, _, e, seqish.not cl e2 (by decide), by rw [cl]; nofun, e2, fun ⟨vs, _, _, q, q'⟩ => by rw [e2] at q; cases q; cases q'⟩
theorem ItAt.get {X h I ds} (x : ItAt X h I ds) : ∃ o, h.get? I = some o ∧ ¬ seqish o ∧ o.cls ≠ .none := by
  obtain ⟨o, vs, a, b, c, _⟩ := x.fld; exact ⟨o, a, b, c⟩
theorem ItAt.noCod {X h I ds} (x : ItAt X h I ds) : ∀ o, h.get? I = some o → ¬ codish o := fun o e => by
  obtain ⟨o', vs, a, _, _, _, b⟩ := x.fld
  rw [e] at a; cases a; exact b
theorem ItAt.noCell {X h I ds} (x : ItAt X h I ds) {v} : ¬ h.IsCell I v := fun c => by
  obtain ⟨o, vs, a, _, _, b, _⟩ := x.fld
  obtain ⟨o', e, f⟩ := c
  rw [a] at e; cases e; rw [b] at f; cases f
theorem ItAt.noNs {X h I ds} (x : ItAt X h I ds) {m} : ¬ h.Ns I m := fun c => by
  obtain ⟨o, vs, a, _, _, b, _⟩ := x.fld
  obtain ⟨o', es, ep, e, f, _⟩ := c
  rw [a] at e; cases e; rw [b] at f; cases f
theorem ItAt.keep {X h h' I ds} (x : ItAt X h I ds) (k : ∀ o, h.get? I = some o → h'.get? I = some o) (sk : SK X h h') : ItAt X h' I ds := by
  cases x with
  | list a b c d =>
    obtain ⟨o, e, r⟩ := a
    exact .list ⟨o, k o e, r⟩ (sk _ _ b .list c) c (d.keep sk)
  | rng a => exact .rng (k _ a)
  | rev a b c d e => exact .rev (a.at k) (sk _ _ b .list c) c (d.keep sk) e
theorem ItAt.mono {X Y : Addr → Prop} {h h' I ds} (x : ItAt X h I ds) (k : ∀ o, h.get? I = some o → h'.get? I = some o) (hY : ∀ a, Y a → X a ∨ h.get? a = none) (sk : SK X h h') : ItAt Y h' I ds := by
  cases x with
  | list a b c d =>
    obtain ⟨o, e, r⟩ := a
    exact .list ⟨o, k o e, r⟩ (sk _ _ b .list c) (fun y => (hY _ y).elim c fun q => by rw [q] at b; cases b) (d.mono hY sk)
  | rng a => exact .rng (k _ a)
  | rev a b c d e => exact .rev (a.at k) (sk _ _ b .list c) (fun y => (hY _ y).elim c fun q => by rw [q] at b; cases b) (d.mono hY sk) e
section
variable {A : Around} {E : Value → Shared → Prop} {s : Shared} {X : Addr → Prop} {I : Addr}
theorem sk_sameBut {h h' : Heap} (hs : Heap.SameBut I h h') (hI : ∀ o, h.get? I = some o → ¬ seqish o) : SK X h h' := fun b o e c _ => (hs.2 b fun q => hI o (q ▸ e) c).trans e
theorem sk_extBut {h h' : Heap} (hs : Heap.ExtBut I h h') (hI : ∀ o, h.get? I = some o → ¬ seqish o) : SK X h h' := fun b o e c _ => hs b o (fun q => hI o (q ▸ e) c) e
theorem next_item {d : D} {ds : List D} {Q : Option Value → Shared → Prop} (hi : ItAt X s.heap I (d :: ds))
    (h : ∀ v h' tk, Rp X h' d v → ItAt X h' I ds → Heap.SameBut I s.heap h' → Q (some v) { s with heap := h', toks := tk }) : wpAny (model PRG w) A (pyNext (.ref I)) Q E s := by
  obtain ⟨oI, eI, nI, _⟩ := hi.get
  have nI' : ∀ o, s.heap.get? I = some o → ¬ seqish o := fun o e => by rw [eI] at e; cases e; exact nI
  generalize hg : d :: ds = dd at hi
  cases hi with
  | @list l i vs k _ a b c dr =>
    subst hg
    obtain ⟨v, r, e1, e2, e3⟩ := dr.cons_inv
    have hv : vs[i]? = some v := by
      have : (vs.toList.drop i)[0]? = some v := by rw [e1]; rfl
      simpa using this
    refine wpAny_pyNext_list_item a (LObj.isList b) hv fun h' hi' hs => ?_
    have sk : SK X s.heap h' := sk_sameBut hs nI'
    refine h v h' s.toks (e2.keep sk) (.list hi' (sk _ _ b .list c) c ?_) hs
    have : vs.toList.drop (i + 1) = r := by rw [← List.drop_drop, e1]; rfl
    rw [this]; exact e3.keep sk
  | @rng x step k a =>
    cases k with
    | zero => simp [rngItems] at hg
    | succ k =>
      rw [rngItems_succ] at hg
      cases hg
      refine wpAny_pyNext_range_item a (by omega) fun h' hi' hs => h _ h' _ ⟨_, rfl⟩ ?_ hs
      have e : ((k + 1 : Nat) : Int) - 1 = (k : Nat) := by omega
      rw [e] at hi'
      exact .rng hi'
  | @rev l vs k n ds' a b c dr hlen =>
    have hl2 := dr.length
    cases k with
    | zero =>
      have : ds' = [] := by simpa using hlen
      subst this
      cases hg
    | succ k =>
      have hdr : ds' = ds.reverse ++ [d] := by
        have := congrArg List.reverse hg
        simpa using this.symm
      subst hdr
      have hk : ds.reverse.length = k := by simpa using hlen
      obtain ⟨v, e1, e2⟩ := dr.get (i := k) (d := d) (by rw [List.getElem?_append_right (Nat.le_of_eq hk), hk, Nat.sub_self]; rfl)
      have hv : vs[k]? = some v := by
        rw [List.getElem?_take] at e1
        have e1 : vs.toList[k]? = some v := by simpa using e1
        simpa using e1
      have dr' : RpL X s.heap ds.reverse (vs.toList.take k) := by
        have h1 := dr.take k
        rw [List.take_append_of_le_length (Nat.le_of_eq hk.symm), List.take_of_length_le (Nat.le_of_eq hk), List.take_take] at h1
        simpa using h1
      have e' : ((k + 1 : Nat) : Int) - 1 = (k : Int) := by omega
      rw [e'] at a
      refine wpAny_pyNext_rev_item (l := l) (i := k) a (LObj.isList b) hv fun h' hi' hs => ?_
      have sk : SK X s.heap h' := sk_sameBut hs nI'
      refine h v h' s.toks (e2.keep sk) ?_ hs
      have := ItAt.rev (X := X) (h := h') (I := I) (l := l) (vs := vs) (k := k) (ds := ds.reverse) (n := n) hi' (sk _ _ b .list c) c (dr'.keep sk) hk
      rw [List.reverse_reverse] at this; exact this
theorem next_end {Q : Option Value → Shared → Prop} (hh : A.handled = none) (hi : ItAt X s.heap I [])
    (h : ∀ h', Heap.ExtBut I s.heap h' → Q none { s with heap := h' }) : wpAny (model PRG w) A (pyNext (.ref I)) Q E s := by
  generalize hg : ([] : List D) = dd at hi
  cases hi with
  | @list l i vs k _ a b c dr =>
    subst hg
    have e := dr.nil_inv
    refine wpAny_pyNext_list_end hh a (LObj.isList b) ?_ h
    have : (vs.toList.drop i)[0]? = none := by rw [e]; rfl
    simpa using this
  | @rng x step k a =>
    cases k with
    | zero => exact wpAny_pyNext_range_end hh a (by omega) h
    | succ k => rw [rngItems_succ] at hg; cases hg
  | @rev l vs k n ds' a b c dr hlen =>
    have : ds' = [] := by simpa using congrArg List.reverse hg.symm
    subst this
    have : k = 0 := hlen.symm
    subst this
    exact wpAny_pyNext_rev_end (l := l) hh a h
theorem iter_self {ds : List D} {Q : Value → Shared → Prop} (hi : ItAt X s.heap I ds) (h : Q (.ref I) s) : wpAny (model PRG w) A (pyIter (.ref I)) Q E s := by
  cases hi with
  | list a _ _ _ => exact wpAny_pyIter_listiter a h
  | rng a => exact wpAny_pyIter_rangeiter a h
  | rev a => exact wpAny_pyIter_revIter a h
inductive Items : D → List D → Prop
  | list {ds} : Items (.list ds) ds
  | rng {a b c k} : Builtin.Range.small a b c = true → Builtin.Range.rangeSize a b c = (k : Nat) → Items (.rng a b c) (rngItems a c k)
theorem iter_make {d : D} {ds : List D} {v : Value} {Q : Value → Shared → Prop} (hit : Items d ds) (hr : Rp X s.heap d v)
    (h : ∀ o : Obj, o.isFreed = false → ¬ seqish o → ItAt X (s.heap.push o) s.heap.objs.size ds → Q (.ref s.heap.objs.size) { s with heap := s.heap.push o }) : wpAny (model PRG w) A (pyIter v) Q E s := by
  cases hit with
  | list =>
    unfold Rp at hr
    obtain ⟨l, vs, k, rfl, hx, hl, hd⟩ := hr
    refine wpAny_pyIter_list (LObj.isList hl) (h _ rfl (seqish.not rfl rfl (by decide)) (.list (i := 0) ⟨_, Heap.get?_push_size _ rfl, rfl, rfl⟩ (Heap.get?_push_of_some _ hl) hx (by simpa using hd.keep (SK.push _))))
  | rng h1 h2 =>
    unfold Rp at hr
    obtain ⟨r, t1, t2, t3, rfl, hx, hl⟩ := hr
    refine wpAny_pyIter_range hl h1 (h _ rfl (seqish.not rfl rfl (by decide)) ?_)
    rw [h2]
    exact .rng (Heap.get?_push_size _ rfl)
end
/-! closures -/
noncomputable def closOf (cells : List (Str × Addr)) : List (Str × NameKind) → List (Str × Addr) → List (Str × Addr)
  | [], acc => acc
  | p :: q, acc => if p.2 == .free then closOf cells q ((p.1, (cells.lookup p.1).getD 0) :: acc) else closOf cells q acc
theorem closureFor_eq {scope : Scope} {env : Env} (h : ∀ n, (n, NameKind.free) ∈ scope.names → ∃ c, env.cells.lookup n = some c) : closureFor scope env = pure (closOf env.cells scope.names []) := by
  unfold closureFor
  have key : ∀ (l : List (Str × NameKind)) (acc : List (Str × Addr)), (∀ n, (n, NameKind.free) ∈ l → ∃ c, env.cells.lookup n = some c) →
      (forIn l acc (fun (x : Str × NameKind) (cs : List (Str × Addr)) => (if x.2 == NameKind.free then (do let y ← cellOf env x.1; pure (ForInStep.yield ((x.1, y) :: cs))) else pure (ForInStep.yield cs) : Sem _))) = pure (closOf env.cells l acc) := by
    intro l
    induction l with
    | nil => intro acc _; rfl
    | cons p l ih =>
      intro acc hl
      obtain ⟨x, k⟩ := p
      rw [List.forIn_cons]
      unfold closOf
      cases hk : (k == NameKind.free) with
      | true =>
        have hk' : k = .free := by simpa using hk
        subst hk'
        obtain ⟨c, e⟩ := hl x (List.mem_cons_self ..)
        simp only [if_true]
        unfold cellOf
        simp only [e, Option.getD_some]
        exact ih _ fun n hn => hl n (List.mem_cons_of_mem _ hn)
      | false =>
        simp only [Bool.false_eq_true, if_false]
        exact ih _ fun n hn => hl n (List.mem_cons_of_mem _ hn)
  exact congrArg (fun (t : Sem (List (Str × Addr))) => t >>= fun s => pure s) (key scope.names [] h)
theorem closOf_lookup {cells : List (Str × Addr)} {x : Str} {c : Addr} (e : cells.lookup x = some c) : ∀ (l : List (Str × NameKind)) (acc : List (Str × Addr)), ((x, NameKind.free) ∈ l ∨ acc.lookup x = some c) → (closOf cells l acc).lookup x = some c
  | [], acc, h => h.elim (fun q => nomatch q) id
  | (y, k) :: l, acc, h => by
    unfold closOf
    cases hk : (k == NameKind.free) with
    | true =>
      have hk' : k = .free := by simpa using hk
      subst hk'
      rw [if_pos rfl]
      refine closOf_lookup e l _ ?_
      by_cases hy : x = y
      · subst hy
        right
        rw [List.lookup_cons, beq_self_eq_true, e]; rfl
      · rcases h with h | h
        · rcases List.mem_cons.mp h with q | q
          · cases q; exact absurd rfl hy
          · exact .inl q
        · right
          rw [List.lookup_cons]
          have : (x == y) = false := by simpa using hy
          rw [this]; exact h
    | false =>
      simp only [Bool.false_eq_true, if_false]
      refine closOf_lookup e l _ (h.imp (fun q => ?_) id)
      rcases List.mem_cons.mp q with q | q
      · cases q; simp at hk
      · exact q
theorem closOf_has {cells : List (Str × Addr)} {x : Str} : ∀ (l : List (Str × NameKind)) (acc : List (Str × Addr)), (∀ a, (x, a) ∉ acc) → (x, NameKind.free) ∉ l → (closOf cells l acc).lookup x = none := by
  intro l
  induction l with
  | nil =>
    intro acc h _
    show acc.lookup x = none
    rw [List.lookup_eq_none_iff]
    intro p hp
    simp only [bne_iff_ne, ne_eq]
    intro q
    exact h p.2 (by have : p = (x, p.2) := by rw [q]
                    rw [← this]; exact hp)
  | cons p l ih =>
    intro acc h hl
    obtain ⟨y, k⟩ := p
    unfold closOf
    cases hk : (k == NameKind.free) with
    | true =>
      have hk' : k = .free := by simpa using hk
      subst hk'
      rw [if_pos rfl]
      refine ih _ (fun a ha => ?_) fun q => hl (List.mem_cons_of_mem _ q)
      rcases List.mem_cons.mp ha with q | q
      · cases q; exact hl (List.mem_cons_self ..)
      · exact h a q
    | false =>
      simp only [Bool.false_eq_true, if_false]
      exact ih _ h fun q => hl (List.mem_cons_of_mem _ q)
end Mine
end
section
-- B5
open PySem PySem.W PyProof.Rows
namespace Mine
variable {w : World}
noncomputable def relS (scope sc : Scope) : Scope := relabel scope { (default : Env) with scope := sc }
theorem relS_eq {scope sc : Scope} {env : Env} (h : env.scope = sc) : relabel scope env = relS scope sc := by
  subst h; rfl
theorem Vars.step {X : Addr → Prop} {env : Env} {r : List (Str × D)} {h h' : Heap} (V : Vars X env r h) (hX : XB X h') (hL : ∀ o, h.get? env.locals = some o → h'.get? env.locals = some o)
    (hC : ∀ c v, h.IsCell c v → ∀ o, h.get? c = some o → h'.get? c = some o) (sk : SK X h h') : Vars X env r h' where
  bnd := hX
  kind := V.kind
  glo := V.glo
  bui := V.bui
  ns := by
    obtain ⟨m, n, mi, k⟩ := V.ns
    exact ⟨m, n.at' hL, mi, fun y d e q => by obtain ⟨v, e1, e2⟩ := k y d e q; exact ⟨v, e1, e2.keep sk⟩⟩
  cel := fun y d e q => by
    obtain ⟨c, v, e1, ⟨o, e2, e4⟩, e3⟩ := V.cel y d e q
    exact ⟨c, v, e1, ⟨o, hC c _ ⟨o, e2, e4⟩ o e2, e4⟩, e3.keep sk⟩
theorem Vars.more {X Y : Addr → Prop} {env : Env} {r : List (Str × D)} {h : Heap} (V : Vars X env r h) (hY : ∀ a, Y a → X a ∨ h.get? a = none) (hb : XB Y h) : Vars Y env r h where
  bnd := hb
  kind := V.kind
  glo := V.glo
  bui := V.bui
  ns := by
    obtain ⟨m, n, mi, k⟩ := V.ns
    exact ⟨m, n, mi, fun y d e q => by obtain ⟨v, e1, e2⟩ := k y d e q; exact ⟨v, e1, e2.mono hY fun _ _ e _ _ => e⟩⟩
  cel := fun y d e q => by
    obtain ⟨c, v, e1, e2, e3⟩ := V.cel y d e q
    exact ⟨c, v, e1, e2, e3.mono hY fun _ _ e _ _ => e⟩
theorem ns_notSeq {h : Heap} {a : Addr} {m} (n : h.Ns a m) (mi : m iniS = none) : ∀ o, h.get? a = some o → ¬ seqish o := fun o e q => by
  obtain ⟨o', es, ep, e', hd, _, hm⟩ := n
  rw [e] at e'; cases e'
  rcases q with ⟨_, ⟨vs, k, q⟩ | ⟨vs, q⟩⟩ | ⟨_, vs, k, q⟩ | ⟨es', ep', q, q'⟩
  · rw [hd] at q; cases q
  · rw [hd] at q; cases q
  · rw [hd] at q; cases q
  · rw [hd] at q; cases q
    exact q' ((hm _).trans mi)
theorem cell_notSeq {h : Heap} {a : Addr} {m} (n : h.IsCell a m) : ∀ o, h.get? a = some o → ¬ seqish o := fun o e q => by
  obtain ⟨o', e', hd⟩ := n
  rw [e] at e'; cases e'
  rcases q with ⟨_, ⟨vs, k, q⟩ | ⟨vs, q⟩⟩ | ⟨_, vs, k, q⟩ | ⟨es', ep', q, q'⟩ <;> rw [hd] at q <;> cases q
theorem cell_ne_seq {h : Heap} {c a : Addr} {v o vs k} (hc : h.IsCell c v) (e : h.get? a = some o) (d : o.data = .seq vs k) : c ≠ a := fun z => by
  obtain ⟨o', e', hd⟩ := hc
  rw [z, e] at e'; cases e'
  rw [d] at hd; cases hd
theorem ns_notCell {h : Heap} {a : Addr} {m v} (n : h.Ns a m) (c : h.IsCell a v) : False := by
  obtain ⟨o', es, ep, e', hd, _⟩ := n
  obtain ⟨o, e, hc⟩ := c
  rw [e] at e'; cases e'
  rw [hc] at hd; cases hd
theorem Vars.store {X : Addr → Prop} {env : Env} {r : List (Str × D)} {h h' : Heap} {x : Str} {d : D} {v : Value} {m : Str → Option Value} (V : Vars X env r h) (n : h.Ns env.locals m) (mi : m iniS = none) (hxi : iniS ≠ x)
    (hm : ∀ y d, r.lookup y = some d → env.kindOf y = some .local → ∃ v, m y = some v ∧ Rp X h d v) (hk : env.kindOf x = some .local)
    (hn : h'.Ns env.locals (fun y => if y = x then some v else m y)) (hs : Heap.SameBut env.locals h h') (hd : Rp X h d v) (hX : ¬ X env.locals) : Vars X env ((x, d) :: r) h' := by
  have sk : SK X h h' := fun b o e c _ => (hs.2 b fun q => ns_notSeq n mi o (q ▸ e) c).trans e
  refine ⟨V.bnd.keeps fun a x o e => (hs.2 a fun z => hX (z ▸ x)).trans e, V.kind, V.glo, V.bui, ⟨_, hn, (if_neg hxi).trans mi, fun y d' e q => ?_⟩, fun y d' e q => ?_⟩
  · rw [List.lookup_cons] at e
    by_cases hy : y = x
    · subst hy
      rw [beq_self_eq_true] at e
      cases e
      exact ⟨v, if_pos rfl, hd.keep sk⟩
    · have : (y == x) = false := by simpa using hy
      rw [this] at e
      obtain ⟨v', e1, e2⟩ := hm y d' e q
      exact ⟨v', (if_neg hy).trans e1, e2.keep sk⟩
  · rw [List.lookup_cons] at e
    have hy : y ≠ x := fun z => by subst z; rcases q with q | q <;> rw [hk] at q <;> cases q
    have : (y == x) = false := by simpa using hy
    rw [this] at e
    obtain ⟨c, v', e1, e2, e3⟩ := V.cel y d' e q
    have : c ≠ env.locals := fun z => ns_notCell n (z ▸ e2)
    obtain ⟨o, e4, e5⟩ := e2
    exact ⟨c, v', e1, ⟨o, (hs.2 c this).trans e4, e5⟩, e3.keep sk⟩
inductive Capt (sc scope : Scope) (r : List (Str × D)) : List (Str × D) → Prop
  | nil : Capt sc scope r []
  | cons {y d q} : r.lookup y = some d → scope.names.lookup y = some .free → (sc.names.lookup y = some .cell ∨ sc.names.lookup y = some .free) → Capt sc scope r q → Capt sc scope r ((y, d) :: q)
theorem Capt.look {sc scope : Scope} {r q : List (Str × D)} (c : Capt sc scope r q) {y : Str} {d : D} (e : q.lookup y = some d) : r.lookup y = some d ∧ scope.names.lookup y = some .free ∧ (sc.names.lookup y = some .cell ∨ sc.names.lookup y = some .free) := by
  induction c with
  | nil => cases e
  | @cons z d' q h1 h2 h3 _ ih =>
    rw [List.lookup_cons] at e
    by_cases hz : y = z
    · subst hz; rw [beq_self_eq_true] at e; cases e; exact ⟨h1, h2, h3⟩
    · have : (y == z) = false := by simpa using hz
      rw [this] at e; exact ih e
noncomputable def IfsS (w : World) (n : Nat) (sc : Scope) (r : List (Str × D)) (ifs : List Expr) (b : Bool) : Prop :=
  ∀ (A : Around) (s : Shared) (env : Env) (X : Addr → Prop), env.scope = sc → Rm n A → Inv s.heap → Vars X env r s.heap →
    wpAny (model PRG w) A (forIn ifs true fun c t => if t = true then do let ok ← PySem.isTrue c env (eval c env); pure (ForInStep.yield ok) else pure (ForInStep.yield t)) (fun ok s' => ok = b ∧ Eff s s' ∧ Inv s'.heap) (fun _ _ => False) s
theorem IfsS.nil {n sc r} : IfsS w n sc r [] true := fun A s env X hs R I V => wpAny_tests_nil ⟨rfl, EffM.refl _ s, I⟩
theorem IfsS.one {n sc r c b} (h : TstS w n sc r c b) : IfsS w n sc r [c] b := fun A s env X hs R I V => wpAny_tests_one (h A s env X hs R I V)
theorem relabel_lookup (env : Env) (y : Str) : ∀ l : List (Str × NameKind), (l.map fun x => match x with
      | (n, k) => if (k == NameKind.free && env.scope.kind == ScopeKind.function && Env.kindOf env n == some NameKind.cell) = true then (n, NameKind.cell) else (n, k)).lookup y =
    (l.lookup y).map fun k => if (k == NameKind.free && env.scope.kind == ScopeKind.function && Env.kindOf env y == some NameKind.cell) = true then NameKind.cell else k
  | [] => rfl
  | (z, k) :: l => by
    rw [List.map_cons]
    by_cases hz : y = z
    · subst hz
      simp only [List.lookup_cons, beq_self_eq_true, Option.map_some]
      split <;> simp [List.lookup_cons]
    · have h1 : (y == z) = false := by simpa using hz
      have ih := relabel_lookup env y l
      simp only [List.lookup_cons, h1]
      split <;> simp only [List.lookup_cons, h1, ih]
theorem relS_local {scope sc : Scope} {x : Str} (h : scope.names.lookup x = some .local) : (relS scope sc).names.lookup x = some .local := by
  show List.lookup x (List.map _ scope.names) = _
  rw [relabel_lookup, h]; rfl
theorem relS_free {scope sc : Scope} {x : Str} (h : scope.names.lookup x = some .free) : (relS scope sc).names.lookup x = some .cell ∨ (relS scope sc).names.lookup x = some .free := by
  show List.lookup x (List.map _ scope.names) = _ ∨ List.lookup x (List.map _ scope.names) = _
  rw [relabel_lookup, h, Option.map_some]
  split
  · exact .inl rfl
  · exact .inr rfl
theorem relS_kind {scope sc : Scope} : (relS scope sc).kind = scope.kind := rfl
theorem mem_of_lookup {α β : Type} [BEq α] [LawfulBEq α] {x : α} {y : β} : ∀ {l : List (α × β)}, l.lookup x = some y → (x, y) ∈ l
  | (a, b) :: l, h => by
    rw [List.lookup_cons] at h
    by_cases ha : x = a
    · subst ha; rw [beq_self_eq_true] at h; cases h; exact .head _
    · have : (x == a) = false := by simpa using ha
      rw [this] at h; exact .tail _ (mem_of_lookup h)
end Mine
end
section
-- B6
open PySem PySem.W PyProof.Rows
namespace Mine
variable {w : World}
theorem comp_loop {n : Nat} {sc scope : Scope} {q : List (Str × D)} {elt iter : Expr} {x : Str} {px : Pos} {ifs : List Expr} {pos : Pos} (pz : D → Bool) (f : D → D) {A : Around} {X : Addr → Prop} {env : Env} {I C : Addr}
    (hs : env.scope = relS scope sc) (R : Rm n A) (hx : scope.names.lookup x = some .local) (hxi : iniS ≠ x) (hI : 196 ≤ I) (hC : 196 ≤ C) (hL : 196 ≤ env.locals) (hIC : I ≠ C) (hIL : I ≠ env.locals) (hCL : C ≠ env.locals)
    (hXC : X C) (hXI : ¬ X I) (hXL : ¬ X env.locals) (hqx : q.lookup x = none) (sb : Shared) :
    ∀ (ds : List D) (dn : List D) (s : Shared), ItAt X s.heap I ds → (∃ vs k, s.heap.get? C = some (LObj vs k) ∧ RpL X s.heap ((dn.filter pz).map f) vs.toList) → Inv s.heap → Vars X env q s.heap →
      EffM (fun a => a = I ∨ a = C ∨ a = env.locals) sb s → dn.length + ds.length ≤ 2 ^ 20 →
      (∀ d ∈ ds, IfsS w n (relS scope sc) ((x, d) :: q) ifs (pz d)) → (∀ d ∈ ds, pz d = true → EvS w n (relS scope sc) ((x, d) :: q) elt (f d)) →
      codeAny (model PRG w) A (.compLoop (.ListComp elt [⟨.Name x px, iter, ifs, 0⟩] scope pos) 0 (.ref I) (.ref C) env)
        (fun r s' => r = .ok .next ∧ (∃ vs k, s'.heap.get? C = some (LObj vs k) ∧ RpL X s'.heap (((dn ++ ds).filter pz).map f) vs.toList) ∧ Inv s'.heap ∧ Vars X env q s'.heap ∧ EffM (fun a => a = I ∨ a = C ∨ a = env.locals) sb s') s := by
  intro ds dn s hit hacc inv V E hz hif hel
  obtain ⟨RR, hR⟩ : ∃ R : Result → Shared → Prop, ∀ r s', R r s' ↔ (r = .ok .next ∧ (∃ vs k, s'.heap.get? C = some (LObj vs k) ∧ RpL X s'.heap (((dn ++ ds).filter pz).map f) vs.toList) ∧ Inv s'.heap ∧ Vars X env q s'.heap ∧ EffM (fun a => a = I ∨ a = C ∨ a = env.locals) sb s') := ⟨_, fun _ _ => Iff.rfl⟩
  obtain ⟨P, hP⟩ : ∃ P : Nat → Shared → Prop, ∀ k s', P k s' ↔ ∃ dn' ds', dn ++ ds = dn' ++ ds' ∧ k = ds'.length + 1 ∧ ItAt X s'.heap I ds' ∧ (∃ vs k, s'.heap.get? C = some (LObj vs k) ∧ RpL X s'.heap ((dn'.filter pz).map f) vs.toList) ∧ Inv s'.heap ∧ Vars X env q s'.heap ∧
      EffM (fun a => a = I ∨ a = C ∨ a = env.locals) sb s' ∧ (∀ d ∈ ds', d ∈ ds) := ⟨_, fun _ _ => Iff.rfl⟩
  refine codeAny_mono (codeAny_compLoop_tests (R := RR) P (fun k s₁ hI => ?_) (ds.length + 1) ((hP _ _).mpr ⟨dn, ds, rfl, rfl, hit, hacc, inv, V, E, fun _ h => h⟩)) fun r s' h => (hR r s').mp h
  obtain ⟨dn', ds', hd, rfl, hit, ⟨vs, kk, hC1, hC2⟩, inv, V, E, hsub⟩ := (hP _ _).mp hI
  clear hI
  have hkx : env.kindOf x = some .local := kindOf_eq hs (relS_local hx)
  cases ds' with
  | nil =>
    refine next_end R.handled hit fun h' hx' => ?_
    have nI : ∀ o, s₁.heap.get? I = some o → ¬ seqish o := fun o e => by obtain ⟨o', e', h, _⟩ := hit.get; rw [e] at e'; cases e'; exact h
    obtain ⟨m, n', mi, hm⟩ := V.ns
    have sk : SK X s₁.heap h' := sk_extBut hx' nI
    refine (hR _ _).mpr ⟨rfl, ⟨vs, kk, hx' _ _ (Ne.symm hIC) hC1, by rw [hd, List.append_nil]; exact hC2.keep sk⟩, inv.ext hI hx' hit.noCod, V.step (V.bnd.keeps fun a x o e => hx' a o (fun z => hXI (z ▸ x)) e) (fun o e => hx' _ _ (Ne.symm hIL) e) (fun c v hc o e2 => hx' _ _ (fun z => hit.noCell (z ▸ hc)) e2) sk, E.trans ?_⟩
    exact ⟨rfl, fun _ _ e => e, id, fun a o e _ m => hx' a o (fun z => m (.inl z)) e⟩
  | cons d ds' =>
    have nI : ∀ o, s₁.heap.get? I = some o → ¬ seqish o := fun o e => by obtain ⟨o', e', h, _⟩ := hit.get; rw [e] at e'; cases e'; exact h
    refine next_item hit fun v h₁ tk hv hit₁ hs₁ => ?_
    have sk₁ : SK X s₁.heap h₁ := sk_sameBut hs₁ nI
    have inv₁ := inv.same hI hs₁ hit.noCod
    have V₁ : Vars X env q h₁ := V.step (V.bnd.keeps fun a x o e => (hs₁.2 a fun z => hXI (z ▸ x)).trans e) (fun o e => (hs₁.2 _ (Ne.symm hIL)).trans e) (fun c v hc o e2 => (hs₁.2 _ fun z => hit.noCell (z ▸ hc)).trans e2) sk₁
    have hC1' : h₁.get? C = some (LObj vs kk) := (hs₁.2 _ (Ne.symm hIC)).trans hC1
    have hC2' := hC2.keep sk₁
    have E₁ : EffM (fun a => a = I ∨ a = C ∨ a = env.locals) sb { s₁ with heap := h₁, toks := tk } := E.trans ⟨rfl, fun _ _ e => e, id, fun a o e _ m => (hs₁.2 a fun z => m (.inl z)).trans e⟩
    obtain ⟨m, nm, mi, hm⟩ := V₁.ns
    refine wpAny_assign_Name (wpAny_storeName_local hkx nm (fun h₂ hn₂ hs₂ => ?_) (by rw [V₁.kind]; rfl))
    have V₂ : Vars X env ((x, d) :: q) h₂ := V₁.store nm mi hxi hm hkx hn₂ hs₂ hv hXL
    have inv₂ : Inv h₂ := inv₁.same hL hs₂ (ns_notCod nm)
    have sk₂ : SK X h₁ h₂ := fun b o e c _ => (hs₂.2 b fun z => ns_notSeq nm mi o (z ▸ e) c).trans e
    have hit₂ : ItAt X h₂ I ds' := hit₁.keep (fun o e => (hs₂.2 _ hIL).trans e) sk₂
    have hC1₂ : h₂.get? C = some (LObj vs kk) := (hs₂.2 _ hCL).trans hC1'
    have hC2₂ := hC2'.keep sk₂
    have E₂ : EffM (fun a => a = I ∨ a = C ∨ a = env.locals) sb { s₁ with heap := h₂, toks := tk + 1 } := E₁.trans ⟨rfl, fun _ _ e => e, id, fun a o e _ m => (hs₂.2 a fun z => m (.inr (.inr z))).trans e⟩
    have hdm : d ∈ ds := hsub d (.head _)
    refine wpAny_mono (hif d hdm A _ env X hs R inv₂ V₂) (fun ok s₃ p => ?_) fun _ _ z => z.elim
    obtain ⟨rfl, p1, inv₃⟩ := p
    have V₃ := V₂.eff p1 inv₂
    have V₃' : Vars X env q s₃.heap := V₃.sub fun y d' e => by
      have hy : (y == x) = false := by
        cases h : y == x with
        | false => rfl
        | true => have : y = x := by simpa using h
                  subst this; rw [hqx] at e; cases e
      rw [List.lookup_cons, hy]; exact e
    have hit₃ : ItAt X s₃.heap I ds' := by
      obtain ⟨o, eo, _, ncl⟩ := hit₂.get
      exact hit₂.keep (fun o' e => p1.keep _ _ e (inv₂.notTab eo (.inl ncl)) fun z => z) (p1.sk inv₂)
    have hC1₃ : s₃.heap.get? C = some (LObj vs kk) := p1.keep _ _ hC1₂ (inv₂.notTab hC1₂ (.inl nofun)) fun z => z
    have hC2₃ := hC2₂.keep (p1.sk inv₂)
    have E₃ := E₂.trans p1.toM
    cases hpz : pz d with
    | false =>
      simp only [Bool.false_eq_true, if_false]
      refine ⟨ds'.length + 1, by simp, (hP _ _).mpr ⟨dn' ++ [d], ds', by rw [hd]; simp, rfl, hit₃, ⟨vs, kk, hC1₃, by rw [List.filter_append, List.filter_cons_of_neg (by simp [hpz])]; simpa using hC2₃⟩, inv₃, V₃', E₃, fun y hy => hsub y (.tail _ hy)⟩⟩
    | true =>
      simp only [if_true]
      refine wpAny_mono (hel d hdm hpz A _ env X hs R inv₃ V₃) (fun y s₄ g => ?_) fun _ _ z => z.elim
      obtain ⟨g1, inv₄, g3⟩ := g
      have hC1₄ : s₄.heap.get? C = some (LObj vs kk) := g1.keep _ _ hC1₃ (inv₃.notTab hC1₃ (.inl nofun)) fun z => z
      have hC2₄ := hC2₃.keep (g1.sk inv₃)
      have hit₄ : ItAt X s₄.heap I ds' := by
        obtain ⟨o, eo, _, ncl⟩ := hit₃.get
        exact hit₃.keep (fun o' e => g1.keep _ _ e (inv₃.notTab eo (.inl ncl)) fun z => z) (g1.sk inv₃)
      have V₄ := V₃'.eff g1 inv₃
      have hlen : vs.size ≤ sizeLine := by
        have e1 := hC2₄.length
        rw [List.length_map] at e1
        have e2 := List.length_filter_le pz dn'
        have e3 : (dn ++ ds).length = dn'.length + (d :: ds').length := by rw [hd, List.length_append]
        rw [List.length_append] at e3
        simp only [Array.length_toList] at e1
        unfold sizeLine; omega
      refine wpAny_list_append_plain (items := vs) ⟨kk, hC1₄⟩ (fun h₅ hl₅ hs₅ => ?_) hlen
      obtain ⟨k5, hl₅⟩ := hl₅
      have skX : SK X s₄.heap h₅ := fun b o e c hx => (hs₅.2 b fun z => hx (z ▸ hXC)).trans e
      have bX : XB X h₅ := fun a x => by
        by_cases z : a = C
        · subst z
          exact ⟨inv₄.notTab hC1₄ (.inl nofun), _, hl₅⟩
        · obtain ⟨t, o, e⟩ := V₄.bnd a x
          exact ⟨t, o, (hs₅.2 a z).trans e⟩
      refine ⟨ds'.length + 1, by simp, (hP _ _).mpr ⟨dn' ++ [d], ds', by rw [hd]; simp, rfl, hit₄.keep (fun o e => (hs₅.2 _ hIC).trans e) skX,
        ⟨vs.push y, k5, hl₅, by rw [List.filter_append, List.filter_cons_of_pos hpz, List.map_append]; simpa using (hC2₄.keep skX).append (RpL.cons (g3.keep skX) RpL.nil)⟩, inv₄.same hC hs₅ (seq_notCod hC1₄ rfl),
        V₄.step bX (fun o e => (hs₅.2 _ (Ne.symm hCL)).trans e) (fun c v hc o e2 => (hs₅.2 _ (cell_ne_seq hc hC1₄ rfl)).trans e2) skX,
        (E₃.trans g1.toM).trans ⟨rfl, fun _ _ e => e, id, fun a o e _ m => (hs₅.2 a fun z => m (.inr (.inl z))).trans e⟩, fun y hy => hsub y (.tail _ hy)⟩⟩
end Mine
end
section
-- B7
open PySem PySem.W PyProof.Rows
namespace Mine
variable {w : World}
theorem comp_core {n : Nat} {sc scope : Scope} {r q : List (Str × D)} {elt iter : Expr} {x : Str} {px : Pos} {ifs : List Expr} {pos : Pos} {di : D} {ds : List D} (pz : D → Bool) (f : D → D)
    (hi : EvS w n sc r iter di) (hit : Items di ds) (hc : Capt sc scope r q)
    (hall : (scope.names.all fun p => !(p.2 == .free) || q.any fun y => y.1 == p.1) = true)
    (hk : scope.kind = .function) (hx : scope.names.lookup x = some .local) (hxi : iniS ≠ x)
    (hloc : (scope.names.all fun p => !(p.2 == .local) || scope.names.lookup p.1 == some .local) = true)
    (hcell : (scope.names.all fun p => !(p.2 == .cell)) = true) (hfree : (scope.names.all fun p => !(p.2 == .free) || scope.names.lookup p.1 == some .free) = true)
    (hif : ∀ d ∈ ds, IfsS w n (relS scope sc) ((x, d) :: q) ifs (pz d)) (hel : ∀ d ∈ ds, pz d = true → EvS w n (relS scope sc) ((x, d) :: q) elt (f d))
    (hz : ds.length ≤ 2 ^ 20) (hfold : ∀ env v, foldedSetIterable iter env v = pure v := by intro _ _; rfl)
    {A : Around} {s : Shared} {env : Env} {X : Addr → Prop} (hs : env.scope = sc) (R : Rm n A) (I : Inv s.heap) (V : Vars X env r s.heap) (use : Option (Value → Sem Unit)) (QQ : Value → Shared → Prop) (pos' : Pos)
    (hQ : ∀ (C L : Addr) (s₃ : Shared), EvP X s (.list ((ds.filter pz).map f)) (.ref C) s₃ → (∃ m, s₃.heap.Ns L m ∧ m iniS = none) → (∀ a ob, s.heap.get? a = some ob → a ∉ tabs → a < L) → 196 ≤ L → (∀ h₄, Heap.SameBut L s₃.heap h₄ → EvP X s (.list ((ds.filter pz).map f)) (.ref C) { s₃ with heap := h₄ }) →
      compPost (model PRG w) A (fun _ _ => False) use QQ (.ref C) L (.ok .next) s₃) :
    wpAny (model PRG w) A (comprehension (.ListComp elt [⟨.Name x px, iter, ifs, 0⟩] scope pos) scope env pos' (newList []) false (eval iter env) use) QQ (fun _ _ => False) s := by
  have hcl : ∀ m, (m, NameKind.free) ∈ scope.names → ∃ c, env.cells.lookup m = some c := fun m hm => by
    have h1 := List.all_eq_true.mp hall _ hm
    simp only [beq_self_eq_true, Bool.not_true, Bool.false_or] at h1
    obtain ⟨y, hy, e⟩ := List.any_eq_true.mp h1
    have e : y.1 = m := by simpa using e
    have : ∃ d, q.lookup m = some d := by
      cases h : q.lookup m with
      | some d => exact ⟨d, rfl⟩
      | none =>
        rw [List.lookup_eq_none_iff] at h
        have := h y hy
        rw [e] at this; simp at this
    obtain ⟨d, hd⟩ := this
    obtain ⟨h2, _, h3⟩ := hc.look hd
    obtain ⟨c, v, e1, _⟩ := V.cel m d h2 (by rw [kindOf_eq hs rfl]; exact h3)
    exact ⟨c, e1⟩
  refine wpAny_comprehension_free (use := use) (g := ⟨.Name x px, iter, ifs, 0⟩) (gs := []) rfl (fun v => hfold env v) (closureFor_eq hcl) hk (fun p hp e => ?_) ?_
  · have := List.all_eq_true.mp hloc p hp
    rw [e] at this; simpa using this
  refine wpAny_mono (hi A s env X hs R I V) (fun xv s₁ p => ?_) fun _ _ z => z.elim
  obtain ⟨p1, I₁, p3⟩ := p
  have V₁ := V.eff p1 I
  refine iter_make hit p3 fun o hof hos hitA => ?_
  -- the new list
  refine wpAny_newList ?_ (by decide)
  have hqx : q.lookup x = none := by
    cases h : q.lookup x with
    | none => rfl
    | some d => obtain ⟨_, h2, _⟩ := hc.look h; rw [hx] at h2; cases h2
  refine wpAny_newFunctionEnv (fun p hp e => ?_) (fun p hp => nomatch hp) (fun h' hn hsb => ?_) hk
  · have := List.all_eq_true.mp hcell p hp
    rw [e] at this; simp at this
  -- names
  have bigI : 196 ≤ s₁.heap.objs.size := I₁.big
  have szI : (s₁.heap.push o).objs.size = s₁.heap.objs.size + 1 := Heap.size_push ..
  have szC : ((s₁.heap.push o).push (LObj #[] 0)).objs.size = s₁.heap.objs.size + 2 := by rw [Heap.size_push, szI]
  generalize hIg : s₁.heap.objs.size = Ia at *
  generalize hCg : (s₁.heap.push o).objs.size = C at *
  have key0 : (({ s₁ with heap := s₁.heap.push o } : Shared).heap.push { cls := .type "list", data := .seq ([] : List Value).toArray }) = (s₁.heap.push o).push (LObj #[] 0) := rfl
  simp only [key0, Option.isSome_some, if_true] at hn hsb ⊢
  generalize hLg : ((s₁.heap.push o).push (LObj #[] 0)).objs.size = L at *
  have hIC : Ia < C := by omega
  have hIL : Ia < L := by omega
  have hCL : C < L := by omega
  have nIC : Ia ≠ C := Nat.ne_of_lt hIC
  have nIL : Ia ≠ L := Nat.ne_of_lt hIL
  have nCL : C ≠ L := Nat.ne_of_lt hCL
  have keep : ∀ b o', s₁.heap.get? b = some o' → h'.get? b = some o' := fun b o' e =>
    hsb.extBut b o' (by have := Heap.lt_size e; rw [hIg] at this; exact Nat.ne_of_lt (Nat.lt_trans this hIL)) (Heap.get?_push_of_some _ (Heap.get?_push_of_some _ (Heap.get?_push_of_some _ e)))
  have oldLt : ∀ b o', s₁.heap.get? b = some o' → b < Ia := fun b o' e => by have := Heap.lt_size e; rw [hIg] at this; exact this
  have hoI : h'.get? Ia = some o := by
    refine hsb.extBut Ia o nIL (Heap.get?_push_of_some _ (Heap.get?_push_of_some _ ?_))
    rw [← hIg]; exact Heap.get?_push_size _ hof
  have hoC : h'.get? C = some (LObj #[] 0) := by
    refine hsb.extBut C _ nCL (Heap.get?_push_of_some _ ?_)
    rw [← hCg]; exact Heap.get?_push_size _ rfl
  have sk : SK X s₁.heap h' := fun b o e _ _ => keep b o e
  let Y : Addr → Prop := fun a => X a ∨ a = C
  have hYX : ∀ a, Y a → X a ∨ (s₁.heap.push o).get? a = none := fun a y => y.elim .inl fun z => .inr (by rw [z, ← hCg]; exact Heap.get?_none_of_le (Nat.le_refl _))
  have hYX0 : ∀ a, Y a → X a ∨ s₁.heap.get? a = none := fun a y => y.elim .inl fun z => .inr (by rw [z]; exact Heap.get?_none_of_le (by rw [hIg]; exact Nat.le_of_lt hIC))
  have skP : SK X (s₁.heap.push o) h' := fun b o' e c hx' => by
    refine hsb.extBut b o' ?_ (Heap.get?_push_of_some _ (Heap.get?_push_of_some _ e))
    have := Heap.lt_size e; rw [hCg] at this; exact Nat.ne_of_lt (Nat.lt_trans this hCL)
  have hit' : ItAt Y h' Ia ds := by
    refine hitA.mono (fun o' e => ?_) hYX skP
    refine hsb.extBut Ia o' nIL (Heap.get?_push_of_some _ (Heap.get?_push_of_some _ e))
  have I' : Inv h' := I₁.keeps keep
  have YB : XB Y h' := fun a y => y.elim (fun x => by obtain ⟨t, o, e⟩ := V₁.bnd a x; exact ⟨t, o, keep _ _ e⟩) fun z => by subst z; exact ⟨I'.notTab hoC (.inl nofun), _, hoC⟩
  -- the block's variables
  have hE : (relabel scope env) = relS scope sc := relS_eq hs
  let cenv : Env := { scope := relabel scope env, locals := L, globals := env.globals, cells := closOf env.cells scope.names [], qual := env.qual, func := Option.none, code := env.code, frame := env.frame, builtins := env.builtins }
  have V' : Vars Y cenv q h' := by
    refine ⟨YB, by show (relabel scope env).kind = _; exact hk, V.glo, V.bui, ⟨_, hn, rfl, fun y d e k => ?_⟩, fun y d e k => ?_⟩
    · exfalso
      obtain ⟨_, h2, _⟩ := hc.look e
      have : (relS scope sc).names.lookup y = some .local := by rw [← hE]; exact k
      rcases relS_free (sc := sc) h2 with z | z <;> rw [this] at z <;> cases z
    · obtain ⟨h1, h2, h3⟩ := hc.look e
      obtain ⟨c, v, e1, e2, e3⟩ := V₁.cel y d h1 (by rw [kindOf_eq hs rfl]; exact h3)
      refine ⟨c, v, closOf_lookup e1 _ _ (.inl (mem_of_lookup h2)), ?_, e3.mono hYX0 sk⟩
      obtain ⟨o', e4, e5⟩ := e2
      exact ⟨o', keep _ _ e4, e5⟩
  have cellLt : ∀ y c, (closOf env.cells scope.names []).lookup y = some c → c < Ia := fun y c e => by
    have hf : (y, NameKind.free) ∈ scope.names := by
      by_cases hm : (y, NameKind.free) ∈ scope.names
      · exact hm
      · rw [closOf_has _ _ (fun a => List.not_mem_nil) hm] at e; cases e
    have h1 := List.all_eq_true.mp hall _ hf
    simp only [beq_self_eq_true, Bool.not_true, Bool.false_or] at h1
    obtain ⟨y', hy, e'⟩ := List.any_eq_true.mp h1
    have e' : y'.1 = y := by simpa using e'
    have : ∃ d, q.lookup y = some d := by
      cases h : q.lookup y with
      | some d => exact ⟨d, rfl⟩
      | none =>
        rw [List.lookup_eq_none_iff] at h
        have := h y' hy
        rw [e'] at this; simp at this
    obtain ⟨d, hd⟩ := this
    obtain ⟨h2, _, h3⟩ := hc.look hd
    obtain ⟨c', v, e1, ⟨o', e2, _⟩, _⟩ := V₁.cel y d h2 (by rw [kindOf_eq hs rfl]; exact h3)
    have := closOf_lookup (cells := env.cells) e1 scope.names [] (.inl hf)
    rw [this] at e; cases e
    exact oldLt _ _ e2
  have nXI : ¬ Y Ia := fun y => y.elim (fun x => by obtain ⟨t, o', e⟩ := V₁.bnd _ x; have := oldLt _ _ e; exact Nat.lt_irrefl _ this) (fun z => nIC z)
  have nXL : ¬ Y L := fun y => y.elim (fun x => by obtain ⟨t, o', e⟩ := V₁.bnd _ x; have := oldLt _ _ e; exact absurd (Nat.lt_trans this hIL) (Nat.lt_irrefl _)) (fun z => nCL z.symm)
  let s₂ : Shared := { s₁ with heap := h', toks := s₁.toks + 0 }
  have loop := comp_loop (w := w) (n := n) (sc := sc) (scope := scope) (q := q) (elt := elt) (iter := iter) (x := x) (px := px) (ifs := ifs) (pos := pos) pz f (A := A) (X := Y) (env := cenv) (I := Ia) (C := C) hE R hx hxi
    bigI (Nat.le_trans bigI (Nat.le_of_lt hIC)) (Nat.le_trans bigI (Nat.le_of_lt hIL)) nIC nIL nCL
    (.inr rfl) nXI nXL hqx s₂ ds [] s₂ hit' ⟨#[], 0, hoC, RpL.nil⟩ I' V' (EffM.refl _ _) (by simpa using hz) hif hel
  have loop' : codeAny (model PRG w) A (.compLoop (.ListComp elt [⟨.Name x px, iter, ifs, 0⟩] scope pos) 0 (.ref Ia) (.ref C) cenv) (compPost (model PRG w) A (fun _ _ => False) use QQ (.ref C) L) s₂ := by
    refine codeAny_mono loop fun rr s₃ g => ?_
    obtain ⟨rfl, ⟨vs, k, g1, g2⟩, I₃, V₃, E₃⟩ := g
    obtain ⟨m, nm, mi, _⟩ := V₃.ns
    have main : ∀ h₄, (∀ b, b ≠ L → h₄.get? b = s₃.heap.get? b) → EvP X s (.list ((ds.filter pz).map f)) (.ref C) { s₃ with heap := h₄ } := fun h₄ hs₄ => by
      have skL : SK Y s₃.heap h₄ := fun b o e c _ => (hs₄ b fun z => ns_notSeq nm mi o (by rw [show cenv.locals = b from z.symm]; exact e) c).trans e
      have g1' : h₄.get? C = some (LObj vs k) := (hs₄ C nCL).trans g1
      refine ⟨p1.trans ⟨E₃.os, E₃.gens, E₃.bare, fun a o e t _ => ?_⟩, I₃.ext (Nat.le_trans bigI (Nat.le_of_lt hIL)) (fun b o hb e => (hs₄ b hb).trans e) (ns_notCod (a := L) nm), ?_⟩
      · have l := oldLt a o e
        have hkeep := E₃.keep a o (keep a o e) t fun z => by
          rcases z with z | z | z
          · exact Nat.ne_of_lt l z
          · exact Nat.ne_of_lt (Nat.lt_trans l hIC) z
          · exact Nat.ne_of_lt (Nat.lt_trans l hIL) z
        exact (hs₄ a (Nat.ne_of_lt (Nat.lt_trans l hIL))).trans hkeep
      · unfold Rp
        refine ⟨C, vs, k, rfl, fun x => ?_, g1', ?_⟩
        · obtain ⟨t, o', e⟩ := V₁.bnd _ x; have := oldLt _ _ e; exact absurd (Nat.lt_trans this hIC) (Nat.lt_irrefl _)
        · exact (g2.keep skL).mono (fun a x => .inl (.inl x)) fun _ _ e _ _ => e
    have noL : ∀ a ob, s.heap.get? a = some ob → a ∉ tabs → a < L := fun a ob e t => Nat.lt_trans (oldLt _ _ (p1.keep a ob e t fun z => z)) hIL
    exact hQ C L s₃ (main s₃.heap fun _ _ => rfl) ⟨m, nm, mi⟩ noL (Nat.le_trans bigI (Nat.le_of_lt hIL)) fun h₄ hs₄ => main h₄ hs₄.2
  exact codeAny_compStart_list loop' (iter_self hit' loop')
theorem EvS_comp {n : Nat} {sc scope : Scope} {r q : List (Str × D)} {elt iter : Expr} {x : Str} {px : Pos} {ifs : List Expr} {pos : Pos} {di : D} {ds : List D} (pz : D → Bool) (f : D → D)
    (hi : EvS w n sc r iter di) (hit : Items di ds) (hc : Capt sc scope r q)
    (hall : (scope.names.all fun p => !(p.2 == .free) || q.any fun y => y.1 == p.1) = true)
    (hk : scope.kind = .function) (hx : scope.names.lookup x = some .local) (hxi : iniS ≠ x)
    (hloc : (scope.names.all fun p => !(p.2 == .local) || scope.names.lookup p.1 == some .local) = true)
    (hcell : (scope.names.all fun p => !(p.2 == .cell)) = true) (hfree : (scope.names.all fun p => !(p.2 == .free) || scope.names.lookup p.1 == some .free) = true)
    (hif : ∀ d ∈ ds, IfsS w n (relS scope sc) ((x, d) :: q) ifs (pz d)) (hel : ∀ d ∈ ds, pz d = true → EvS w n (relS scope sc) ((x, d) :: q) elt (f d))
    (hz : ds.length ≤ 2 ^ 20) (hfold : ∀ env v, foldedSetIterable iter env v = pure v := by intro _ _; rfl) :
    EvS w n sc r (.ListComp elt [⟨.Name x px, iter, ifs, 0⟩] scope pos) (.list ((ds.filter pz).map f)) := fun A s env X hs R I V => by
  rw [eval_ListComp]
  refine comp_core pz f hi hit hc hall hk hx hxi hloc hcell hfree hif hel hz hfold hs R I V Option.none _ _ fun C L s₃ g hL hn hb hall => ?_
  obtain ⟨m, nm, _⟩ := hL
  exact ⟨m, nm, fun h' hs' => hall h' hs'⟩
end Mine
end
section
-- B8
open PySem PySem.W PyProof.Rows
namespace Mine
variable {w : World}
noncomputable def KeepOk (w : World) (fv : Value) : Prop := ∀ h, Inv h → ∃ k, (k = Keeper.frame ∨ k = Keeper.machine ∨ k = Keeper.boundFrame) ∧ Looks (model PRG w) h (keeperOf fv) k
theorem KeepOk.bui {id : String} : KeepOk w (.builtin id) := fun h _ => ⟨.machine, .inr (.inl rfl), Looks.of_pure rfl⟩
theorem KeepOk.typ {id : String} : KeepOk w (.type id) := fun h _ => ⟨.machine, .inr (.inl rfl), Looks.of_pure rfl⟩
theorem KeepOk.fn {p : Addr × FuncData × Addr} (hp : p ∈ fnTab) : KeepOk w (.ref p.1) := fun h I => by
  obtain ⟨⟨oc, od, dt, sl⟩, _, _, _, a, _, c, _⟩ := I.fns p hp
  simp only at c
  subst c
  exact ⟨.frame, .inl rfl, (Looks.ld (part := none) a).andThen .now⟩
section
variable {n : Nat} {sc : Scope} {r : List (Str × D)}
theorem EvS.call {id : Str} {p pos : Pos} {e : Expr} {es : List Expr} {fv : Value} {ds : List D} {d : D} (hf : EvS w n sc r (.Name id p) (.raw fv)) (hk : KeepOk w fv) (ha : EvL w n sc r (e :: es) ds) (hc : CallS w n fv ds d)
    (hst : ∀ env, starEach (e :: es) env = (false, eval e env) :: starEach es env := by intro _; rfl) : EvS w n sc r (.Call (.Name id p) (e :: es) [] pos) d := fun A s env X hs R I V => by
  refine wpAny_Call_NameR (wpAny_mono (hf A s env X hs R I V) (fun v s₁ q => ?_) fun _ _ z => z.elim)
  obtain ⟨q1, I₁, q3⟩ := q
  cases (show v = fv from q3)
  have V₁ := V.eff q1 I
  obtain ⟨a1, a2⟩ := ha A s₁ env X pos hs R I₁ V₁
  refine callWith_of (P := Inv) (by rw [a2]; rfl) hk ?_
  have e' : backTo pos (starEach (e :: es) env) = (false, eval e env) :: backTo pos (starEach es env) := by rw [hst env]; rfl
  rw [e'] at a1 ⊢
  refine Calls.evalArgs_plain (wpAny_mono a1 (fun vs s₂ g => ?_) fun _ _ z => z.elim)
  exact ⟨g.2.1, wpAny_mono (hc A s₂ X vs R g.2.1 ((V₁.bnd).eff g.1) g.2.2) (fun v s₃ z => (z.trans (q1.trans g.1) : EvP X s d v s₃)) fun _ _ z => z⟩
end
/-! a frame's state -/
noncomputable def OwnC (X : Addr → Prop) (h : Heap) (a : Addr) : D → Prop
  | .list ds => ∃ vs k, h.get? a = some (LObj vs k) ∧ RpL X h ds vs.toList
  | .acc i ds => ∃ da vs k t, ¬ X da ∧ h.get? a = some (AObj da vs k) ∧ h.Ns da (accM i t) ∧ RpL X h ds vs.toList
  | _ => False
noncomputable def OW (o : List (Str × D)) (ad : Str → Addr) (a : Addr) : Prop := ∃ p ∈ o, ad p.1 = a
noncomputable def OX (X₀ : Addr → Prop) (o : List (Str × D)) (ad : Str → Addr) (a : Addr) : Prop := X₀ a ∨ OW o ad a
noncomputable def HoldsV (env : Env) (h : Heap) (x : Str) (v : Value) : Prop :=
  (env.kindOf x = some .local ∧ ∃ m, h.Ns env.locals m ∧ m x = some v) ∨ (env.kindOf x = some .cell ∧ ∃ c, env.cells.lookup x = some c ∧ h.IsCell c (some v))
theorem HoldsV.keep {env : Env} {h h' : Heap} {x : Str} {v : Value} (q : HoldsV env h x v) (kL : ∀ o, h.get? env.locals = some o → h'.get? env.locals = some o) (kC : ∀ c v, h.IsCell c v → ∀ o, h.get? c = some o → h'.get? c = some o) : HoldsV env h' x v := by
  rcases q with ⟨k, m, n, e⟩ | ⟨k, c, e, o, e1, e2⟩
  · exact .inl ⟨k, m, n.at' kL, e⟩
  · exact .inr ⟨k, c, e, o, kC c _ ⟨o, e1, e2⟩ o e1, e2⟩
theorem HoldsV.eff {env : Env} {s s' : Shared} {x : Str} {v : Value} (q : HoldsV env s.heap x v) (a : Eff s s') (I : Inv s.heap) : HoldsV env s'.heap x v := by
  rcases q with ⟨k, m, n, e⟩ | ⟨k, c, e, e1⟩
  · exact .inl ⟨k, m, a.ns I n, e⟩
  · exact .inr ⟨k, c, e, a.cell I e1⟩
noncomputable def Mu (env : Env) (W : Addr → Prop) (a : Addr) : Prop := a = env.locals ∨ (∃ x, env.kindOf x = some .cell ∧ env.cells.lookup x = some a) ∨ W a
structure StA (n₀ : Nat) (X₀ Wb : Addr → Prop) (sb : Shared) (env : Env) (r o : List (Str × D)) (s : Shared) (ad : Str → Addr) : Prop where
  eff : EffM (Mu env Wb) sb s
  ownB : ∀ p ∈ o, Wb (ad p.1) ∨ sb.heap.get? (ad p.1) = none
  inv : Inv s.heap
  vars : Vars (OX X₀ o ad) env r s.heap
  n0 : 196 ≤ n₀
  xlow : ∀ a, X₀ a → a < n₀
  lowL : n₀ ≤ env.locals
  lowC : ∀ x c, env.kindOf x = some .cell → env.cells.lookup x = some c → n₀ ≤ c
  cells : ∀ x, env.kindOf x = some .cell → ∃ c v, env.cells.lookup x = some c ∧ s.heap.IsCell c v
  apart : ∀ x y c, env.cells.lookup x = some c → env.cells.lookup y = some c → x = y
  own : ∀ p ∈ o, n₀ ≤ ad p.1 ∧ OwnC (OX X₀ o ad) s.heap (ad p.1) p.2 ∧ HoldsV env s.heap p.1 (.ref (ad p.1))
  dist : o.Pairwise fun p q => p.1 ≠ q.1 ∧ ad p.1 ≠ ad q.1
noncomputable def St (n₀ : Nat) (X₀ Wb : Addr → Prop) (sb : Shared) (env : Env) (r o : List (Str × D)) (s : Shared) : Prop := ∃ ad, StA n₀ X₀ Wb sb env r o s ad
theorem OwnC.keep {X Y : Addr → Prop} {h h' : Heap} {a : Addr} {d : D} (x : OwnC X h a d) (ha : ∀ o, h.get? a = some o → h'.get? a = some o) (hY : ∀ a, Y a → X a ∨ h.get? a = none) (sk : SK X h h') : OwnC Y h' a d := by
  cases d with
  | list ds => obtain ⟨vs, k, e, q⟩ := x; exact ⟨vs, k, ha _ e, q.mono hY sk⟩
  | acc i ds =>
    obtain ⟨da, vs, k, t, hd, e, en, q⟩ := x
    obtain ⟨o, es, ep, ho, he, sk', hm⟩ := en
    exact ⟨da, vs, k, t, (fun y => (hY da y).elim hd fun z => (by rw [ho] at z; cases z)), ha _ e, ⟨o, es, ep, sk da o ho (.inr (.inr ⟨es, ep, he, by rw [hm]; simp [accM]⟩)) hd, he, sk', hm⟩, q.mono hY sk⟩
  | none => exact x.elim
  | bool => exact x.elim
  | int => exact x.elim
  | str => exact x.elim
  | tup => exact x.elim
  | rng => exact x.elim
  | raw => exact x.elim
theorem OwnC.get {X : Addr → Prop} {h : Heap} {a : Addr} {d : D} (x : OwnC X h a d) : ∃ o vs k, h.get? a = some o ∧ o.data = .seq vs k ∧ o.cls ≠ .none := by
  cases d with
  | list ds => obtain ⟨vs, k, e, q⟩ := x; exact ⟨_, vs, k, e, rfl, nofun⟩
  | acc i ds => obtain ⟨da, vs, k, t, hd, e, _⟩ := x; exact ⟨_, vs, k, e, rfl, nofun⟩
  | none => exact x.elim
  | bool => exact x.elim
  | int => exact x.elim
  | str => exact x.elim
  | tup => exact x.elim
  | rng => exact x.elim
  | raw => exact x.elim
theorem OwnC.frz {X Y : Addr → Prop} {h : Heap} {a : Addr} {d : D} (x : OwnC X h a d) (hY : ∀ a, Y a → X a) (ha : ¬ Y a) : Rp Y h d (.ref a) := by
  have hY' : ∀ a, Y a → X a ∨ h.get? a = none := fun a y => .inl (hY a y)
  cases d with
  | list ds => obtain ⟨vs, k, e, q⟩ := x; unfold Rp; exact ⟨a, vs, k, rfl, ha, e, q.mono hY' fun _ _ e _ _ => e⟩
  | acc i ds => obtain ⟨da, vs, k, t, hd, e, en, q⟩ := x; unfold Rp; exact ⟨a, da, vs, k, t, rfl, ha, fun y => hd (hY _ y), e, en, q.mono hY' fun _ _ e _ _ => e⟩
  | none => exact x.elim
  | bool => exact x.elim
  | int => exact x.elim
  | str => exact x.elim
  | tup => exact x.elim
  | rng => exact x.elim
  | raw => exact x.elim
section
variable {n : Nat} {sc : Scope} {r o : List (Str × D)} {n₀ : Nat} {X₀ Wb : Addr → Prop} {sb : Shared} {env : Env} {s : Shared} {A : Around} {ad : Str → Addr}
theorem StA.nsOwn (S : StA n₀ X₀ Wb sb env r o s ad) {p : Str × D} (hp : p ∈ o) : ad p.1 ≠ env.locals := fun e => by
  obtain ⟨ob, vs, k, e1, e2, _⟩ := (S.own p hp).2.1.get
  obtain ⟨m, ⟨ob', es, ep, e3, e4, _⟩, _⟩ := S.vars.ns
  rw [e] at e1; rw [e1] at e3; cases e3; rw [e2] at e4; cases e4
theorem StA.cellOwn (S : StA n₀ X₀ Wb sb env r o s ad) {p : Str × D} (hp : p ∈ o) {c v} (hc : s.heap.IsCell c v) : ad p.1 ≠ c := fun e => by
  obtain ⟨ob, vs, k, e1, e2, _⟩ := (S.own p hp).2.1.get
  obtain ⟨ob', e3, e4⟩ := hc
  rw [e] at e1; rw [e1] at e3; cases e3; rw [e2] at e4; cases e4
theorem StA.nXL (S : StA n₀ X₀ Wb sb env r o s ad) : ¬ OX X₀ o ad env.locals := fun x => by
  rcases x with x | ⟨p, hp, e⟩
  · exact absurd (S.xlow _ x) (Nat.not_lt.mpr S.lowL)
  · exact S.nsOwn hp e
theorem StA.nXC (S : StA n₀ X₀ Wb sb env r o s ad) {x c} (hk : env.kindOf x = some .cell) (hc : env.cells.lookup x = some c) : ¬ OX X₀ o ad c := fun y => by
  rcases y with y | ⟨p, hp, e⟩
  · exact absurd (S.xlow _ y) (Nat.not_lt.mpr (S.lowC x c hk hc))
  · obtain ⟨c', v, e1, e2⟩ := S.cells x hk
    rw [hc] at e1; cases e1
    exact S.cellOwn hp e2 e
theorem StA.step {s' : Shared} (S : StA n₀ X₀ Wb sb env r o s ad) (a : Eff s s') (I : Inv s'.heap) : StA n₀ X₀ Wb sb env r o s' ad where
  eff := S.eff.trans a.toM
  ownB := S.ownB
  inv := I
  vars := S.vars.eff a S.inv
  n0 := S.n0
  xlow := S.xlow
  lowL := S.lowL
  lowC := S.lowC
  cells := fun x k => by obtain ⟨c, v, e, h⟩ := S.cells x k; exact ⟨c, v, e, a.cell S.inv h⟩
  apart := S.apart
  own := fun p hp => by
    obtain ⟨h1, h2, h3⟩ := S.own p hp
    obtain ⟨ob, vs, k, e1, e2, e3⟩ := h2.get
    refine ⟨h1, h2.keep (fun ob' e => a.keep _ _ e (S.inv.notTab e (.inr (by rw [e1] at e; cases e; rw [e2]; nofun))) fun z => z) (fun _ y => .inl y) (a.sk S.inv), h3.eff a S.inv⟩
  dist := S.dist
theorem StA.vsub {r' : List (Str × D)} (S : StA n₀ X₀ Wb sb env r o s ad) (k : ∀ y d, r'.lookup y = some d → r.lookup y = some d) : StA n₀ X₀ Wb sb env r' o s ad := ⟨S.eff, S.ownB, S.inv, S.vars.sub k, S.n0, S.xlow, S.lowL, S.lowC, S.cells, S.apart, S.own, S.dist⟩
theorem StA.rebase (S : StA n₀ X₀ Wb sb env r o s ad) : StA n₀ X₀ (OW o ad) s env r o s ad := ⟨EffM.refl _ s, fun p hp => .inl ⟨p, hp, rfl⟩, S.inv, S.vars, S.n0, S.xlow, S.lowL, S.lowC, S.cells, S.apart, S.own, S.dist⟩
theorem StA.effBack {s' : Shared} (S : StA n₀ X₀ Wb sb env r o s ad) (E : EffM (Mu env (OW o ad)) s s') : EffM (Mu env Wb) sb s' :=
  ⟨E.os.trans S.eff.os, fun g gs e => E.gens g gs (S.eff.gens g gs e), fun x => E.bare (S.eff.bare x), fun x ob e t m => by
    refine E.keep x ob (S.eff.keep x ob e t m) t fun y => ?_
    rcases y with y | y | ⟨p, hp, y⟩
    · exact m (.inl y)
    · exact m (.inr (.inl y))
    · rcases S.ownB p hp with z | z
      · exact m (.inr (.inr (y ▸ z)))
      · rw [y, e] at z; cases z⟩
theorem StA.back {s' : Shared} {r' o' : List (Str × D)} {ad' : Str → Addr} (S : StA n₀ X₀ Wb sb env r o s ad) (S' : StA n₀ X₀ (OW o ad) s env r' o' s' ad') : StA n₀ X₀ Wb sb env r' o' s' ad' :=
  ⟨S.effBack S'.eff, fun p hp => by
    rcases S'.ownB p hp with ⟨q, hq, e⟩ | z
    · rw [← e]; exact S.ownB q hq
    · cases h : sb.heap.get? (ad' p.1) with
      | none => exact .inr rfl
      | some ob =>
        by_cases t : ad' p.1 ∈ tabs
        · exfalso
          have := S'.own p hp
          have h196 := Nat.le_trans S'.n0 this.1
          have : ad' p.1 < 196 := by
            simp only [tabs, List.mem_cons, List.not_mem_nil, or_false] at t
            rcases t with t | t | t | t <;> rw [t] <;> decide
          exact absurd h196 (Nat.not_le.mpr this)
        · by_cases m : Mu env Wb (ad' p.1)
          · rcases m with m | ⟨x, m1, m2⟩ | m
            · exact absurd m (S'.nsOwn hp)
            · obtain ⟨c, v, e1, e2⟩ := S'.cells x m1
              rw [m2] at e1; cases e1
              exact absurd rfl (S'.cellOwn hp e2)
            · exact .inl m
          · have := S.eff.keep _ _ h t m
            rw [this] at z; exact absurd z nofun, S'.inv, S'.vars, S.n0, S.xlow, S.lowL, S.lowC, S'.cells, S.apart, S'.own, S'.dist⟩
theorem StA.store {x : Str} {d : D} {v : Value} (S : StA n₀ X₀ Wb sb env r o s ad) (hd : Rp (OX X₀ o ad) s.heap d v) (hs : env.scope = sc) (hk : sc.names.lookup x = some .local ∨ sc.names.lookup x = some .cell) (hxi : iniS ≠ x) (hxo : ∀ p ∈ o, p.1 ≠ x) :
    wpAny (model PRG w) A (storeName env x v) (fun _ s' => StA n₀ X₀ Wb sb env ((x, d) :: r) o s' ad) (fun _ _ => False) s := by
  obtain ⟨m, nm, mi, hm⟩ := S.vars.ns
  rcases hk with hk | hk
  · have k := kindOf_eq hs hk
    refine wpAny_storeName_local k nm (fun h' hn hsb => ?_) (by rw [S.vars.kind]; rfl)
    have hl : 196 ≤ env.locals := Nat.le_trans S.n0 S.lowL
    have nS := ns_notSeq nm mi
    have sk : SK (OX X₀ o ad) s.heap h' := fun b ob e c' _ => (hsb.2 b fun z => nS ob (z ▸ e) c').trans e
    refine ⟨S.eff.trans ⟨rfl, fun _ _ e => e, id, fun a ob e _ q => (hsb.2 a fun z => q (.inl z)).trans e⟩, S.ownB, S.inv.same hl hsb (ns_notCod nm), S.vars.store nm mi hxi hm k hn hsb hd S.nXL, S.n0, S.xlow, S.lowL, S.lowC, fun y ky => ?_, S.apart, fun p hp => ?_, S.dist⟩
    · obtain ⟨c, v', e, ⟨ob, e1, e2⟩⟩ := S.cells y ky
      have : c ≠ env.locals := fun z => ns_notCell (v := v') nm (by rw [← z]; exact ⟨ob, e1, e2⟩)
      exact ⟨c, v', e, ⟨ob, (hsb.2 c this).trans e1, e2⟩⟩
    · obtain ⟨h1, h2, h3⟩ := S.own p hp
      refine ⟨h1, h2.keep (fun ob e => (hsb.2 _ (S.nsOwn hp)).trans e) (fun _ y => .inl y) sk, ?_⟩
      rcases h3 with ⟨h3, m', h4, h5⟩ | ⟨h3, c, h4, ob, h5, h6⟩
      · refine .inl ⟨h3, _, hn, ?_⟩
        show (if p.1 = x then some v else m p.1) = _
        rw [if_neg (hxo p hp)]
        obtain ⟨ob, es, ep, q1, q2, q3, q4⟩ := nm
        obtain ⟨ob', es', ep', q1', q2', q3', q4'⟩ := h4
        rw [q1] at q1'; cases q1'; rw [q2] at q2'; cases q2'
        rw [← q4, q4']; exact h5
      · have h7 : s.heap.IsCell c (some (.ref (ad p.1))) := ⟨ob, h5, h6⟩
        have : c ≠ env.locals := fun z => ns_notCell nm (z ▸ h7)
        exact .inr ⟨h3, c, h4, ob, (hsb.2 c this).trans h5, h6⟩
  · have k := kindOf_eq hs hk
    obtain ⟨c, v₀, ec, hc⟩ := S.cells x k
    refine wpAny_storeName_cell S.vars.kind k ec hc fun h' hc' hsb => ?_
    have hl : 196 ≤ c := Nat.le_trans S.n0 (S.lowC x c k ec)
    have nS := cell_notSeq hc
    have sk : SK (OX X₀ o ad) s.heap h' := fun b ob e c' _ => (hsb.2 b fun z => nS ob (z ▸ e) c').trans e
    have cL : c ≠ env.locals := fun z => ns_notCell nm (z ▸ hc)
    refine ⟨S.eff.trans ⟨rfl, fun _ _ e => e, id, fun a ob e _ q => (hsb.2 a fun z => q (.inr (.inl ⟨x, k, z ▸ ec⟩))).trans e⟩, S.ownB, S.inv.same hl hsb (cell_notCod hc), ⟨S.vars.bnd.keeps fun a y ob e => (hsb.2 a fun z => S.nXC k ec (z ▸ y)).trans e, S.vars.kind, S.vars.glo, S.vars.bui, ?_, ?_⟩, S.n0, S.xlow, S.lowL, S.lowC, ?_, S.apart, fun p hp => ?_, S.dist⟩
    · refine ⟨m, nm.at' fun ob e => (hsb.2 _ (Ne.symm cL)).trans e, mi, fun y d' e q => ?_⟩
      rw [List.lookup_cons] at e
      have hy : y ≠ x := fun z => by subst z; rw [k] at q; cases q
      have : (y == x) = false := by simpa using hy
      rw [this] at e
      obtain ⟨v', e1, e2⟩ := hm y d' e q
      exact ⟨v', e1, e2.keep sk⟩
    · intro y d' e q
      rw [List.lookup_cons] at e
      by_cases hy : y = x
      · subst hy
        rw [beq_self_eq_true] at e; cases e
        exact ⟨c, v, ec, hc', hd.keep sk⟩
      · have : (y == x) = false := by simpa using hy
        rw [this] at e
        obtain ⟨c', v', e1, ⟨ob, e2, e4⟩, e3⟩ := S.vars.cel y d' e q
        have : c' ≠ c := fun z => hy (S.apart y x c (z ▸ e1) ec)
        exact ⟨c', v', e1, ⟨ob, (hsb.2 _ this).trans e2, e4⟩, e3.keep sk⟩
    · intro y ky
      by_cases hy : y = x
      · subst hy; exact ⟨c, _, ec, hc'⟩
      · obtain ⟨c', v', e1, ⟨ob, e2, e4⟩⟩ := S.cells y ky
        have : c' ≠ c := fun z => hy (S.apart y x c (z ▸ e1) ec)
        exact ⟨c', v', e1, ⟨ob, (hsb.2 _ this).trans e2, e4⟩⟩
    · obtain ⟨h1, h2, h3⟩ := S.own p hp
      refine ⟨h1, h2.keep (fun ob e => (hsb.2 _ (S.cellOwn hp hc)).trans e) (fun _ y => .inl y) sk, ?_⟩
      rcases h3 with ⟨h3, m', h4, h5⟩ | ⟨h3, c', h4, ob, h5, h6⟩
      · exact .inl ⟨h3, m', h4.at' fun ob e => (hsb.2 _ (Ne.symm cL)).trans e, h5⟩
      · have : c' ≠ c := fun z => hxo p hp (S.apart p.1 x c (z ▸ h4) ec)
        exact .inr ⟨h3, c', h4, ob, (hsb.2 c' this).trans h5, h6⟩
theorem StA.frz (S : StA n₀ X₀ Wb sb env r o s ad) : Vars X₀ env (o ++ r) s.heap := by
  have hX : ∀ a, X₀ a → OX X₀ o ad a ∨ s.heap.get? a = none := fun a x => .inl (.inl x)
  have V := S.vars.more hX (fun a x => S.vars.bnd a (.inl x))
  obtain ⟨m, nm, mi, hm⟩ := V.ns
  have nl : ∀ y d, o.lookup y = some d → (y, d) ∈ o := fun y d e => mem_of_lookup e
  refine ⟨V.bnd, V.kind, V.glo, V.bui, ⟨m, nm, mi, fun y d e k => ?_⟩, fun y d e k => ?_⟩
  · rw [List.lookup_append] at e
    cases h : o.lookup y with
    | none => rw [h] at e; exact hm y d (by simpa using e) k
    | some d' =>
      rw [h] at e; simp at e; subst e
      obtain ⟨h1, h2, h3⟩ := S.own _ (nl y d' h)
      refine ⟨.ref (ad y), ?_, h2.frz (fun a x => .inl x) fun x => absurd (S.xlow _ x) (Nat.not_lt.mpr h1)⟩
      rcases h3 with ⟨h3, m', h4, h5⟩ | ⟨h3, _⟩
      · obtain ⟨ob, es, ep, q1, q2, q3, q4⟩ := nm
        obtain ⟨ob', es', ep', q1', q2', q3', q4'⟩ := h4
        rw [q1] at q1'; cases q1'; rw [q2] at q2'; cases q2'
        rw [← q4, q4']; exact h5
      · have h3 : env.kindOf y = some .cell := h3
        rw [h3] at k; cases k
  · rw [List.lookup_append] at e
    cases h : o.lookup y with
    | none => rw [h] at e; exact V.cel y d (by simpa using e) k
    | some d' =>
      rw [h] at e; simp at e; subst e
      obtain ⟨h1, h2, h3⟩ := S.own _ (nl y d' h)
      rcases h3 with ⟨h3, _⟩ | ⟨h3, c, h4, h5⟩
      · have h3 : env.kindOf y = some .local := h3
        rcases k with k | k <;> rw [h3] at k <;> cases k
      · exact ⟨c, .ref (ad y), h4, h5, h2.frz (fun a x => .inl x) fun x => absurd (S.xlow _ x) (Nat.not_lt.mpr h1)⟩
end
end Mine
end
section
-- B9
open PySem PySem.W PyProof.Rows
namespace Mine
variable {w : World}
noncomputable abbrev VL := List (Str × D)
inductive Out where
  | next (r o : VL)
  | ret (d : D)
noncomputable def Pst (n₀ : Nat) (X₀ Wb : Addr → Prop) (sb : Shared) (env : Env) : Out → Flow → Shared → Prop
  | .next r o, .next, s' => St n₀ X₀ Wb sb env r o s'
  | .ret d, .ret v, s' => EffM (Mu env Wb) sb s' ∧ Inv s'.heap ∧ Rp X₀ s'.heap d v
  | _, _, _ => False
noncomputable def Blk (w : World) (n : Nat) (sc : Scope) (r o : VL) (body : List Stmt) (out : Out) : Prop :=
  ∀ (A : Around) (n₀ : Nat) (X₀ Wb : Addr → Prop) (sb : Shared) (env : Env) (s : Shared), env.scope = sc → Rm n A → St n₀ X₀ Wb sb env r o s →
    wpAny (model PRG w) A (execs body env) (fun f s' => Pst n₀ X₀ Wb sb env out f s') (fun _ _ => False) s
noncomputable def Stm (w : World) (n : Nat) (sc : Scope) (r o : VL) (st : Stmt) (out : Out) : Prop :=
  ∀ (A : Around) (n₀ : Nat) (X₀ Wb : Addr → Prop) (sb : Shared) (env : Env) (s : Shared), env.scope = sc → Rm n A → St n₀ X₀ Wb sb env r o s →
    wpAny (model PRG w) A (exec st env) (fun f s' => Pst n₀ X₀ Wb sb env out f s') (fun _ _ => False) s
noncomputable def Sub (r r' : VL) : Prop := ∀ y d, r'.lookup y = some d → r.lookup y = some d
theorem Sub.refl (r : VL) : Sub r r := fun _ _ e => e
theorem Sub.nil {r : VL} : Sub r [] := fun _ _ e => by cases e
theorem Sub.cons {r q : VL} {x : Str} {d : D} (h : r.lookup x = some d) (t : Sub r q) : Sub r ((x, d) :: q) := fun y d' e => by
  rw [List.lookup_cons] at e
  by_cases hy : y = x
  · subst hy; rw [beq_self_eq_true] at e; cases e; exact h
  · have : (y == x) = false := by simpa using hy
    rw [this] at e; exact t y d' e
inductive Flat : D → Prop
  | none : Flat .none
  | bool {b} : Flat (.bool b)
  | int {i} : Flat (.int i)
  | str {s} : Flat (.str s)
  | raw {v} : Flat (.raw v)
theorem Flat.rp {d : D} (f : Flat d) {X Y : Addr → Prop} {h h' : Heap} {v : Value} (x : Rp X h d v) : Rp Y h' d v := by
  cases f <;> exact x
section
variable {n : Nat} {sc : Scope} {r o r' o' : VL} {out : Out}
theorem Blk.nil : Blk w n sc r o [] (.next r o) := fun A n₀ X₀ Wb sb env s hs R S => wpAny_execs_nil S
theorem Blk.cons {st : Stmt} {rest : List Stmt} (h : Stm w n sc r o st (.next r' o')) (t : Blk w n sc r' o' rest out) : Blk w n sc r o (st :: rest) out := fun A n₀ X₀ Wb sb env s hs R S =>
  wpAny_execs_cons (wpAny_mono (h A n₀ X₀ Wb sb env s hs R S) (fun f s' p => by
    cases f with
    | next => exact t A n₀ X₀ Wb sb env s' hs R p
    | brk => exact p.elim
    | cont => exact p.elim
    | ret v => exact p.elim) fun _ _ z => z.elim)
theorem Blk.last {st : Stmt} {rest : List Stmt} {d : D} (h : Stm w n sc r o st (.ret d)) : Blk w n sc r o (st :: rest) (.ret d) := fun A n₀ X₀ Wb sb env s hs R S =>
  wpAny_execs_cons (wpAny_mono (h A n₀ X₀ Wb sb env s hs R S) (fun f s' p => by
    cases f with
    | next => exact p.elim
    | brk => exact p.elim
    | cont => exact p.elim
    | ret v => exact p) fun _ _ z => z.elim)
theorem Blk.weak {body : List Stmt} (h : Blk w n sc r o body (.next r' o')) {r'' : VL} (k : Sub r' r'') : Blk w n sc r o body (.next r'' o') := fun A n₀ X₀ Wb sb env s hs R S =>
  wpAny_mono (h A n₀ X₀ Wb sb env s hs R S) (fun f s' p => by
    cases f with
    | next => obtain ⟨ad, S'⟩ := p; exact ⟨ad, S'.vsub k⟩
    | brk => exact p.elim
    | cont => exact p.elim
    | ret v => exact p.elim) fun _ _ z => z.elim
theorem Blk.pre {body : List Stmt} {r₀ : VL} (h : Blk w n sc r o body out) (k : Sub r₀ r) : Blk w n sc r₀ o body out := fun A n₀ X₀ Wb sb env s hs R S => by
  obtain ⟨ad, S⟩ := S
  exact h A n₀ X₀ Wb sb env s hs R ⟨ad, S.vsub k⟩
theorem Stm.pre {st : Stmt} {r₀ : VL} (h : Stm w n sc r o st out) (k : Sub r₀ r) : Stm w n sc r₀ o st out := fun A n₀ X₀ Wb sb env s hs R S => by
  obtain ⟨ad, S⟩ := S
  exact h A n₀ X₀ Wb sb env s hs R ⟨ad, S.vsub k⟩
theorem Blk.lessRoom {body : List Stmt} {m : Nat} (h : Blk w n sc r o body out) (k : n ≤ m) : Blk w m sc r o body out := fun A n₀ X₀ Wb sb env s hs R S => h A n₀ X₀ Wb sb env s hs (R.less k) S
inductive EvO (w : World) (n : Nat) (sc : Scope) (r o : VL) (e : Expr) (d : D) : Prop
  | pure (h : EvS w n sc r e d)
  | frz (h : EvS w n sc (o ++ r) e d) (f : Flat d)
theorem EvO.ev {e : Expr} {d : D} (h : EvO w n sc r o e d) {A : Around} {n₀ : Nat} {X₀ Wb : Addr → Prop} {sb : Shared} {env : Env} {s : Shared} {ad : Str → Addr} (hs : env.scope = sc) (R : Rm n A) (S : StA n₀ X₀ Wb sb env r o s ad) :
    wpAny (model PRG w) A (eval e env) (fun v s' => StA n₀ X₀ Wb sb env r o s' ad ∧ Eff s s' ∧ Rp (OX X₀ o ad) s'.heap d v) (fun _ _ => False) s := by
  cases h with
  | pure h => exact wpAny_mono (h A s env _ hs R S.inv S.vars) (fun v s' p => ⟨S.step p.1 p.2.1, p.1, p.2.2⟩) fun _ _ z => z
  | frz h f => exact wpAny_mono (h A s env _ hs R S.inv S.frz) (fun v s' p => ⟨S.step p.1 p.2.1, p.1, f.rp p.2.2⟩) fun _ _ z => z
theorem Stm.ret {e : Expr} {pos : Pos} {d : D} (h : EvS w n sc (o ++ r) e d) : Stm w n sc r o (.Return (some e) pos) (.ret d) := fun A n₀ X₀ Wb sb env s hs R S => by
  obtain ⟨ad, S⟩ := S
  refine wpAny_Return_some (wpAny_mono (h A s env _ hs R S.inv S.frz) (fun v s' p => ?_) fun _ _ z => z)
  exact ⟨S.eff.trans p.1.toM, p.2.1, p.2.2⟩
theorem Stm.ite {t : Expr} {body els : List Stmt} {pos : Pos} {b : Bool} (h : TstS w n sc (o ++ r) t b) (ht : b = true → Blk w n sc r o body out) (hf : b = false → Blk w n sc r o els out) : Stm w n sc r o (.If t body els pos) out := fun A n₀ X₀ Wb sb env s hs R S => by
  obtain ⟨ad, S⟩ := S
  refine wpAny_If (wpAny_mono (h A s env _ hs R S.inv S.frz) (fun b' s' p => ?_) fun _ _ z => z)
  obtain ⟨rfl, p1, p2⟩ := p
  cases b' with
  | true => exact ht rfl A n₀ X₀ Wb sb env s' hs R ⟨ad, S.step p1 p2⟩
  | false => exact hf rfl A n₀ X₀ Wb sb env s' hs R ⟨ad, S.step p1 p2⟩
theorem Stm.skipIf {t : Expr} {body : List Stmt} {pos : Pos} (h : TstS w n sc (o ++ r) t false) : Stm w n sc r o (.If t body [] pos) (.next r o) :=
  Stm.ite h (fun q => by cases q) fun _ => Blk.nil
theorem StA.sk {n₀ : Nat} {X₀ Wb : Addr → Prop} {sb : Shared} {env : Env} {s s' : Shared} {ad : Str → Addr} (S : StA n₀ X₀ Wb sb env r o s ad) (E : EffM (Mu env (OW o ad)) s s') : SK (OX X₀ o ad) s.heap s'.heap :=
  E.sk S.inv fun x m => by
    rcases m with m | ⟨y, m1, m2⟩ | m
    · obtain ⟨m', nm, mi, _⟩ := S.vars.ns
      exact .inr (m ▸ ns_notSeq nm mi)
    · obtain ⟨c, v, e, hc⟩ := S.cells y m1
      rw [m2] at e; cases e
      exact .inr (cell_notSeq hc)
    · exact .inl (.inr m)
noncomputable def TgtS (w : World) (n : Nat) (sc : Scope) (t : Expr) (d : D) (r o r' : VL) : Prop :=
  ∀ (A : Around) (n₀ : Nat) (X₀ Wb : Addr → Prop) (sb : Shared) (env : Env) (s : Shared) (ad : Str → Addr) (v : Value), env.scope = sc → Rm n A → StA n₀ X₀ Wb sb env r o s ad → Rp (OX X₀ o ad) s.heap d v →
    wpAny (model PRG w) A (assign t env v) (fun _ s' => StA n₀ X₀ Wb sb env r' o s' ad) (fun _ _ => False) s
structure StoreOk (sc : Scope) (o : VL) (x : Str) : Prop where
  k : sc.names.lookup x = some .local ∨ sc.names.lookup x = some .cell
  i : iniS ≠ x
  o : ∀ p ∈ o, p.1 ≠ x
theorem TgtS.name {x : Str} {p : Pos} {d : D} (k : StoreOk sc o x) : TgtS w n sc (.Name x p) d r o ((x, d) :: r) := fun A n₀ X₀ Wb sb env s ad v hs R S hd =>
  wpAny_assign_Name (S.store hd hs k.k k.i k.o)
inductive Names : List Expr → List Str → Prop
  | nil : Names [] []
  | cons {x p es xs} : Names es xs → Names (.Name x p :: es) (x :: xs)
noncomputable def putAll : List Str → List D → VL → VL
  | x :: xs, d :: ds, r => putAll xs ds ((x, d) :: r)
  | _, _, r => r
theorem Names.each {es : List Expr} {xs : List Str} (h : Names es xs) (env : Env) : ((assignEach es env).length = xs.length) ∧ ((assignEach es env).findIdx? (·.1) = none) ∧
    ∀ {A : Around} {n₀ : Nat} {X₀ Wb : Addr → Prop} {sb : Shared} (ad : Str → Addr) (s : Shared) (r : VL) (ds : List D) (vs : List Value), (∀ x ∈ xs, StoreOk sc o x) → env.scope = sc → Rm n A → StA n₀ X₀ Wb sb env r o s ad → ds.length = xs.length → RpL (OX X₀ o ad) s.heap ds vs →
      wpAny (model PRG w) A (assignInOrder ((assignEach es env).map (·.2)) vs) (fun _ s' => StA n₀ X₀ Wb sb env (putAll xs ds r) o s' ad) (fun _ _ => False) s := by
  induction h with
  | nil =>
    refine ⟨rfl, rfl, fun ad s r ds vs _ _ _ S hl hd => ?_⟩
    have : ds = [] := by simpa using hl
    subst this
    have := hd.nil_inv; subst this
    exact wpAny_pure S
  | @cons x p es xs ht ih =>
    obtain ⟨i1, i2, i3⟩ := ih
    have e : assignEach (.Name x p :: es) env = (false, assign (.Name x p) env) :: assignEach es env := rfl
    refine ⟨by rw [e, List.length_cons, i1]; rfl, by rw [e, List.findIdx?_cons]; simp [i2], fun ad s r ds vs hk hs R S hl hd => ?_⟩
    cases ds with
    | nil => cases hl
    | cons d ds =>
      obtain ⟨v, vs', rfl, h1, h2⟩ := hd.cons_inv
      rw [e, List.map_cons]
      have k := hk x (.head _)
      show wpAny _ _ (do holding vs' (assign (.Name x p) env v); assignInOrder ((assignEach es env).map (·.2)) vs') _ _ s
      refine wpAny_bind (wpAny_holding (wpAny_mono (TgtS.name (w := w) (n := n) (p := p) (d := d) k _ _ _ _ _ _ _ _ _ hs R S.rebase h1) (fun _ s' q => ?_) fun _ _ z => z))
      exact i3 ad s' ((x, d) :: r) ds vs' (fun y hy => hk y (.tail _ hy)) hs R (S.back q) (by simpa using hl) (h2.keep (S.sk q.eff))
end
end Mine
end
section
-- C0
open PySem PySem.W PyProof.Rows
namespace Mine
variable {w : World}
section
variable {n : Nat} {sc : Scope} {r o r' o' : VL} {out : Out}
theorem StoreOk.all {sc : Scope} {o : VL} {x : Str} (k : sc.names.lookup x = some .local ∨ sc.names.lookup x = some .cell) (i : iniS ≠ x) (h : (o.all fun p => !(p.1 == x)) = true) : StoreOk sc o x :=
  ⟨k, i, fun p hp e => by
    have := List.all_eq_true.mp h p hp
    rw [e, beq_self_eq_true] at this; cases this⟩
theorem TgtS.tuple {es : List Expr} {k : Nat} {p : Pos} {xs : List Str} {ds : List D} (h : Names es xs) (hk : ∀ x ∈ xs, StoreOk sc o x) (hl : ds.length = xs.length) : TgtS w n sc (.Tuple es k p) (.tup ds) r o (putAll xs ds r) := fun A n₀ X₀ Wb sb env s ad v hs R S hd => by
  unfold Rp at hd
  obtain ⟨a, vs, m, rfl, hx, ha, hr⟩ := hd
  obtain ⟨e1, e2, e3⟩ := h.each (w := w) (n := n) (sc := sc) (o := o) env
  have e4 := hr.length
  simp only [Array.length_toList] at e4
  refine wpAny_assign_Tuple R.handled (TObj.isTuple ha) (by rw [e1, e4, hl]) e2 fun h' hb => ?_
  have keep : ∀ b ob, s.heap.get? b = some ob → h'.get? b = some ob := fun b ob e => hb b ob (Nat.ne_of_lt (Heap.lt_size e)) e
  have E : Eff s { s with heap := h' } := ⟨rfl, fun _ _ e => e, id, fun a o e _ _ => keep a o e⟩
  exact e3 ad _ r ds vs.toList hk hs R (S.step E (S.inv.keeps keep)) hl (hr.keep (E.sk S.inv))
theorem Stm.assign {x : Str} {p pos : Pos} {e : Expr} {d : D} (h : EvO w n sc r o e d) (k : StoreOk sc o x)
    (hsw : ∀ env : Env, env.scope = sc → swapsWith e (some (.Name x p)) pos.line env = pure false := by intro _ _; rfl) : Stm w n sc r o (.Assign [.Name x p] e pos) (.next ((x, d) :: r) o) := fun A n₀ X₀ Wb sb env s hs R S => by
  obtain ⟨ad, S⟩ := S
  refine wpAny_Assign_Name (wpAny_mono (h.ev hs R S) (fun v s₁ q => ?_) fun _ _ z => z) (hsw env hs)
  exact wpAny_mono (q.1.store q.2.2 hs k.k k.i k.o) (fun _ s' q' => ⟨ad, q'⟩) fun _ _ z => z
theorem Stm.assignT {t : Expr} {es : List Expr} {kk : Nat} {p pos : Pos} {e : Expr} {d : D} (ht : t = .Tuple es kk p) (h : EvO w n sc r o e d) (k : TgtS w n sc t d r o r')
    (hw : ∀ env : Env, env.scope = sc → swappedStores [t] e env = pure none) (hsw : ∀ env : Env, env.scope = sc → swapsWithSole [t] e pos.line env = pure false := by intro _ _; rfl) : Stm w n sc r o (.Assign [t] e pos) (.next r' o) := fun A n₀ X₀ Wb sb env s hs R S => by
  obtain ⟨ad, S⟩ := S
  subst ht
  refine Assign_Tuple (wpAny_mono (h.ev hs R S) (fun v s₁ q => ?_) fun _ _ z => z) (hsw env hs) (hw env hs)
  exact wpAny_mono (k A n₀ X₀ Wb sb env s₁ ad v hs R q.1 q.2.2) (fun _ s' q' => ⟨ad, q'⟩) fun _ _ z => z
theorem Stm.assignW {es : List Expr} {kk : Nat} {p pos : Pos} {e : Expr} {xs : List Str} {ds : List D} (h : EvO w n sc r o e (.tup ds)) (hk : ∀ x ∈ xs, StoreOk sc o x) (hl : ds.length = xs.length)
    (hw : ∀ env : Env, env.scope = sc → swappedStores [.Tuple es kk p] e env = pure (some xs)) (hsw : ∀ env : Env, env.scope = sc → swapsWithSole [.Tuple es kk p] e pos.line env = pure false := by intro _ _; rfl) :
    Stm w n sc r o (.Assign [.Tuple es kk p] e pos) (.next (putAll xs.reverse ds.reverse r) o) := fun A n₀ X₀ Wb sb env s hs R S => by
  obtain ⟨ad, S⟩ := S
  refine Assign_Tuple_swapped (wpAny_mono (h.ev hs R S) (fun v s₁ q => ?_) fun _ _ z => z) (hsw env hs) (hw env hs)
  obtain ⟨S₁, E₁, hd⟩ := q
  unfold Rp at hd
  obtain ⟨a, vs, m, rfl, hx, ha, hr⟩ := hd
  have e4 := hr.length
  simp only [Array.length_toList] at e4
  have : xs.length = vs.size := by rw [e4, hl]
  rw [this]
  refine wpAny_unpackItems_tuple R.handled (TObj.isTuple ha) fun h' hb => ?_
  have keep : ∀ b ob, s₁.heap.get? b = some ob → h'.get? b = some ob := fun b ob e => hb b ob (Nat.ne_of_lt (Heap.lt_size e)) e
  have E : Eff s₁ { s₁ with heap := h' } := ⟨rfl, fun _ _ e => e, id, fun a o e _ _ => keep a o e⟩
  have key : ∀ (ys : List Str) (cs : List D) (us : List Value) (s : Shared) (r : VL), (∀ x ∈ ys, StoreOk sc o x) → StA n₀ X₀ Wb sb env r o s ad → cs.length = ys.length → RpL (OX X₀ o ad) s.heap cs us →
      wpAny (model PRG w) A (assignInOrder (ys.map fun n => bindName env n) us) (fun _ s' => StA n₀ X₀ Wb sb env (putAll ys cs r) o s' ad) (fun _ _ => False) s := by
    intro ys
    induction ys with
    | nil =>
      intro cs us s r _ S hl hd
      have : cs = [] := by simpa using hl
      subst this
      have := hd.nil_inv; subst this
      exact wpAny_pure S
    | cons y ys ih =>
      intro cs us s r hk S hl hd
      cases cs with
      | nil => cases hl
      | cons d ds =>
        obtain ⟨v, vs', rfl, h1, h2⟩ := hd.cons_inv
        have k := hk y (.head _)
        show wpAny _ _ (do holding vs' (bindName env y v); assignInOrder (ys.map fun n => bindName env n) vs') _ _ s
        refine wpAny_bind (wpAny_holding (wpAny_mono (wpAny_bindName (S.rebase.store h1 hs k.k k.i k.o)) (fun _ s' q => ?_) fun _ _ z => z))
        exact ih ds vs' s' ((y, d) :: r) (fun z hz => hk z (.tail _ hz)) (S.back q) (by simpa using hl) (h2.keep (S.sk q.eff))
  refine wpAny_mono (key xs.reverse ds.reverse vs.toList.reverse _ r (fun x hx => hk x (List.mem_reverse.mp hx)) (S₁.step E (S₁.inv.keeps keep)) (by simp [hl]) (hr.keep (E.sk S₁.inv)).reverse) (fun _ s' q' => ⟨ad, q'⟩) fun _ _ z => z
theorem Stm.aug {x : Str} {p pos : Pos} {e : Expr} {a b : Int} (hx : (o ++ r).lookup x = some (.int a)) (h : EvS w n sc (o ++ r) e (.int b)) (k : StoreOk sc o x) : Stm w n sc r o (.AugAssign (.Name x p) .Add e pos) (.next ((x, .int (a + b)) :: r) o) := fun A n₀ X₀ Wb sb env s hs R S => by
  obtain ⟨ad, S⟩ := S
  refine wpAny_AugAssign_Name ?_
  have q0 : wpAny (model PRG w) A (loadName env x) (fun v s' => EvP X₀ s (.int a) v s') (fun _ _ => False) s := by
    have V := S.frz
    rcases k.k with kk | kk
    · have k' := kindOf_eq hs kk
      obtain ⟨m, hn, _, q⟩ := V.ns
      obtain ⟨v, e1, e2⟩ := q x _ hx k'
      exact wpAny_loadName_local V.kind k' hn e1 ⟨EffM.refl _ s, S.inv, e2⟩
    · have k' := kindOf_eq hs kk
      obtain ⟨c, v, e0, e1, e2⟩ := V.cel x _ hx (.inl k')
      exact wpAny_loadName_cell V.kind k' e0 e1 ⟨EffM.refl _ s, S.inv, e2⟩
  refine wpAny_mono q0 (fun v s₁ q => ?_) fun _ _ z => z
  obtain ⟨q1, q2, t, rfl⟩ := q
  have S₁ := S.step q1 q2
  refine wpAny_mono (h A s₁ env _ hs R S₁.inv S₁.frz) (fun v s₂ g => ?_) fun _ _ z => z
  obtain ⟨g1, g2, u, rfl⟩ := g
  refine iadd_int ?_
  have S₂ := (S₁.step g1 g2).step (Eff.tok s₂ (s₂.toks + 1)) g2
  exact wpAny_mono (S₂.store (d := .int (a + b)) ⟨_, rfl⟩ hs k.k k.i k.o) (fun _ s' q' => ⟨ad, q'⟩) fun _ _ z => z
end
end Mine
end
section
-- C1
open PySem PySem.W PyProof.Rows
namespace Mine
variable {w : World}
section
variable {n : Nat} {sc : Scope} {r o r' o' : VL} {out : Out} {n₀ : Nat} {X₀ Wb : Addr → Prop} {sb : Shared} {env : Env} {s : Shared} {A : Around} {ad : Str → Addr}
theorem StA.other {h' : Heap} {tk : Nat} {I : Addr} {ob : Obj} (S : StA n₀ X₀ Wb sb env r o s ad) (k : ∀ b o, b ≠ I → s.heap.get? b = some o → h'.get? b = some o) (hI : s.heap.get? I = some ob) (hq : ¬ seqish ob) (hqc : ¬ codish ob) (hc : ∀ v, ob.data ≠ .cell v) (hL : I ≠ env.locals) (hn : n₀ ≤ I)
    (hb : sb.heap.get? I = none) : StA n₀ X₀ Wb sb env r o { s with heap := h', toks := tk } ad := by
  have hI196 : 196 ≤ I := Nat.le_trans S.n0 hn
  have nOX : ¬ OX X₀ o ad I := fun x => by
    rcases x with x | ⟨p, hp, e⟩
    · exact absurd (S.xlow _ x) (Nat.not_lt.mpr hn)
    · have h2 := (S.own p hp).2.1
      rw [e] at h2
      cases hd : p.2 with
      | list ds => rw [hd] at h2; obtain ⟨vs, k, e, _⟩ := h2; rw [hI] at e; cases e; exact hq .list
      | acc i ds => rw [hd] at h2; obtain ⟨da, vs, k, t, _, e, _⟩ := h2; rw [hI] at e; cases e; exact hq .ac
      | none => rw [hd] at h2; exact h2
      | bool => rw [hd] at h2; exact h2
      | int => rw [hd] at h2; exact h2
      | str => rw [hd] at h2; exact h2
      | tup => rw [hd] at h2; exact h2
      | rng => rw [hd] at h2; exact h2
      | raw => rw [hd] at h2; exact h2
  have sk : SK (OX X₀ o ad) s.heap h' := fun b ob' e c _ => k b ob' (fun z => by rw [z, hI] at e; cases e; exact hq c) e
  have cI : ∀ c v, s.heap.IsCell c v → c ≠ I := fun c v hc' z => by
    obtain ⟨o', e1, e2⟩ := hc'
    rw [z, hI] at e1; cases e1; exact hc _ e2
  refine ⟨⟨S.eff.os, S.eff.gens, S.eff.bare, fun a ob' e t m => k a ob' (fun z => by rw [z, hb] at e; cases e) (S.eff.keep a ob' e t m)⟩, S.ownB, S.inv.low (fun b ob' hb e => k b ob' (fun z => by rw [z] at hb; exact absurd hI196 (Nat.not_le.mpr hb)) e) (fun b ob' cc e => k b ob' (fun z => by rw [z, hI] at e; cases e; exact hqc cc) e), S.vars.step (S.vars.bnd.keeps fun a x ob' e => k a ob' (fun z => nOX (z ▸ x)) e) (fun ob' e => k _ _ (Ne.symm hL) e)
    (fun c v hc' ob' e => k c ob' (cI c v hc') e) sk, S.n0, S.xlow, S.lowL, S.lowC, fun x kx => ?_, S.apart, fun p hp => ?_, S.dist⟩
  · obtain ⟨c, v, e, h⟩ := S.cells x kx
    obtain ⟨o', e1, e2⟩ := h
    exact ⟨c, v, e, ⟨o', k c o' (cI c v ⟨o', e1, e2⟩) e1, e2⟩⟩
  · obtain ⟨h1, h2, h3⟩ := S.own p hp
    exact ⟨h1, h2.keep (fun ob' e => k _ _ (fun z => nOX (.inr ⟨p, hp, z⟩)) e) (fun _ y => .inl y) sk, h3.keep (fun ob' e => k _ _ (Ne.symm hL) e) fun c v hc' ob' e => k c ob' (cI c v hc') e⟩
theorem StA.itNe (S : StA n₀ X₀ Wb sb env r o s ad) {X : Addr → Prop} {I : Addr} {ds : List D} (hit : ItAt X s.heap I ds) : I ≠ env.locals := fun z => by
  obtain ⟨m, nm, _⟩ := S.vars.ns
  exact hit.noNs (z ▸ nm)
theorem StA.itMu (S : StA n₀ X₀ Wb sb env r o s ad) {X : Addr → Prop} {I : Addr} {ds : List D} (hit : ItAt X s.heap I ds) : ¬ Mu env (OW o ad) I := fun m => by
  rcases m with m | ⟨x, m1, m2⟩ | ⟨p, hp, e⟩
  · exact S.itNe hit m
  · obtain ⟨c, v, e, hc⟩ := S.cells x m1
    rw [m2] at e; cases e
    exact hit.noCell hc
  · obtain ⟨ob, vs, k, e1, e2, _⟩ := (S.own p hp).2.1.get
    obtain ⟨ob', vs', e3, _, _, e4, _⟩ := hit.fld
    rw [e] at e1; rw [e1] at e3; cases e3; rw [e2] at e4; cases e4
theorem lot_listy {es : List Expr} {k : Nat} {p : Pos} {I : Addr} {v : Value} {X : Addr → Prop} {ds : List D} {E : Value → Shared → Prop} {Q : Unit → Shared → Prop} (hit : ItAt X s.heap I ds) (h : Q () s) : wpAny (model PRG w) A (letOwnedTupleGo (.Tuple es k p) (.ref I) v) Q E s := by
  cases v with
  | ref a =>
    cases hit with
    | list a b c d =>
      obtain ⟨o, e, cl, dt⟩ := a
      refine wpAny_bind (wpAny_load e ?_)
      rw [cl, dt]
      exact wpAny_pure h
    | rng a =>
      refine wpAny_bind (wpAny_load a ?_)
      exact wpAny_pure h
    | rev a b c d =>
      obtain ⟨o, e, cl, dt⟩ := a
      refine wpAny_bind (wpAny_load e ?_)
      rw [cl, dt]
      exact wpAny_pure h
  | _ => exact wpAny_pure h
theorem for_core {t : Expr} {body : List Stmt} (rs os r1 : Nat → VL) {ds : List D} {I : Addr} (hs : env.scope = sc) (R : Rm n A)
    (ht : (∃ x p, t = .Name x p) ∨ ∃ es k p, t = .Tuple es k p)
    (htgt : ∀ i d, ds[i]? = some d → TgtS w n sc t d (rs i) (os i) (r1 i)) (hbody : ∀ i d, ds[i]? = some d → Blk w n sc (r1 i) (os i) body (.next (rs (i + 1)) (os (i + 1))))
    (S : StA n₀ X₀ Wb sb env (rs 0) (os 0) s ad) (hit : ItAt (OX X₀ (os 0) ad) s.heap I ds) (hI : sb.heap.get? I = none) (hIn : n₀ ≤ I) :
    codeAny (model PRG w) A (.forLoop t (.ref I) body [] env) (fun rr s' => match rr with | .ok f => Pst n₀ X₀ Wb sb env (.next (rs ds.length) (os ds.length)) f s' | .error e => False) s := by
  refine codeAny_mono (codeAny_forLoop_any (R := fun rr s' => match rr with | .ok f => Pst n₀ X₀ Wb sb env (.next (rs ds.length) (os ds.length)) f s' | .error e => False)
    (fun k s' => ∃ i ad', i ≤ ds.length ∧ k = ds.length - i + 1 ∧ StA n₀ X₀ Wb sb env (rs i) (os i) s' ad' ∧ ItAt (OX X₀ (os i) ad') s'.heap I (ds.drop i)) ?_ (ds.length + 1) ⟨0, ad, Nat.zero_le _, rfl, S, hit⟩) fun _ _ h => h
  rintro k s₁ ⟨i, ad₁, hi, rfl, S₁, hit₁⟩
  obtain ⟨ob, vs, hob, nq, ncl, hdt, nqc⟩ := hit₁.fld
  have nc : ∀ v, ob.data ≠ .cell v := fun v => by rw [hdt]; nofun
  have nq' : ∀ o', s₁.heap.get? I = some o' → ¬ seqish o' := fun o' e => by rw [hob] at e; cases e; exact nq
  cases hd : ds[i]? with
  | none =>
    have hlen : ds.length ≤ i := by rw [List.getElem?_eq_none_iff] at hd; exact hd
    have hil : i = ds.length := Nat.le_antisymm hi hlen
    rw [List.drop_eq_nil_of_le hlen] at hit₁
    refine next_end R.handled hit₁ fun h' hx => ?_
    refine wpAny_execs_nil ⟨ad₁, ?_⟩
    rw [← hil]
    exact S₁.other (tk := s₁.toks) (fun b o' hb e => hx b o' hb e) hob nq nqc nc (S₁.itNe hit₁) hIn hI
  | some d =>
    have hlt : i < ds.length := by rw [List.getElem?_eq_some_iff] at hd; exact hd.1
    have hdr : ds.drop i = d :: ds.drop (i + 1) := by
      rw [List.drop_eq_getElem_cons hlt]
      rw [List.getElem?_eq_getElem hlt] at hd; cases hd; rfl
    rw [hdr] at hit₁
    refine next_item hit₁ fun v h₁ tk hv hit₂ hs₁ => ?_
    have S₂ : StA n₀ X₀ Wb sb env (rs i) (os i) { s₁ with heap := h₁, toks := tk } ad₁ := S₁.other (fun b o' hb e => (hs₁.2 b hb).trans e) hob nq nqc nc (S₁.itNe hit₁) hIn hI
    have lot : ∀ Q : Unit → Shared → Prop, Q () { s₁ with heap := h₁, toks := tk } → wpAny (model PRG w) A (letOwnedTupleGo t (.ref I) v) Q (fun _ _ => False) { s₁ with heap := h₁, toks := tk } := fun Q hQ => by
      rcases ht with ⟨x, p, rfl⟩ | ⟨es, k, p, rfl⟩
      · exact wpAny_pure hQ
      · exact lot_listy (s := { s₁ with heap := h₁, toks := tk }) hit₂ hQ
    refine wpAny_mono (lot _ ?_) (fun _ _ z => z) fun _ _ z => z.elim
    refine wpAny_mono (htgt i d hd A n₀ X₀ (OW (os i) ad₁) _ env _ ad₁ v hs R S₂.rebase hv) (fun _ s₃ S₃ => ?_) fun _ _ z => z.elim
    refine wpAny_mono (hbody i d hd A n₀ X₀ (OW (os i) ad₁) _ env s₃ hs R ⟨ad₁, S₃⟩) (fun f s₄ p => ?_) fun _ _ z => z.elim
    cases f with
    | brk => exact p.elim
    | cont => exact p.elim
    | ret v => exact p.elim
    | next =>
      obtain ⟨ad₄, S₄⟩ := p
      refine ⟨ds.length - (i + 1) + 1, by omega, i + 1, ad₄, hlt, rfl, S₂.back S₄, hit₂.mono (fun o' e => S₄.eff.keep I o' e ?_ (S₂.itMu hit₂)) (fun a y => ?_) (S₂.sk S₄.eff)⟩
      · intro t
        have : I < 196 := by
          simp only [tabs, List.mem_cons, List.not_mem_nil, or_false] at t
          rcases t with t | t | t | t <;> rw [t] <;> decide
        exact absurd (Nat.le_trans S.n0 hIn) (Nat.not_le.mpr this)
      · rcases y with y | ⟨p, hp, e⟩
        · exact .inl (.inl y)
        · rcases S₄.ownB p hp with z | z
          · exact .inl (.inr (e ▸ z))
          · exact .inr (e ▸ z)
theorem Stm.for {t iter : Expr} {body : List Stmt} {pos : Pos} (rs os r1 : Nat → VL) {di : D} {ds : List D} (hi : EvS w n sc r iter di) (hit : Items di ds)
    (ht : (∃ x p, t = .Name x p) ∨ ∃ es k p, t = .Tuple es k p) (h0 : Sub r (rs 0)) (ho : o = os 0)
    (htgt : ∀ i d, ds[i]? = some d → TgtS w n sc t d (rs i) (os i) (r1 i)) (hbody : ∀ i d, ds[i]? = some d → Blk w n sc (r1 i) (os i) body (.next (rs (i + 1)) (os (i + 1))))
    (hfold : ∀ env v, foldedSetIterable iter env v = pure v := by intro _ _; rfl) :
    Stm w n sc r o (.For t iter body [] pos) (.next (rs ds.length) (os ds.length)) := fun A n₀ X₀ Wb sb env s hs R S => by
  obtain ⟨ad, S⟩ := S
  refine wpAny_For (wpAny_mono (hi A s env _ hs R S.inv S.vars) (fun xv s₁ p => ?_) fun _ _ z => z) fun x => hfold env x
  obtain ⟨p1, p2, p3⟩ := p
  have S₁ := S.step p1 p2
  refine iter_make hit p3 fun ob hof hos hitA => ?_
  have E₂ : Eff s₁ { s₁ with heap := s₁.heap.push ob } := Eff.push s₁ ob s₁.toks
  have S₂ : StA n₀ X₀ (OW o ad) s₁ env r o { s₁ with heap := s₁.heap.push ob } ad := S₁.rebase.step E₂ (p2.push ob)
  have hit₂ : ItAt (OX X₀ o ad) (s₁.heap.push ob) s₁.heap.objs.size ds := hitA
  have hIn : n₀ ≤ s₁.heap.objs.size := by
    obtain ⟨m, nm, _⟩ := S₁.vars.ns
    exact Nat.le_trans S₁.lowL (Nat.le_of_lt nm.lt)
  subst ho
  refine codeAny_mono (for_core rs os r1 hs R ht htgt hbody (S₂.vsub h0) hit₂ (Heap.get?_none_of_le (Nat.le_refl _)) hIn) fun rr s' q => ?_
  cases rr with
  | error e => exact q.elim
  | ok f =>
    cases f with
    | next => obtain ⟨ad', S'⟩ := q; exact ⟨ad', S₁.back S'⟩
    | brk => exact q.elim
    | cont => exact q.elim
    | ret v => exact q.elim
theorem Stm.while {t : Expr} {body : List Stmt} {pos : Pos} (rs os : Nat → VL) (N : Nat) (h0 : Sub r (rs 0)) (ho : o = os 0)
    (ht : ∀ i, i < N → TstS w n sc (os i ++ rs i) t true) (hf : TstS w n sc (os N ++ rs N) t false) (hbody : ∀ i, i < N → Blk w n sc (rs i) (os i) body (.next (rs (i + 1)) (os (i + 1)))) :
    Stm w n sc r o (.While t body [] pos) (.next (rs N) (os N)) := fun A n₀ X₀ Wb sb env s hs R S => by
  obtain ⟨ad, S⟩ := S
  subst ho
  refine wpAny_While (codeAny_mono (codeAny_whileLoop (R := fun rr s' => match rr with | .ok f => Pst n₀ X₀ Wb sb env (.next (rs N) (os N)) f s' | .error e => False)
    (fun k s' => ∃ i, i ≤ N ∧ k = N - i ∧ St n₀ X₀ Wb sb env (rs i) (os i) s') ?_ N ⟨0, Nat.zero_le _, rfl, ad, S.vsub h0⟩) fun rr s' h => ?_)
  · rintro k s₁ ⟨i, hi, rfl, ad₁, S₁⟩
    by_cases hN : i = N
    · subst hN
      refine wpAny_mono (hf A s₁ env _ hs R S₁.inv S₁.frz) (fun b s₂ p => ?_) fun _ _ z => z.elim
      obtain ⟨rfl, p1, p2⟩ := p
      exact wpAny_execs_nil ⟨ad₁, S₁.step p1 p2⟩
    · have hlt : i < N := by omega
      refine wpAny_mono (ht i hlt A s₁ env _ hs R S₁.inv S₁.frz) (fun b s₂ p => ?_) fun _ _ z => z.elim
      obtain ⟨rfl, p1, p2⟩ := p
      refine wpAny_mono (hbody i hlt A n₀ X₀ Wb sb env s₂ hs R ⟨ad₁, S₁.step p1 p2⟩) (fun f s₃ q => ?_) fun _ _ z => z.elim
      cases f with
      | next => exact ⟨N - (i + 1), by omega, i + 1, hlt, rfl, q⟩
      | brk => exact q.elim
      | cont => exact q.elim
      | ret v => exact q.elim
  · cases rr with
    | ok f => exact h
    | error e => exact h.elim
end
end Mine
end
section
-- C2
open PySem PySem.W PyProof.Rows
namespace Mine
variable {w : World}
section
variable {n : Nat} {sc : Scope} {r o r' o' : VL} {out : Out} {n₀ : Nat} {X₀ Wb : Addr → Prop} {sb : Shared} {env : Env} {s : Shared} {A : Around} {ad : Str → Addr}
theorem Stm.comp {y : Str} {py spos : Pos} {scope : Scope} {q : VL} {elt iter : Expr} {x : Str} {px : Pos} {ifs : List Expr} {pos : Pos} {di : D} {ds : List D} (pz : D → Bool) (f : D → D)
    (hi : EvS w n sc r iter di) (hit : Items di ds) (hc : Capt sc scope r q)
    (hall : (scope.names.all fun p => !(p.2 == .free) || q.any fun y => y.1 == p.1) = true)
    (hk : scope.kind = .function) (hx : scope.names.lookup x = some .local) (hxi : iniS ≠ x)
    (hloc : (scope.names.all fun p => !(p.2 == .local) || scope.names.lookup p.1 == some .local) = true)
    (hcell : (scope.names.all fun p => !(p.2 == .cell)) = true) (hfree : (scope.names.all fun p => !(p.2 == .free) || scope.names.lookup p.1 == some .free) = true)
    (hif : ∀ d ∈ ds, IfsS w n (relS scope sc) ((x, d) :: q) ifs (pz d)) (hel : ∀ d ∈ ds, pz d = true → EvS w n (relS scope sc) ((x, d) :: q) elt (f d))
    (hz : ds.length ≤ 2 ^ 20) (ky : StoreOk sc o y)
    (hsw : ∀ env : Env, env.scope = sc → swapsWith (.ListComp elt [⟨.Name x px, iter, ifs, 0⟩] scope pos) (some (.Name y py)) spos.line env = pure true)
    (hfold : ∀ env v, foldedSetIterable iter env v = pure v := by intro _ _; rfl) :
    Stm w n sc r o (.Assign [.Name y py] (.ListComp elt [⟨.Name x px, iter, ifs, 0⟩] scope pos) spos) (.next ((y, .list ((ds.filter pz).map f)) :: r) o) := fun A n₀ X₀ Wb sb env s hs R S => by
  obtain ⟨ad, S⟩ := S
  rw [exec_Assign_Name_used _ _ _ _ (hsw env hs)]
  refine wpAny_bind (wpAny_standAt (wpAny_bind ?_))
  show wpAny _ A (do let _ ← comprehension (.ListComp elt [⟨.Name x px, iter, ifs, 0⟩] scope pos) scope env _ (newList []) false (eval iter env) (some (PySem.assign (.Name y py) env))) _ _ s
  refine wpAny_bind (wpAny_mono (comp_core (X := OX X₀ o ad) pz f hi hit hc hall hk hx hxi hloc hcell hfree hif hel hz hfold hs R S.inv S.vars (some (PySem.assign (.Name y py) env)) (fun _ s' => St n₀ X₀ Wb sb env ((y, .list ((ds.filter pz).map f)) :: r) o s') _ fun C L s₃ g hL hn hb hall => ?_) (fun _ s' hq => wpAny_pure (wpAny_pure hq)) fun _ _ e => e)
  obtain ⟨m, nm, mi⟩ := hL
  have S₃ := S.step g.1 g.2.1
  obtain ⟨ml, nml, _⟩ := S.vars.ns
  have lowL : env.locals < L := by
    obtain ⟨o', es, ep, e, _⟩ := nml
    exact hn _ _ e fun t => by
      have : env.locals < 196 := by
        simp only [tabs, List.mem_cons, List.not_mem_nil, or_false] at t
        rcases t with t | t | t | t <;> rw [t] <;> decide
      exact absurd (Nat.le_trans S.n0 S.lowL) (Nat.not_le.mpr this)
  have hnL : n₀ ≤ L := Nat.le_trans S.lowL (Nat.le_of_lt lowL)
  have noL : s.heap.get? L = none := by
    cases h : s.heap.get? L with
    | none => rfl
    | some ob =>
      exact absurd (hn L ob h fun t => by
        have : L < 196 := by
          simp only [tabs, List.mem_cons, List.not_mem_nil, or_false] at t
          rcases t with t | t | t | t <;> rw [t] <;> decide
        exact absurd hb (Nat.not_le.mpr this)) (Nat.lt_irrefl _)
  have S₃' : StA n₀ X₀ (OW o ad) s env r o s₃ ad := S.rebase.step g.1 g.2.1
  show wpAny _ A (PySem.assign (.Name y py) env (.ref C)) _ _ _
  refine wpAny_assign_Name (wpAny_mono (S₃'.rebase.store g.2.2 hs ky.k ky.i ky.o) (fun _ s₄ S₄ => ?_) fun _ _ z => z)
  have nMu : ¬ Mu env (OW o ad) L := fun m => by
    rcases m with m | ⟨x, m1, m2⟩ | ⟨p, hp, e⟩
    · exact absurd m (Nat.ne_of_gt lowL)
    · obtain ⟨c, v, e, hc⟩ := S₃'.cells x m1
      rw [m2] at e; cases e
      exact ns_notCell nm hc
    · obtain ⟨ob, vs, k, e1, e2, _⟩ := (S₃'.own p hp).2.1.get
      obtain ⟨ob', es, ep, e3, e4, _⟩ := nm
      rw [e] at e1; rw [e1] at e3; cases e3; rw [e2] at e4; cases e4
  have nT : L ∉ tabs := fun t => by
    have : L < 196 := by
      simp only [tabs, List.mem_cons, List.not_mem_nil, or_false] at t
      rcases t with t | t | t | t <;> rw [t] <;> decide
    exact absurd hb (Nat.not_le.mpr this)
  have kL : ∀ ob, s₃.heap.get? L = some ob → s₄.heap.get? L = some ob := fun ob e => S₄.eff.keep L ob e nT nMu
  have nm₄ : s₄.heap.Ns L m := nm.at' kL
  refine ⟨m, nm₄, fun h' hs' => ⟨ad, S.back ?_⟩⟩
  obtain ⟨ob, es, ep, e, e2, e3⟩ := id nm₄
  exact (S₃'.back S₄).other (tk := s₄.toks) (fun b o' hb e => (hs'.2 b hb).trans e) e (ns_notSeq nm₄ mi ob e) (ns_notCod nm₄ ob e) (fun v => by rw [e2]; nofun) (Nat.ne_of_gt lowL) hnL noL
theorem StA.newOwn {x : Str} {vs : Array Value} {ds : List D} {tk : Nat} (S : StA n₀ X₀ Wb sb env r o s ad) (hs : env.scope = sc) (hd : RpL (OX X₀ o ad) s.heap ds vs.toList) (hk : sc.names.lookup x = some .local) (hxi : iniS ≠ x) (hxo : ∀ p ∈ o, p.1 ≠ x) (hr : r.lookup x = none) :
    wpAny (model PRG w) A (storeName env x (.ref s.heap.objs.size)) (fun _ s' => St n₀ X₀ Wb sb env r ((x, .list ds) :: o) s') (fun _ _ => False) { s with heap := s.heap.push (LObj vs 0), toks := tk } := by
  have k := kindOf_eq hs hk
  have E : Eff s { s with heap := s.heap.push (LObj vs 0), toks := tk } := Eff.push s _ tk
  have S₁ := (S.rebase).step E (S.inv.push _)
  obtain ⟨m, nm, mi, hm⟩ := S₁.vars.ns
  generalize hag : s.heap.objs.size = a at *
  have ha : (s.heap.push (LObj vs 0)).get? a = some (LObj vs 0) := by rw [← hag]; exact Heap.get?_push_size _ rfl
  have hn : s.heap.get? a = none := by rw [← hag]; exact Heap.get?_none_of_le (Nat.le_refl _)
  have haL : a ≠ env.locals := fun z => by
    obtain ⟨m', ⟨o', es, ep, e, _⟩, _⟩ := S.vars.ns
    rw [← z, hn] at e; cases e
  have hna : n₀ ≤ a := by
    obtain ⟨m', nm', _⟩ := S.vars.ns
    exact Nat.le_trans S.lowL (Nat.le_of_lt (hag ▸ nm'.lt))
  have haT : a ∉ tabs := fun t => by
    have : a < 196 := by
      simp only [tabs, List.mem_cons, List.not_mem_nil, or_false] at t
      rcases t with t | t | t | t <;> rw [t] <;> decide
    exact absurd (Nat.le_trans S.n0 hna) (Nat.not_le.mpr this)
  refine wpAny_storeName_local k nm (fun h' hn' hsb => ?_) (by rw [S.vars.kind]; rfl)
  have hl : 196 ≤ env.locals := Nat.le_trans S.n0 S.lowL
  have nS := ns_notSeq nm mi
  have sk : SK (OX X₀ o ad) (s.heap.push (LObj vs 0)) h' := fun b ob e c' _ => (hsb.2 b fun z => nS ob (z ▸ e) c').trans e
  have ha' : h'.get? a = some (LObj vs 0) := (hsb.2 a haL).trans ha
  let ad' : Str → Addr := fun y => if y = x then a else ad y
  have adx : ad' x = a := if_pos rfl
  have ado : ∀ p ∈ o, ad' p.1 = ad p.1 := fun p hp => if_neg (hxo p hp)
  have owx : ∀ b, OX X₀ ((x, .list ds) :: o) ad' b ↔ OX X₀ o ad b ∨ b = a := fun b => by
    constructor
    · rintro (y | ⟨p, hp, e⟩)
      · exact .inl (.inl y)
      · rcases List.mem_cons.mp hp with q | q
        · subst q; exact .inr (by rw [← e]; exact adx)
        · exact .inl (.inr ⟨p, q, by rw [← ado p q]; exact e⟩)
    · rintro ((y | ⟨p, hp, e⟩) | y)
      · exact .inl y
      · exact .inr ⟨p, .tail _ hp, by rw [ado p hp]; exact e⟩
      · exact .inr ⟨(x, .list ds), .head _, by rw [y]; exact adx⟩
  have hY : ∀ b, OX X₀ ((x, .list ds) :: o) ad' b → OX X₀ o ad b ∨ s.heap.get? b = none := fun b y => ((owx b).mp y).imp id fun z => by rw [z]; exact hn
  have sk0 : SK (OX X₀ o ad) s.heap h' := fun b ob e c hx => sk b ob (Heap.get?_push_of_some _ e) c hx
  have XB' : XB (OX X₀ ((x, .list ds) :: o) ad') h' := fun b y => by
    rcases (owx b).mp y with y | y
    · obtain ⟨t, ob, e⟩ := S₁.vars.bnd b y
      exact ⟨t, ob, (hsb.2 b fun z => S₁.nXL (z ▸ y)).trans e⟩
    · subst y; exact ⟨haT, _, ha'⟩
  have cne : ∀ c v, (s.heap.push (LObj vs 0)).IsCell c v → c ≠ env.locals := fun c v hc z => ns_notCell nm (z ▸ hc)
  refine ⟨ad', S.back (r' := r) ⟨E.toM.trans ⟨rfl, fun _ _ e => e, id, fun b ob e _ q => (hsb.2 b fun z => q (.inl z)).trans e⟩, fun p hp => ?_, S₁.inv.same hl hsb (ns_notCod nm), ⟨XB', S.vars.kind, S.vars.glo, S.vars.bui, ⟨_, hn', (if_neg hxi).trans mi, fun y d e q => ?_⟩, fun y d e q => ?_⟩, S.n0, S.xlow, S.lowL, S.lowC, fun y ky => ?_, S.apart, fun p hp => ?_, ?_⟩⟩
  · rcases List.mem_cons.mp hp with q | q
    · subst q; exact .inr (by rw [show ad' x = a from adx]; exact hn)
    · exact .inl ⟨p, q, (ado p q).symm⟩
  · have hy : y ≠ x := fun z => by rw [z, hr] at e; cases e
    obtain ⟨v, e1, e2⟩ := S.vars.ns.choose_spec.2.2 y d e q
    obtain ⟨v', e1', e2'⟩ := hm y d e q
    refine ⟨v', (if_neg hy).trans e1', ?_⟩
    have : v = v' := by
      have nm0 := S.vars.ns.choose_spec.1
      obtain ⟨ob, es, ep, q1, q2, q3, q4⟩ := nm0
      obtain ⟨ob', es', ep', q1', q2', q3', q4'⟩ := nm
      have : (s.heap.push (LObj vs 0)).get? env.locals = some ob := Heap.get?_push_of_some _ q1
      rw [this] at q1'; cases q1'; rw [q2] at q2'; cases q2'
      rw [← q4] at e1; rw [← q4'] at e1'; rw [e1] at e1'; cases e1'; rfl
    rw [← this]
    exact e2.mono hY sk0
  · obtain ⟨c, v, e1, ⟨ob, e2, e4⟩, e3⟩ := S.vars.cel y d e q
    have e2' : (s.heap.push (LObj vs 0)).get? c = some ob := Heap.get?_push_of_some _ e2
    exact ⟨c, v, e1, ⟨ob, (hsb.2 c (cne c _ ⟨ob, e2', e4⟩)).trans e2', e4⟩, e3.mono hY sk0⟩
  · obtain ⟨c, v, e, ⟨ob, e2, e4⟩⟩ := S₁.cells y ky
    exact ⟨c, v, e, ⟨ob, (hsb.2 c (cne c _ ⟨ob, e2, e4⟩)).trans e2, e4⟩⟩
  · rcases List.mem_cons.mp hp with q | q
    · subst q
      refine ⟨by rw [show ad' x = a from adx]; exact hna, ?_, .inl ⟨k, _, hn', ?_⟩⟩
      · rw [show ad' x = a from adx]
        exact ⟨vs, 0, ha', hd.mono hY sk0⟩
      · rw [show ad' x = a from adx]; exact if_pos rfl
    · obtain ⟨h1, h2, h3⟩ := S.own p q
      refine ⟨by rw [ado p q]; exact h1, by rw [ado p q]; exact h2.keep (fun ob e => (hsb.2 _ (S.nsOwn q)).trans (Heap.get?_push_of_some _ e)) hY sk0, ?_⟩
      rw [ado p q]
      rcases h3 with ⟨h3, m', h4, h5⟩ | ⟨h3, c, h4, ob, h5, h6⟩
      · refine .inl ⟨h3, _, hn', (if_neg (hxo p q)).trans ?_⟩
        obtain ⟨ob, es, ep, q1, q2, q3, q4⟩ := h4
        obtain ⟨ob', es', ep', q1', q2', q3', q4'⟩ := nm
        have : (s.heap.push (LObj vs 0)).get? env.locals = some ob := Heap.get?_push_of_some _ q1
        rw [this] at q1'; cases q1'; rw [q2] at q2'; cases q2'
        rw [← q4', q4]; exact h5
      · have e2 : (s.heap.push (LObj vs 0)).get? c = some ob := Heap.get?_push_of_some _ h5
        exact .inr ⟨h3, c, h4, ob, (hsb.2 c (cne c _ ⟨ob, e2, h6⟩)).trans e2, h6⟩
  · refine List.pairwise_cons.mpr ⟨fun p hp => ⟨Ne.symm (hxo p hp), ?_⟩, ?_⟩
    · rw [show ad' x = a from adx, ado p hp]
      intro z
      obtain ⟨ob, vs, k, e1, _⟩ := (S.own p hp).2.1.get
      rw [← z, hn] at e1; cases e1
    · refine List.Pairwise.imp_of_mem (fun {p q} hp hq h => ?_) S.dist
      rw [ado p hp, ado q hq]; exact h
theorem Stm.newList {x : Str} {p lp pos : Pos} {es : List Expr} {ds : List D} (h : EvL w n sc (o ++ r) es ds) (hf : ∀ d ∈ ds, Flat d) (hz : ds.length ≤ sizeLine) (hk : sc.names.lookup x = some .local) (hxi : iniS ≠ x) (hxo : ∀ p ∈ o, p.1 ≠ x) (hr : r.lookup x = none) :
    Stm w n sc r o (.Assign [.Name x p] (.List es lp) pos) (.next r ((x, .list ds) :: o)) := fun A n₀ X₀ Wb sb env s hs R S => by
  obtain ⟨ad, S⟩ := S
  refine wpAny_Assign_Name ?_
  refine wpAny_List_spliced (wpAny_mono (h A s env X₀ lp hs R S.inv S.frz).1 (fun vs s₁ p => ⟨by rw [p.2.2.length]; exact hz, ?_⟩) fun _ _ x => x)
  have S₁ := S.step p.1 p.2.1
  have hfl : ∀ {ds : List D} {vs : List Value}, RpL X₀ s₁.heap ds vs → (∀ d ∈ ds, Flat d) → RpL (OX X₀ o ad) s₁.heap ds vs := fun {ds} => by
    induction ds with
    | nil => intro vs h _; have := h.nil_inv; subst this; exact RpL.nil
    | cons d ds ih =>
      intro vs h hf
      obtain ⟨v, r, rfl, a, b⟩ := h.cons_inv
      exact RpL.cons ((hf d (.head _)).rp a) (ih b fun y hy => hf y (.tail _ hy))
  exact wpAny_mono (S₁.newOwn (tk := s₁.toks) hs (vs := vs.toArray) (by simpa using hfl p.2.2 hf) hk hxi hxo hr) (fun _ _ z => z) fun _ _ z => z
end
end Mine
end
section
-- C3
open PySem PySem.W PyProof.Rows
namespace Mine
variable {w : World}
noncomputable def setO (x : Str) (d : D) (o : VL) : VL := o.map fun p => if p.1 = x then (x, d) else p
section
variable {n : Nat} {sc : Scope} {r o r' o' : VL} {out : Out} {n₀ : Nat} {X₀ Wb : Addr → Prop} {sb : Shared} {env : Env} {s : Shared} {A : Around} {ad : Str → Addr}
theorem setO_names {x : Str} {d : D} : ∀ {o : VL}, (setO x d o).map (·.1) = o.map (·.1)
  | [] => rfl
  | p :: o => by
    have ih := setO_names (x := x) (d := d) (o := o)
    unfold setO at ih ⊢
    rw [List.map_cons, List.map_cons, List.map_cons, ih]
    congr 1
    split
    · rename_i h; exact h.symm
    · rfl
theorem OW_names {o o' : VL} (h : o'.map (·.1) = o.map (·.1)) (a : Addr) : OW o' ad a ↔ OW o ad a := by
  have : ∀ (o : VL), OW o ad a ↔ ∃ x ∈ o.map (·.1), ad x = a := fun o => by
    constructor
    · rintro ⟨p, hp, e⟩; exact ⟨p.1, List.mem_map.mpr ⟨p, hp, rfl⟩, e⟩
    · rintro ⟨x, hx, e⟩; obtain ⟨p, hp, rfl⟩ := List.mem_map.mp hx; exact ⟨p, hp, e⟩
  rw [this, this, h]
theorem OX_setO {x : Str} {d : D} : OX X₀ (setO x d o) ad = OX X₀ o ad := by
  funext a
  exact propext (or_congr Iff.rfl (OW_names setO_names a))
theorem StA.change {x : Str} {d d' : D} {h' : Heap} {tk : Nat} (S : StA n₀ X₀ Wb sb env r o s ad) (hx : (x, d) ∈ o) (k : ∀ b ob, b ≠ ad x → s.heap.get? b = some ob → h'.get? b = some ob) (hd : OwnC (OX X₀ o ad) h' (ad x) d') :
    StA n₀ X₀ Wb sb env r (setO x d' o) { s with heap := h', toks := tk } ad := by
  have hn := (S.own _ hx).1
  have h196 : 196 ≤ ad x := Nat.le_trans S.n0 hn
  have xX : OX X₀ o ad (ad x) := .inr ⟨_, hx, rfl⟩
  have sk : SK (OX X₀ o ad) s.heap h' := fun b ob e c hb => k b ob (fun z => hb (z ▸ xX)) e
  have hT : ad x ∉ tabs := fun t => by
    have : ad x < 196 := by
      simp only [tabs, List.mem_cons, List.not_mem_nil, or_false] at t
      rcases t with t | t | t | t <;> rw [t] <;> decide
    exact absurd h196 (Nat.not_le.mpr this)
  have hL : env.locals ≠ ad x := Ne.symm (S.nsOwn hx)
  have XB' : XB (OX X₀ (setO x d' o) ad) h' := fun b y => by
    rw [OX_setO] at y
    by_cases hb : b = ad x
    · subst hb
      obtain ⟨ob, vs, kk, e, _⟩ := hd.get
      exact ⟨hT, ob, e⟩
    · obtain ⟨t, ob, e⟩ := S.vars.bnd b y
      exact ⟨t, ob, k b ob hb e⟩
  have mem : ∀ p ∈ setO x d' o, ∃ q ∈ o, q.1 = p.1 ∧ (p.1 ≠ x → p = q) ∧ (p.1 = x → p.2 = d') := fun p hp => by
    unfold setO at hp
    obtain ⟨q, hq, e⟩ := List.mem_map.mp hp
    by_cases h : q.1 = x
    · rw [if_pos h] at e; subst e; exact ⟨q, hq, h, fun z => absurd rfl z, fun _ => rfl⟩
    · rw [if_neg h] at e; subst e; exact ⟨q, hq, rfl, fun _ => rfl, fun z => absurd z h⟩
  refine ⟨?_, fun p hp => ?_, ?_, ?_, S.n0, S.xlow, S.lowL, S.lowC, fun y ky => ?_, S.apart, fun p hp => ?_, ?_⟩
  · refine ⟨S.eff.os, S.eff.gens, S.eff.bare, fun a ob e t m => k a ob (fun z => ?_) (S.eff.keep a ob e t m)⟩
    rcases S.ownB _ hx with y | y
    · exact m (.inr (.inr (z ▸ y)))
    · rw [← z, e] at y; cases y
  · obtain ⟨q, hq, e, _⟩ := mem p hp
    rw [← e]; exact S.ownB q hq
  · obtain ⟨ob0, vs0, k0, e0, d0, _⟩ := (S.own _ hx).2.1.get
    exact S.inv.low (fun b ob hb e => k b ob (fun z => by rw [z] at hb; exact absurd h196 (Nat.not_le.mpr hb)) e) fun b ob cc e => k b ob (fun z => seq_notCod e0 d0 ob (by rw [← z]; exact e) cc) e
  · have V := S.vars.step (h' := h') (X := OX X₀ o ad) (by rw [OX_setO] at XB'; exact XB') (fun ob e => k _ _ hL e) (fun c v hc ob e => k c ob (fun z => by subst z; exact S.cellOwn hx hc rfl) e) sk
    rw [OX_setO]; exact V
  · obtain ⟨c, v, e, ⟨ob, e2, e4⟩⟩ := S.cells y ky
    exact ⟨c, v, e, ⟨ob, k c ob (fun z => S.cellOwn hx ⟨ob, e2, e4⟩ z.symm) e2, e4⟩⟩
  · obtain ⟨q, hq, e, h1, h2⟩ := mem p hp
    obtain ⟨g1, g2, g3⟩ := S.own q hq
    rw [OX_setO]
    refine ⟨e ▸ g1, ?_, e ▸ g3.keep (fun ob e => k _ _ hL e) fun c v hc ob e => k c ob (fun z => S.cellOwn hx hc z.symm) e⟩
    by_cases hpx : p.1 = x
    · rw [hpx, h2 hpx]; exact hd
    · rw [h1 hpx]
      refine g2.keep (fun ob e' => k _ _ (fun z => ?_) e') (fun _ y => .inl y) sk
      -- two names, two addresses
      have hqx : q.1 ≠ x := e ▸ hpx
      have key : ∀ {l : VL}, (l.Pairwise fun p q => p.1 ≠ q.1 ∧ ad p.1 ≠ ad q.1) → q ∈ l → (x, d) ∈ l → ad q.1 ≠ ad x := fun {l} hl => by
        induction l with
        | nil => intro h; cases h
        | cons a l ih =>
          obtain ⟨l1, l2⟩ := List.pairwise_cons.mp hl
          intro h h'
          rcases List.mem_cons.mp h with h | h <;> rcases List.mem_cons.mp h' with h' | h'
          · rw [← h'] at h; exact absurd (by rw [h]) hqx
          · rw [h]; exact (l1 _ h').2
          · have := (l1 _ h).2; rw [← h'] at this; exact fun z => this z.symm
          · exact ih l2 h h'
      exact key S.dist hq hx z
  · have hp : ∀ (l : VL), (l.Pairwise fun p q => p.1 ≠ q.1 ∧ ad p.1 ≠ ad q.1) ↔ ((l.map (·.1)).Pairwise fun x y => x ≠ y ∧ ad x ≠ ad y) := fun l => by rw [List.pairwise_map]
    rw [hp, setO_names, ← hp]; exact S.dist
theorem StA.ownVal (S : StA n₀ X₀ Wb sb env r o s ad) {x : Str} {d : D} {pos : Pos} {Q : Value → Shared → Prop} {E : Value → Shared → Prop} (hx : (x, d) ∈ o) (hd : (x == ("__debug__" : Str)) = false) (h : Q (.ref (ad x)) s) : wpAny (model PRG w) A (eval (.Name x pos) env) Q E s := by
  obtain ⟨g1, g2, g3⟩ := S.own _ hx
  rcases g3 with ⟨g3, m, g4, g5⟩ | ⟨g3, c, g4, g5⟩
  · exact wpAny_Name (wpAny_loadName_local S.vars.kind g3 g4 g5 h) hd
  · exact wpAny_Name (wpAny_loadName_cell S.vars.kind g3 g4 g5 h) hd
theorem EvO.evF {e : Expr} {d : D} (h : EvO w n sc r o e d) (hs : env.scope = sc) (R : Rm n A) (S : StA n₀ X₀ Wb sb env r o s ad) :
    wpAny (model PRG w) A (eval e env) (fun v s' => StA n₀ X₀ Wb sb env r o s' ad ∧ Eff s s' ∧ Rp (OX X₀ o ad) s'.heap d v) (fun _ _ => False) s := h.ev hs R S
theorem Stm.append {x : Str} {p apos pos spos : Pos} {e : Expr} {ds : List D} {d : D} (h : EvO w n sc r o e d) (hx : (x, .list ds) ∈ o) (hd : (x == ("__debug__" : Str)) = false) (hl : ds.length ≤ sizeLine)
    (hline : (apos.endLine == pos.line) = true := by rfl) (hst : ∀ env, starEach [e] env = [(false, eval e env)] := by intro _; rfl) (hbase : ∀ env, attributeBase (.Name x p) "append" env (eval (.Name x p) env) = eval (.Name x p) env := by intro _; rfl) :
    Stm w n sc r o (.Expr (.Call (.Attribute (.Name x p) "append" apos) [e] [] pos) spos) (.next r (setO x (.list (ds ++ [d])) o)) := fun A n₀ X₀ Wb sb env s hs R S => by
  obtain ⟨ad, S⟩ := S
  have hi : interactive env = false := by
    unfold interactive; rw [S.vars.kind]; rfl
  refine wpAny_Expr ?_ hi
  refine wpAny_Call_append (hbase env) (by rw [hst env]; rfl) hline (by rw [hst env]; rfl) (S.ownVal hx hd ?_)
  obtain ⟨g1, g2, g3⟩ := S.own _ hx
  obtain ⟨vs, k, ha, hr⟩ := g2
  refine ⟨ad x, vs, rfl, ⟨_, k, ha, rfl, rfl, rfl⟩, wpAny_mono (h.evF hs R S) (fun y s₁ q => ?_) fun _ _ z => z⟩
  obtain ⟨S₁, E₁, hy⟩ := q
  obtain ⟨_, ⟨vs₁, k₁, ha₁, hr₁⟩, _⟩ := S₁.own _ hx
  have e1 := hr₁.length
  simp only [Array.length_toList] at e1
  refine wpAny_list_append_plain (items := vs₁) ⟨k₁, ha₁⟩ (fun h₅ hl₅ hs₅ => ?_) (by rw [e1]; exact hl)
  obtain ⟨k5, hl₅⟩ := hl₅
  refine ⟨ad, S₁.change (tk := s₁.toks) hx (fun b ob hb e => (hs₅.2 b hb).trans e) ⟨vs₁.push y, k5, hl₅, ?_⟩⟩
  have sk : SK (OX X₀ o ad) s₁.heap h₅ := fun b ob e c hb => (hs₅.2 b fun z => hb (z ▸ .inr ⟨_, hx, rfl⟩)).trans e
  simpa using (hr₁.keep sk).append (RpL.cons (hy.keep sk) RpL.nil)
end
end Mine
end
section
-- C4
open PySem PySem.W PyProof.Rows
namespace Mine
variable {w : World}
theorem cellsFrom_acc {x : Str} : ∀ (names : List (Str × NameKind)) (k : Nat) (acc : List (Str × Addr)), (acc.lookup x).isSome = true → ((cellsFrom k names acc).lookup x).isSome = true
  | [], _, _, h => h
  | (y, kd) :: r, k, acc, h => by
    unfold cellsFrom
    split
    · refine cellsFrom_acc r _ _ ?_
      rw [List.lookup_cons]
      cases (x == y) with
      | true => rfl
      | false => exact h
    · exact cellsFrom_acc r _ _ h
theorem cellsFrom_has {x : Str} : ∀ (names : List (Str × NameKind)) (k : Nat) (acc : List (Str × Addr)), names.lookup x = some .cell → ((cellsFrom k names acc).lookup x).isSome = true
  | [], _, _, h => by cases h
  | (y, kd) :: r, k, acc, h => by
    rw [List.lookup_cons] at h
    unfold cellsFrom
    cases hxy : (x == y) with
    | true =>
      rw [hxy] at h
      cases h
      rw [if_pos (by decide)]
      refine cellsFrom_acc r _ _ ?_
      rw [List.lookup_cons, hxy]; rfl
    | false =>
      rw [hxy] at h
      split
      · exact cellsFrom_has r _ _ h
      · exact cellsFrom_has r _ _ h
theorem bindL_other {kf : Str → Option NameKind} {y : Str} : ∀ (bs : List (Str × Value)) (m : Str → Option Value), (∀ p ∈ bs, p.1 ≠ y) → bindL kf bs m y = m y
  | [], _, _ => rfl
  | (x, v) :: bs, m, h => by
    unfold bindL
    rw [bindL_other bs _ fun p hp => h p (.tail _ hp)]
    split
    · exact if_neg fun z => h (x, v) (.head _) z.symm
    · rfl
theorem bindC_other {kf : Str → Option NameKind} {y : Str} : ∀ (bs : List (Str × Value)) (m : Str → Option Value), (∀ p ∈ bs, p.1 ≠ y) → bindC kf bs m y = m y
  | [], _, _ => rfl
  | (x, v) :: bs, m, h => by
    unfold bindC
    rw [bindC_other bs _ fun p hp => h p (.tail _ hp)]
    split
    · rfl
    · exact if_neg fun z => h (x, v) (.head _) z.symm
theorem bindL_get {kf : Str → Option NameKind} {y : Str} {v : Value} (hk : kf y = some .local) : ∀ (bs : List (Str × Value)) (m : Str → Option Value), (bs.map (·.1)).Nodup → (y, v) ∈ bs → bindL kf bs m y = some v
  | (x, u) :: bs, m, hn, h => by
    rw [List.map_cons, List.nodup_cons] at hn
    unfold bindL
    rcases List.mem_cons.mp h with e | h
    · cases e
      rw [bindL_other bs _ fun p hp z => hn.1 (List.mem_map.mpr ⟨p, hp, z⟩), if_pos hk]
      exact if_pos rfl
    · exact bindL_get hk bs _ hn.2 h
theorem bindC_get {kf : Str → Option NameKind} {y : Str} {v : Value} (hk : kf y = some .cell) : ∀ (bs : List (Str × Value)) (m : Str → Option Value), (bs.map (·.1)).Nodup → (y, v) ∈ bs → bindC kf bs m y = some v
  | (x, u) :: bs, m, hn, h => by
    rw [List.map_cons, List.nodup_cons] at hn
    unfold bindC
    rcases List.mem_cons.mp h with e | h
    · cases e
      rw [bindC_other bs _ fun p hp z => hn.1 (List.mem_map.mpr ⟨p, hp, z⟩), if_neg (by show ¬ kf y = some NameKind.local; rw [hk]; nofun)]
      exact if_pos rfl
    · exact bindC_get hk bs _ hn.2 h
theorem zip_get {X : Addr → Prop} {h : Heap} : ∀ {xs : List Str} {ds : List D} {vs : List Value}, RpL X h ds vs → ds.length = xs.length → ∀ {y : Str} {d : D}, (xs.zip ds).lookup y = some d → ∃ v, (y, v) ∈ xs.zip vs ∧ Rp X h d v
  | [], ds, vs, _, _, y, d, e => by cases e
  | x :: xs, [], vs, _, hl, y, d, e => by cases hl
  | x :: xs, d' :: ds, vs, r, hl, y, d, e => by
    obtain ⟨v, vs', rfl, a, b⟩ := r.cons_inv
    rw [List.zip_cons_cons, List.lookup_cons] at e
    cases hy : (y == x) with
    | true =>
      rw [hy] at e; cases e
      have : y = x := by simpa using hy
      subst this
      exact ⟨v, by rw [List.zip_cons_cons]; exact .head _, a⟩
    | false =>
      rw [hy] at e
      obtain ⟨v', h1, h2⟩ := zip_get b (by simpa using hl) e
      exact ⟨v', by rw [List.zip_cons_cons]; exact .tail _ h1, h2⟩
theorem zip_names {α : Type} : ∀ {xs : List Str} {vs : List α}, vs.length = xs.length → (xs.zip vs).map (·.1) = xs
  | [], _, _ => rfl
  | x :: xs, [], h => by cases h
  | x :: xs, v :: vs, h => by rw [List.zip_cons_cons, List.map_cons, zip_names (by simpa using h)]
noncomputable def OutV : Out → D → Prop
  | .ret d', d => d' = d
  | .next _ _, d => d = .none
structure FnOk (fd : FuncData) (body : List Stmt) (xs : List Str) : Prop where
  hb : fd.body = .stmts body
  gl : fd.globals = mainGlobals
  bu : fd.builtins = builtinsNs
  bind : ∀ vs : List Value, vs.length = xs.length → bindArgs fd ⟨vs, []⟩ = pure (xs.zip vs)
  nd : xs.Nodup
  ini : iniS ∉ xs
  k : ∀ x ∈ xs, fd.scope.names.lookup x = some .local ∨ fd.scope.names.lookup x = some .cell
  co : fd.scope.isCoroutine = false
  gen : fd.scope.isGenerator = false
  kind : fd.scope.kind = .function
noncomputable def fval : Flow → Value
  | .ret v => v
  | _ => .none
theorem Out.none_end {d : D} {out : Out} {n₀ : Nat} {X₀ Wb : Addr → Prop} {sb : Shared} {env : Env} {f : Flow} {s' : Shared} (ho : OutV out d) (p : Pst n₀ X₀ Wb sb env out f s') : EffM (Mu env Wb) sb s' ∧ Inv s'.heap ∧ Rp X₀ s'.heap d (fval f) := by
  cases out with
  | ret d' =>
    cases (show d' = d from ho)
    cases f with
    | ret v => exact p
    | next => exact p.elim
    | brk => exact p.elim
    | cont => exact p.elim
  | next r o =>
    cases (show d = .none from ho)
    cases f with
    | next => obtain ⟨ad, S⟩ := p; exact ⟨S.eff, S.inv, rfl⟩
    | ret v => exact p.elim
    | brk => exact p.elim
    | cont => exact p.elim
theorem call_core {n : Nat} {fa : Addr} {ob : Obj} {fd : FuncData} {body : List Stmt} {xs : List Str} {ds : List D} {A : Around} {s : Shared} {X : Addr → Prop} {vs : List Value} {Q : Value → Shared → Prop} (a : s.heap.get? fa = some ob) (c : ob.data = .func fd) (hcr : s.heap.CodeRec fd.code fd.qualname)
    (F : FnOk fd body xs) (hcl : fd.closure = []) (hl : ds.length = xs.length) (R : Rm (n + 1) A) (I : Inv s.heap) (B : XB X s.heap) (hd : RpL X s.heap ds vs)
    (hk : ∀ (env : Env) (s₁ : Shared), env.scope = fd.scope → env.code = fd.code → env.locals = s.heap.objs.size → env.qual = fd.qualname ++ ".<locals>." → (∀ a, Mu env (fun _ => False) a → s.heap.objs.size ≤ a) → Rm n (A.deeper env) → StA s.heap.objs.size X (fun _ => False) s env (xs.zip ds) [] s₁ (fun _ => 0) →
      wpAny (model PRG w) (A.deeper env) (execs body env) (fun f s' => Q (fval f) s') (fun _ _ => False) s₁) :
    wpAny (model PRG w) A (call (.ref fa) vs) Q (fun _ _ => False) s := by
  have hvl : vs.length = xs.length := by rw [hd.length, hl]
  refine wpAny_call ?_
  refine codeAny_call_cells (fd := fd) (body := body) (binds := xs.zip vs) (by have := R.depth; omega) a c I.nolimit hcr F.hb (F.bind vs hvl) hcl (fun x hx => ?_) (fun s₁ x => ?_) F.co F.gen F.kind
  · have hx' : x.1 ∈ xs := by rw [← zip_names hvl]; exact List.mem_map.mpr ⟨x, hx, rfl⟩
    rcases F.k _ hx' with k | k
    · exact .inl k
    · exact .inr ⟨k, cellsFrom_has _ _ _ k⟩
  · generalize hE : callEnvC fd s.heap.objs.size fa = env at *
    have hsc : env.scope = fd.scope := by rw [← hE]; rfl
    have hL : env.locals = s.heap.objs.size := by rw [← hE]; rfl
    have hC : env.cells = cellsFrom (s.heap.objs.size + 1) fd.scope.names [] := by rw [← hE]; rfl
    obtain ⟨h', tk, rfl⟩ := x.toInCall.same
    have keep := x.toInCall.keep
    have E : EffM (Mu env fun _ => False) s { s with heap := h', toks := tk } := ⟨rfl, fun _ _ e => e, id, fun a o e _ _ => keep a o e⟩
    have sk : SK X s.heap h' := fun b o e _ _ => keep b o e
    have I' : Inv h' := I.keeps keep
    have oxe : ∀ ad a, OX X [] ad a → X a := fun ad a y => y.elim id fun ⟨p, hp, _⟩ => nomatch hp
    have B' : XB X h' := B.keeps fun a _ o e => keep a o e
    have hz := zip_names hvl
    have S : StA s.heap.objs.size X (fun _ => False) s env (xs.zip ds) [] { s with heap := h', toks := tk } (fun _ => 0) := by
      refine ⟨E, (fun p hp => nomatch hp), I', ⟨fun a y => B' a (oxe _ a y), by rw [hsc]; exact F.kind, by rw [← hE]; exact F.gl, by rw [← hE]; exact F.bu, ⟨_, x.toInCall.ns, ?_, fun y d e k => ?_⟩, fun y d e k => ?_⟩, I.big, fun a y => ?_, ?_, fun y c k e => ?_, fun y k => ?_, fun y z c e e' => ?_, (fun p hp => nomatch hp), List.Pairwise.nil⟩
      · refine bindL_other _ _ fun q hq z => F.ini ?_
        rw [← z, ← hz]; exact List.mem_map.mpr ⟨q, hq, rfl⟩
      · obtain ⟨v, h1, h2⟩ := zip_get hd hl e
        exact ⟨v, bindL_get k _ _ (by rw [hz]; exact F.nd) h1, h2.mono (fun a y => .inl (oxe _ a y)) sk⟩
      · obtain ⟨v, h1, h2⟩ := zip_get hd hl e
        have hy : y ∈ xs := by rw [← hz]; exact List.mem_map.mpr ⟨_, h1, rfl⟩
        rcases k with k | k
        · have : (env.cells.lookup y).isSome = true := by
            rw [hC]; exact cellsFrom_has _ _ _ (by rw [← hsc]; exact k)
          obtain ⟨c, hc⟩ := Option.isSome_iff_exists.mp this
          have := x.cell y c hc
          rw [bindC_get k _ _ (by rw [hz]; exact F.nd) h1] at this
          exact ⟨c, v, hc, this, h2.mono (fun a y => .inl (oxe _ a y)) sk⟩
        · exfalso
          have : fd.scope.names.lookup y = some .free := by rw [← hsc]; exact k
          rcases F.k y hy with q | q <;> rw [this] at q <;> cases q
      · obtain ⟨_, o, e⟩ := B a y; exact Heap.lt_size e
      · rw [hL]; exact Nat.le_refl _
      · have := x.above y c (PySem.mem_of_lookup e)
        rw [hL] at this; exact Nat.le_of_lt this
      · have : (env.cells.lookup y).isSome = true := by
          rw [hC]; exact cellsFrom_has _ _ _ (by rw [← hsc]; exact k)
        obtain ⟨c, hc⟩ := Option.isSome_iff_exists.mp this
        exact ⟨c, _, hc, x.cell y c hc⟩
      · exact name_of_addr x.apart (PySem.mem_of_lookup e) (PySem.mem_of_lookup e')
    refine wpAny_mono (hk env _ hsc (by rw [← hE]; rfl) hL (by rw [← hE]; rfl) (fun a m => ?_) R.deeper S) (fun f s' q => ?_) fun _ _ z => z.elim
    · rcases m with m | ⟨y, m1, m2⟩ | m
      · rw [m, hL]; exact Nat.le_refl _
      · have h1 := x.above y a (PySem.mem_of_lookup m2)
        rw [hL] at h1; exact Nat.le_of_lt h1
      · exact m.elim
    · cases f <;> exact q
theorem CallS.fn {n : Nat} {p : Addr × FuncData × Addr} (hp : p ∈ fnTab) {body : List Stmt} {xs : List Str} (F : FnOk p.2.1 body xs) (hcl : p.2.1.closure = []) {ds : List D} {d : D} {out : Out} (hl : ds.length = xs.length)
    (hblk : Blk w n p.2.1.scope (xs.zip ds) [] body out) (ho : OutV out d) : CallS w (n + 1) (.ref p.1) ds d := fun A s X vs R I B hd => by
  obtain ⟨ob, oc, cvs, t, a, b, c, e, f, g, h⟩ := I.fns p hp
  refine call_core a c ⟨_, oc, cvs, t, e, f, g, h⟩ F hcl hl R I B hd fun env s₁ hsc hco hL hq hMu R' S => ?_
  refine wpAny_mono (hblk (A.deeper env) _ X _ s env _ hsc R' ⟨_, S⟩) (fun f s' q => ?_) fun _ _ z => z.elim
  obtain ⟨q1, q2, q3⟩ := Out.none_end ho q
  exact ⟨q1.toEff hMu, q2, q3⟩
end Mine
end
section
-- D0
open PySem PySem.W PyProof.Rows PySem.SeqAt
namespace Mine
variable {w : World}
mutual
noncomputable def pd : D → PyData
  | .none => .none
  | .bool b => .bool b
  | .int i => .int i
  | .str s => .str s
  | .list ds => .list (pds ds)
  | .tup ds => .tuple (pds ds)
  | .rng .. => .none
  | .raw _ => .none
  | .acc .. => .none
noncomputable def pds : List D → List PyData
  | [] => []
  | d :: ds => pd d :: pds ds
end
mutual
noncomputable def isD : Nat → D → Bool
  | _, .none => true
  | _, .bool _ => true
  | _, .int _ => true
  | _, .str s => PyData.strOk s
  | k + 1, .list ds => isDs k ds
  | k + 1, .tup ds => isDs k ds
  | 0, .list _ => false
  | 0, .tup _ => false
  | _, .rng .. => false
  | _, .raw _ => false
  | _, .acc .. => false
noncomputable def isDs : Nat → List D → Bool
  | _, [] => true
  | k, d :: ds => isD k d && isDs k ds
end
mutual
theorem pd_lay : ∀ {k : Nat} {d : D}, isD k d = true → (pd d).canLay0 = true ∧ (pd d).depth ≤ k
  | _, .none, _ => by simp [pd, PyData.canLay0, PyData.depth]
  | _, .bool _, _ => by simp [pd, PyData.canLay0, PyData.depth]
  | _, .int _, _ => by simp [pd, PyData.canLay0, PyData.depth]
  | _, .str s, h => by simp only [isD] at h; simp [pd, PyData.canLay0, PyData.depth, h]
  | 0, .list _, h => absurd h Bool.false_ne_true
  | 0, .tup _, h => absurd h Bool.false_ne_true
  | k + 1, .list ds, h => by
    simp only [isD] at h
    obtain ⟨a, b⟩ := pds_lay h
    exact ⟨by simp only [pd, PyData.canLay0]; exact a, by simp only [pd, PyData.depth]; omega⟩
  | k + 1, .tup ds, h => by
    simp only [isD] at h
    obtain ⟨a, b⟩ := pds_lay h
    exact ⟨by simp only [pd, PyData.canLay0]; exact a, by simp only [pd, PyData.depth]; omega⟩
  | _, .rng .., h => absurd h Bool.false_ne_true
  | _, .raw _, h => absurd h Bool.false_ne_true
  | _, .acc .., h => absurd h Bool.false_ne_true
theorem pds_lay : ∀ {k : Nat} {ds : List D}, isDs k ds = true → PyData.canLayAll0 (pds ds) = true ∧ PyData.depthAll (pds ds) ≤ k
  | _, [], _ => by simp [pds, PyData.canLayAll0, PyData.depthAll]
  | k, d :: ds, h => by
    simp only [isDs, Bool.and_eq_true] at h
    obtain ⟨a, b⟩ := pd_lay h.1
    obtain ⟨a', b'⟩ := pds_lay h.2
    refine ⟨by simp [pds, PyData.canLayAll0, a, a'], ?_⟩
    simp only [pds, PyData.depthAll]; omega
end
mutual
theorem Rp.reads {X : Addr → Prop} {h : Heap} : ∀ {k : Nat} {d : D} {v : Value}, isD k d = true → Rp X h d v → ∃ as, Reads h v (pd d) as
  | _, .none, _, _, x => by cases (show _ = Value.none from x); exact ⟨_, .none⟩
  | _, .bool b, _, _, x => by cases (show _ = Value.bool b from x); exact ⟨_, .bool b⟩
  | _, .int i, _, _, x => by obtain ⟨t, rfl⟩ := x; exact ⟨_, .int i t⟩
  | _, .str s, _, _, x => by obtain ⟨t, rfl⟩ := x; exact ⟨_, .str s t⟩
  | 0, .list _, _, h, _ => absurd h Bool.false_ne_true
  | 0, .tup _, _, h, _ => absurd h Bool.false_ne_true
  | k + 1, .list ds, _, h, x => by
    simp only [isD] at h
    unfold Rp at x
    obtain ⟨a, vs, n, rfl, _, e, r⟩ := x
    obtain ⟨as, q⟩ := RpL.reads h r
    exact ⟨_, Reads.list e rfl rfl q⟩
  | k + 1, .tup ds, _, h, x => by
    simp only [isD] at h
    unfold Rp at x
    obtain ⟨a, vs, n, rfl, _, e, r⟩ := x
    obtain ⟨as, q⟩ := RpL.reads h r
    exact ⟨_, Reads.tuple e rfl rfl q⟩
  | _, .rng .., _, h, _ => absurd h Bool.false_ne_true
  | _, .raw _, _, h, _ => absurd h Bool.false_ne_true
  | _, .acc .., _, h, _ => absurd h Bool.false_ne_true
theorem RpL.reads {X : Addr → Prop} {h : Heap} : ∀ {k : Nat} {ds : List D} {vs : List Value}, isDs k ds = true → RpL X h ds vs → ∃ as, ReadsAll h vs (pds ds) as
  | _, [], _, _, x => by have := x.nil_inv; subst this; exact ⟨_, .nil⟩
  | k, d :: ds, _, h, x => by
    simp only [isDs, Bool.and_eq_true] at h
    obtain ⟨v, r, rfl, a, b⟩ := x.cons_inv
    obtain ⟨as, q⟩ := Rp.reads h.1 a
    obtain ⟨bs, q'⟩ := RpL.reads h.2 b
    exact ⟨_, .cons q q'⟩
end
theorem pd_shaped {d : D} (h : isD 60 d = true) : shaped (pd d) = true := by
  obtain ⟨a, b⟩ := pd_lay h
  unfold PySem.SeqAt.shaped; rw [a, decide_eq_true (show (pd d).depth ≤ 64 by omega)]; rfl
mutual
theorem eqv_refl : ∀ {k : Nat} {d : D}, isD k d = true → PyData.eqv (pd d) (pd d) = true
  | _, .none, _ => by simp [pd, PyData.eqv]
  | _, .bool _, _ => by simp [pd, PyData.eqv]
  | _, .int _, _ => by simp [pd, PyData.eqv]
  | _, .str s, h => by simp [pd, PyData.eqv]
  | 0, .list _, h => absurd h Bool.false_ne_true
  | 0, .tup _, h => absurd h Bool.false_ne_true
  | k + 1, .list ds, h => by simp only [isD] at h; simp only [pd, PyData.eqv]; exact eqvs_refl h
  | k + 1, .tup ds, h => by simp only [isD] at h; simp only [pd, PyData.eqv]; exact eqvs_refl h
  | _, .rng .., h => absurd h Bool.false_ne_true
  | _, .raw _, h => absurd h Bool.false_ne_true
  | _, .acc .., h => absurd h Bool.false_ne_true
theorem eqvs_refl : ∀ {k : Nat} {ds : List D}, isDs k ds = true → PyData.eqvAll (pds ds) (pds ds) = true
  | _, [], _ => by simp [pds, PyData.eqvAll]
  | k, d :: ds, h => by
    simp only [isDs, Bool.and_eq_true] at h
    simp only [pds, PyData.eqvAll, eqv_refl h.1, eqvs_refl h.2, Bool.and_true]
end
section
variable {n : Nat}
theorem roomD {A : Around} (R : Rm n A) (h : 7 ≤ n) : A.units + 65 < cLine := by have := R.units; omega
theorem CmpS.eqD {a b : D} {t : Bool} (h7 : 7 ≤ n) (ha : isD 60 a = true) (hb : isD 60 b = true) (ht : PyData.eqv (pd a) (pd b) = t) : CmpS w n .Eq a b (.bool t) := fun A s X va vb R I B p q => by
  obtain ⟨as, ra⟩ := p.reads ha
  obtain ⟨bs, rb⟩ := q.reads hb
  subst ht
  exact eq_dataH ra rb (pd_shaped ha) (pd_shaped hb) (by have := roomD R h7; omega) ⟨EffM.refl _ s, I, rfl⟩
theorem CmpS.neD {a b : D} {t : Bool} (h7 : 7 ≤ n) (ha : isD 60 a = true) (hb : isD 60 b = true) (ht : (!PyData.eqv (pd a) (pd b)) = t) : CmpS w n .NotEq a b (.bool t) := fun A s X va vb R I B p q => by
  obtain ⟨as, ra⟩ := p.reads ha
  obtain ⟨bs, rb⟩ := q.reads hb
  subst ht
  exact ne_dataH ra rb (pd_shaped ha) (pd_shaped hb) (by have := roomD R h7; omega) ⟨EffM.refl _ s, I, rfl⟩
theorem CmpS.neSame {a : D} (h7 : 7 ≤ n) (ha : isD 60 a = true) : CmpS w n .NotEq a a (.bool false) := CmpS.neD h7 ha ha (by rw [eqv_refl ha]; rfl)
theorem CmpS.inD {a : D} {ds : List D} {t : Bool} (h7 : 7 ≤ n) (ha : isD 60 a = true) (hb : isD 60 (.list ds) = true) (ht : ((pds ds).any fun y => PyData.eqv y (pd a)) = t) : CmpS w n .In a (.list ds) (.bool t) := fun A s X va vb R I B p q => by
  obtain ⟨as, ra⟩ := p.reads ha
  obtain ⟨bs, rb⟩ := q.reads hb
  subst ht
  simp only [pd] at rb
  have hs := pd_shaped hb
  simp only [pd] at hs
  exact in_list_reads rb ra (canLay_of_shaped hs) (canLay_of_shaped (pd_shaped ha)) (room_in_shaped (pd_shaped ha) (roomD R h7)) ⟨EffM.refl _ s, I, rfl⟩
theorem CmpS.ltI {a b : Int} : CmpS w n .Lt (.int a) (.int b) (.bool (decide (a < b))) := fun A s X va vb R I B p q => by
  obtain ⟨t, rfl⟩ := p; obtain ⟨u, rfl⟩ := q
  exact PyProof.Rows.lt_int ⟨EffM.refl _ s, I, rfl⟩
theorem CmpS.gtI {a b : Int} : CmpS w n .Gt (.int a) (.int b) (.bool (decide (b < a))) := fun A s X va vb R I B p q => by
  obtain ⟨t, rfl⟩ := p; obtain ⟨u, rfl⟩ := q
  exact PyProof.Rows.gt_int ⟨EffM.refl _ s, I, rfl⟩
theorem CmpS.leI {a b : Int} : CmpS w n .LtE (.int a) (.int b) (.bool (decide (a ≤ b))) := fun A s X va vb R I B p q => by
  obtain ⟨t, rfl⟩ := p; obtain ⟨u, rfl⟩ := q
  exact PyProof.Rows.le_int ⟨EffM.refl _ s, I, rfl⟩
theorem CmpS.eqI {a b : Int} : CmpS w n .Eq (.int a) (.int b) (.bool (a == b)) := fun A s X va vb R I B p q => by
  obtain ⟨t, rfl⟩ := p; obtain ⟨u, rfl⟩ := q
  exact PyProof.Rows.eq_int ⟨EffM.refl _ s, I, rfl⟩
theorem CmpS.neI {a b : Int} : CmpS w n .NotEq (.int a) (.int b) (.bool (a != b)) := fun A s X va vb R I B p q => by
  obtain ⟨t, rfl⟩ := p; obtain ⟨u, rfl⟩ := q
  exact PyProof.Rows.ne_int ⟨EffM.refl _ s, I, rfl⟩
theorem CmpS.eqS {a b : Str} : CmpS w n .Eq (.str a) (.str b) (.bool (a == b)) := fun A s X va vb R I B p q => by
  obtain ⟨t, rfl⟩ := p; obtain ⟨u, rfl⟩ := q
  exact PyProof.Rows.eq_str ⟨EffM.refl _ s, I, rfl⟩
theorem CmpS.ltS {a b : Str} : CmpS w n .Lt (.str a) (.str b) (.bool (decide (a.cps.toList < b.cps.toList))) := fun A s X va vb R I B p q => by
  obtain ⟨t, rfl⟩ := p; obtain ⟨u, rfl⟩ := q
  exact PyProof.Rows.lt_str ⟨EffM.refl _ s, I, rfl⟩
theorem CmpS.gtS {a b : Str} : CmpS w n .Gt (.str a) (.str b) (.bool (decide (b.cps.toList < a.cps.toList))) := fun A s X va vb R I B p q => by
  obtain ⟨t, rfl⟩ := p; obtain ⟨u, rfl⟩ := q
  exact PySem.P.gt_str ⟨EffM.refl _ s, I, rfl⟩
theorem TruS.bool {b : Bool} : TruS w n (.bool b) b := fun A s X v R I B p => by
  cases (show v = _ from p)
  exact wpAny_truthy_bool ⟨rfl, EffM.refl _ s, I⟩
theorem TruS.int {i : Int} : TruS w n (.int i) (i != 0) := fun A s X v R I B p => by
  obtain ⟨t, rfl⟩ := p
  exact PySem.P.truthy_int ⟨rfl, EffM.refl _ s, I⟩
theorem TruS.list {ds : List D} (h : (ds.length : Int) < 2 ^ 63) : TruS w n (.list ds) (!ds.isEmpty) := fun A s X v R I B p => by
  unfold Rp at p
  obtain ⟨a, vs, k, rfl, _, ha, hr⟩ := p
  have e := hr.length
  simp only [Array.length_toList] at e
  have e2 : vs.isEmpty = ds.isEmpty := by
    unfold Array.isEmpty; rw [e]
    cases ds <;> simp
  exact wpAny_truthy_list (LObj.isList ha) (by rw [e]; exact h) ⟨by rw [e2], Eff.tok s _, I⟩
end
end Mine
end
open PySem PySem.W PyProof.Rows PySem.SeqAt
namespace Mine
local macro_rules | `(tactic| walk_at "rfl") => `(tactic| with_unfolding_all rfl)
local macro_rules | `(tactic| walk_at "side") => `(tactic| with_unfolding_all first | assumption | omega | decide | (simp; done) | (simp only [List.length_cons, List.length_nil]; decide))
local macro_rules | `(tactic| walk_at "op") => `(tactic| (with_reducible first
  | exact BinS.add | exact BinS.sub | exact BinS.subB | exact BinS.xor
  | exact CmpS.ltI | exact CmpS.gtI | exact CmpS.leI | exact CmpS.eqI | exact CmpS.neI | exact CmpS.ltS | exact CmpS.gtS | exact CmpS.eqS
  | refine' BinS.fdiv ?_ ?_ | refine' BinS.fmod ?_ | refine' BinS.mul ?_ | refine' BinS.shr ?_ | refine' BinS.shlB ?_ ?_) <;> walk_at "side")
local macro_rules | `(tactic| walk_at "name") => `(tactic| first
  | ((with_reducible refine' EvS.loc ?a ?b ?c); (case a => walk_at "rfl"); (case b => walk_at "rfl"); (case c => walk_at "rfl"))
  | ((with_reducible refine' EvS.cel ?a ?b ?c); (case a => walk_at "rfl"); (case b => walk_at "rfl"); (case c => walk_at "rfl"))
  | ((with_reducible refine' EvS.fre ?a ?b ?c ?d); (case a => walk_at "rfl"); (case b => walk_at "rfl"); (case c => walk_at "rfl"); (case d => walk_at "rfl"))
  | ((with_reducible refine' EvS.glo ?a ?b ?c); (case b => walk_at "rfl"); (case c => walk_at "rfl"); (case a => walk_at "gd")))
local macro_rules | `(tactic| walk_at "gd") => `(tactic| first
  | (with_unfolding_all first | exact GD.charMax | exact GD.divLimit | exact GD.empty)
  | ((refine' GD.top ?a); (case a => walk_at "mem")) | ((refine' GD.bui ?a); (case a => walk_at "mem")))
local macro_rules | `(tactic| walk_at "mem") => `(tactic| with_unfolding_all first | exact List.Mem.head _ | (apply List.Mem.tail; walk_at "mem"))
local macro_rules | `(tactic| walk_at "ev") => `(tactic| first
  | (with_reducible first | exact EvS.int | exact EvS.str | exact EvS.bool | exact EvS.none)
  | walk_at "name"
  | ((with_reducible refine' EvS.neg ?_); walk_at "ev")
  | ((with_reducible refine' EvS.bin ?a ?b ?c); (case a => walk_at "ev"); (case b => walk_at "ev"); (case c => walk_at "op"))
  | ((with_reducible refine' EvS.cmp ?a ?b ?c ?d); (case a => walk_at "ev"); (case b => walk_at "ev"); (case c => walk_at "op"); (case d => walk_at "rfl"))
  | ((with_reducible first | refine' EvS.listD ?a ?b | refine' EvS.tupD ?a ?b); (case a => walk_at "evl"); (case b => walk_at "side")))
local macro_rules | `(tactic| walk_at "evl") => `(tactic| first
  | with_reducible exact EvL.nil
  | ((with_reducible refine' EvL.cons ?a ?b ?c); (case a => walk_at "ev"); (case b => walk_at "evl"); (case c => (intro _; walk_at "rfl"))))
local macro_rules | `(tactic| walk_at "st") => `(tactic| exact StoreOk.all (by first | exact Or.inl (by rfl) | exact Or.inr (by rfl)) (by decide) (by walk_at "rfl"))
local macro_rules | `(tactic| walk_at "fnok") => `(tactic| exact FnOk.mk (by rfl) (by rfl) (by rfl) (by intro vs h; (rcases vs with _ | ⟨a, _ | ⟨b, _ | ⟨c, _ | ⟨d, vs⟩⟩⟩⟩ <;> first | rfl | (simp at h; done))) (by decide +kernel) (by decide +kernel) (by decide +kernel) (by rfl) (by rfl) (by rfl))
local macro_rules | `(tactic| walk_at "keep") => `(tactic| first | exact KeepOk.bui | exact KeepOk.typ)
local macro_rules | `(tactic| walk_at "ev") => `(tactic|
  ((with_reducible refine' EvS.call ?f ?k ?a ?c ?s); (case f => walk_at "name"); (case k => walk_at "keep"); (case a => walk_at "evl"); (case s => (intro _; walk_at "rfl")); (case c => walk_at "call")))
local macro_rules | `(tactic| walk_at "sw") => `(tactic| first | (intro _ _; rfl) | (intro env hs; cases env; cases hs; rfl))
local macro_rules | `(tactic| walk_at "capt") => `(tactic| first | exact Capt.nil | (refine Capt.cons (by rfl) (by rfl) (by first | exact Or.inl (by rfl) | exact Or.inr (by rfl)) ?_; walk_at "capt"))
local macro_rules | `(tactic| walk_at "sub") => `(tactic| first | exact Sub.nil | (refine Sub.cons (by rfl) ?_; walk_at "sub"))
section
-- F0
variable {w : World}
theorem strcoll_ok : FnOk (fdT 2 "_strcoll" pmL 27) (dB (stAt 2)) ["a", "b"] := by walk_at "fnok"
noncomputable def sgn (a b : Str) : Int := b2i (decide (b.cps.toList < a.cps.toList)) - b2i (decide (a.cps.toList < b.cps.toList))
theorem strcoll_S {n : Nat} {a b : Str} : CallS w (n + 1) (.ref 28) [.str a, .str b] (.int (sgn a b)) := by
  refine CallS.fn (p := (28, fdT 2 "_strcoll" pmL 27, 27)) (by walk_at "mem") strcoll_ok rfl (out := .ret (.int (sgn a b))) rfl
    (Blk.last (Stm.ret ?_)) rfl
  refine EvS.bin (a := .bool _) (b := .bool _) ?x ?y BinS.subB
  · walk_at "ev"
  · walk_at "ev"
theorem strxfrm_S {n : Nat} {d : D} : CallS w (n + 1) (.ref 35) [d] d := by
  refine CallS.fn (p := (35, fdT 3 "_strxfrm" pmL 34, 34)) (xs := ["s"]) (by walk_at "mem") (by walk_at "fnok") rfl (out := .ret d) rfl
    (Blk.last (Stm.ret ?_)) rfl
  walk_at "ev"
end
section
-- D1
variable {w : World}
section
variable {n : Nat}
theorem ints_of {X : Addr → Prop} {h : Heap} : ∀ {ns : List Int} {vs : List Value}, RpL X h (ns.map D.int) vs → IntsAre vs ns
  | [], _, x => by have := x.nil_inv; subst this; exact .nil
  | i :: ns, _, x => by obtain ⟨v, r, rfl, ⟨t, rfl⟩, b⟩ := x.cons_inv; exact .cons i t (ints_of b)
theorem CallS.sum {ns : List Int} : CallS w n (.builtin "sum") [.list (ns.map D.int)] (.int ns.sum) := fun A s X vs R I B hd => by
  obtain ⟨v, _, rfl, a, b⟩ := hd.cons_inv
  have := b.nil_inv; subst this
  unfold Rp at a
  obtain ⟨l, xs, k, rfl, hx, ha, hr⟩ := a
  have hi := ints_of hr
  obtain ⟨ys, hys⟩ := hi.allInts.items
  have hys' : xs = intItems ys := by rw [← hys]
  subst hys'
  refine sum_intListG R.handled (xs := ys) (LObj.isList ha) fun h' tk t' hk => ?_
  have e : (ys.toList.map (·.1)) = ns := by
    rw [← nums_intItems, ← hi.numsOf]
  rw [preSum_eq, List.take_of_length_le (by simp), e]
  exact ⟨Eff.of_keeps hk, I.keeps hk, _, rfl⟩
theorem CallS.len {ds : List D} (hz : (ds.length : Int) < 2 ^ 63) : CallS w n (.builtin "len") [.list ds] (.int ds.length) := fun A s X vs R I B hd => by
  obtain ⟨v, _, rfl, a, b⟩ := hd.cons_inv
  have := b.nil_inv; subst this
  unfold Rp at a
  obtain ⟨l, xs, k, rfl, hx, ha, hr⟩ := a
  have e := hr.length
  simp only [Array.length_toList] at e
  exact Calls.call_len_list (LObj.isList ha) (by rw [e]; exact hz) ⟨Eff.tok s _, I, _, by rw [e]⟩
theorem CallS.range1 {b : Int} : CallS w n (.type "range") [.int b] (.rng 0 b 1) := fun A s X vs R I B hd => by
  obtain ⟨v, _, rfl, ⟨t, rfl⟩, b1⟩ := hd.cons_inv
  have := b1.nil_inv; subst this
  refine call_range_1 ⟨Eff.push s _ _, I.push _, ?_⟩
  unfold Rp
  exact ⟨_, _, _, _, rfl, B.fresh, IsRange.new ..⟩
theorem CallS.range2 {a b : Int} : CallS w n (.type "range") [.int a, .int b] (.rng a b 1) := fun A s X vs R I B hd => by
  obtain ⟨v, _, rfl, ⟨t, rfl⟩, b1⟩ := hd.cons_inv
  obtain ⟨v, _, rfl, ⟨u, rfl⟩, b2⟩ := b1.cons_inv
  have := b2.nil_inv; subst this
  refine call_range_2 ⟨Eff.push s _ _, I.push _, ?_⟩
  unfold Rp
  exact ⟨_, _, _, _, rfl, B.fresh, IsRange.new ..⟩
theorem CallS.range3 {a b c : Int} (hc : c ≠ 0) (hs : c.natAbs < 1073741824) : CallS w n (.type "range") [.int a, .int b, .int c] (.rng a b c) := fun A s X vs R I B hd => by
  obtain ⟨v, _, rfl, ⟨t, rfl⟩, b1⟩ := hd.cons_inv
  obtain ⟨v, _, rfl, ⟨u, rfl⟩, b2⟩ := b1.cons_inv
  obtain ⟨v, _, rfl, ⟨u1, rfl⟩, b3⟩ := b2.cons_inv
  have := b3.nil_inv; subst this
  refine call_range_3 hc ⟨Eff.push s _ _, I.push _, ?_⟩ (.inl (PyProof.noPylong_small hs))
  unfold Rp
  exact ⟨_, _, _, _, rfl, B.fresh, IsRange.new ..⟩
theorem CallS.divmod {a b : Int} (hb : b ≠ 0) (hs : b.natAbs < 1073741824) : CallS w n (.builtin "divmod") [.int a, .int b] (.tup [.int (a.fdiv b), .int (a.fmod b)]) := fun A s X vs R I B hd => by
  obtain ⟨v, _, rfl, ⟨t, rfl⟩, b1⟩ := hd.cons_inv
  obtain ⟨v, _, rfl, ⟨u, rfl⟩, b2⟩ := b1.cons_inv
  have := b2.nil_inv; subst this
  exact divmod_int hb (EvP.tup I B (RpL.cons ⟨_, rfl⟩ (RpL.cons ⟨_, rfl⟩ RpL.nil))) (.inl (PyProof.noPylong_small hs))
theorem CallS.chr {i : Int} (h0 : 0 ≤ i) (h1 : i ≤ 1114111) : CallS w n (.builtin "chr") [.int i] (.str ⟨#[i.toNat]⟩) := fun A s X vs R I B hd => by
  obtain ⟨v, _, rfl, ⟨t, rfl⟩, b1⟩ := hd.cons_inv
  have := b1.nil_inv; subst this
  exact chr_of_range h0 h1 (EvP.str I)
theorem CallS.isiBool {i : Int} : CallS w n (.builtin "isinstance") [.int i, .raw (.type "bool")] (.bool false) := fun A s X vs R I B hd => by
  obtain ⟨v, _, rfl, ⟨t, rfl⟩, b1⟩ := hd.cons_inv
  obtain ⟨v, _, rfl, hv, b2⟩ := b1.cons_inv
  cases (show v = _ from hv)
  have := b2.nil_inv; subst this
  exact IsiPair.int_bool ⟨Eff.tok s _, I, rfl⟩
theorem CallS.isiInt {i : Int} : CallS w n (.builtin "isinstance") [.int i, .raw (.type "int")] (.bool true) := fun A s X vs R I B hd => by
  obtain ⟨v, _, rfl, ⟨t, rfl⟩, b1⟩ := hd.cons_inv
  obtain ⟨v, _, rfl, hv, b2⟩ := b1.cons_inv
  cases (show v = _ from hv)
  have := b2.nil_inv; subst this
  exact IsiPair.int_int ⟨EffM.refl _ s, I, rfl⟩
theorem rpl_ints {X : Addr → Prop} {h : Heap} {f : Nat → Int} {acc : Array Value} {k : Nat} (hs : acc.size = k) (hi : ∀ (j : Nat) (v : Value), acc[j]? = some v → ∃ t, v = Value.int (f j) t) : RpL X h ((List.range k).map fun j => D.int (f j)) acc.toList := by
  have key : ∀ (vs : List Value) (m : Nat), (∀ (j : Nat) (v : Value), vs[j]? = some v → ∃ t, v = Value.int (f (m + j)) t) → RpL X h ((List.range' m vs.length).map fun j => D.int (f j)) vs := by
    intro vs
    induction vs with
    | nil => intro m _; exact RpL.nil
    | cons v vs ih =>
      intro m hv
      rw [List.length_cons, List.range'_succ, List.map_cons]
      refine RpL.cons (hv 0 v rfl) (ih (m + 1) fun j u hj => ?_)
      have := hv (j + 1) u (by simpa using hj)
      rw [show m + 1 + j = m + (j + 1) by omega]; exact this
  have := key acc.toList 0 (fun j v hj => by have := hi j v (by simpa using hj); simpa using this)
  rw [Array.length_toList, hs, ← List.range_eq_range'] at this
  exact this
theorem CallS.listRange {a b : Int} {k : Nat} (hs : Builtin.Range.small a b 1 = true) (hk : Builtin.Range.rangeSize a b 1 = (k : Nat)) (hz : k ≤ 2 ^ 24) : CallS w n (.type "list") [.rng a b 1] (.list (rngItems a 1 k)) := fun A s X vs R I B hd => by
  obtain ⟨v, _, rfl, hv, b1⟩ := hd.cons_inv
  have := b1.nil_inv; subst this
  unfold Rp at hv
  obtain ⟨r, t1, t2, t3, rfl, hx, hr⟩ := hv
  refine call_list_range R.handled hr hs hk hz fun h' tk acc c' hkp hS hit => ?_
  refine ⟨Eff.of_keeps hkp, I.keeps hkp, ?_⟩
  unfold Rp
  refine ⟨_, acc, c', rfl, B.fresh, hS, ?_⟩
  have := rpl_ints (X := X) (h := h') (f := fun j => a + (j : Int) * 1) hit.1 hit.2
  unfold rngItems
  have e : (fun j : Nat => D.int (a + 1 * (j : Int))) = fun j : Nat => D.int (a + (j : Int) * 1) := by
    funext j; congr 1; omega
  rw [e]; exact this
theorem EvS.callK {sc : Scope} {r : VL} {id : Str} {p pos : Pos} {e : Expr} {es : List Expr} {fv : Value} {ds : List D} (hf : EvS w n sc r (.Name id p) (.raw fv)) (hk : KeepOk w fv) (ha : EvL w n sc r (e :: es) ds)
    (hst : ∀ env, starEach (e :: es) env = (false, eval e env) :: starEach es env := by intro _; rfl) {A : Around} {s : Shared} {env : Env} {X : Addr → Prop} {Q : Value → Shared → Prop} (hs : env.scope = sc) (R : Rm n A) (I : Inv s.heap) (V : Vars X env r s.heap)
    (hc : ∀ vs s₂, Eff s s₂ → Inv s₂.heap → RpL X s₂.heap ds vs → wpAny (model PRG w) A (PySem.call fv vs) Q (fun _ _ => False) s₂) : wpAny (model PRG w) A (eval (.Call (.Name id p) (e :: es) [] pos) env) Q (fun _ _ => False) s := by
  refine wpAny_Call_NameR (wpAny_mono (hf A s env X hs R I V) (fun v s₁ q => ?_) fun _ _ z => z.elim)
  obtain ⟨q1, I₁, q3⟩ := q
  cases (show v = fv from q3)
  have V₁ := V.eff q1 I
  obtain ⟨a1, a2⟩ := ha A s₁ env X pos hs R I₁ V₁
  refine callWith_of (P := Inv) (by rw [a2]; rfl) hk ?_
  have e' : backTo pos (starEach (e :: es) env) = (false, eval e env) :: backTo pos (starEach es env) := by rw [hst env]; rfl
  rw [e'] at a1 ⊢
  refine Calls.evalArgs_plain (wpAny_mono a1 (fun vs s₂ g => ?_) fun _ _ z => z.elim)
  exact ⟨g.2.1, hc vs s₂ (q1.trans g.1) g.2.1 g.2.2⟩
theorem Stm.forRev {sc : Scope} {r o : VL} {t e : Expr} {id : Str} {p cpos pos : Pos} {body : List Stmt} (rs os r1 : Nat → VL) {ds : List D} (hf : EvS w n sc r (.Name id p) (.raw (.type "reversed"))) (hi : EvS w n sc r e (.list ds))
    (ht : (∃ x p, t = .Name x p) ∨ ∃ es k p, t = .Tuple es k p) (h0 : Sub r (rs 0)) (ho : o = os 0)
    (htgt : ∀ i d, ds.reverse[i]? = some d → TgtS w n sc t d (rs i) (os i) (r1 i)) (hbody : ∀ i d, ds.reverse[i]? = some d → Blk w n sc (r1 i) (os i) body (.next (rs (i + 1)) (os (i + 1))))
    (hst : ∀ env, starEach [e] env = (false, eval e env) :: starEach [] env := by intro _; rfl) :
    Stm w n sc r o (.For t (.Call (.Name id p) [e] [] cpos) body [] pos) (.next (rs ds.length) (os ds.length)) := fun A n₀ X₀ Wb sb env s hs R S => by
  obtain ⟨ad, S⟩ := S
  refine wpAny_For (EvS.callK hf KeepOk.typ (EvL.cons hi EvL.nil hst) hst hs R S.inv S.vars fun vs s₁ p1 p2 p3 => ?_) fun x => rfl
  obtain ⟨v, _, rfl, hv, b1⟩ := p3.cons_inv
  have := b1.nil_inv; subst this
  unfold Rp at hv
  obtain ⟨l, xs, k, rfl, hx, ha, hr⟩ := hv
  have hlen := hr.length
  simp only [Array.length_toList] at hlen
  have S₁ := S.step p1 p2
  refine call_reversed_list (LObj.isList ha) ?_
  have hI : (s₁.heap.push (revObj l ((xs.size : Int) - 1))).get? s₁.heap.objs.size = some (revObj l ((xs.size : Int) - 1)) := Heap.get?_push_size _ rfl
  refine wpAny_pyIter_revIter (i := (xs.size : Int) - 1) (l := l) ⟨_, hI, rfl, rfl⟩ ?_
  have E₂ : Eff s₁ { s₁ with heap := s₁.heap.push (revObj l ((xs.size : Int) - 1)) } := Eff.push s₁ _ s₁.toks
  have S₂ : StA n₀ X₀ (OW o ad) s₁ env r o { s₁ with heap := s₁.heap.push (revObj l ((xs.size : Int) - 1)) } ad := S₁.rebase.step E₂ (p2.push _)
  have hit₂ : ItAt (OX X₀ o ad) (s₁.heap.push (revObj l ((xs.size : Int) - 1))) s₁.heap.objs.size ds.reverse :=
    .rev (l := l) (vs := xs) (k := xs.size) (n := k) ⟨_, hI, rfl, rfl⟩ (Heap.get?_push_of_some _ ha) hx (by rw [List.take_of_length_le (by simp)]; exact hr.keep (SK.push _)) hlen.symm
  have hIn : n₀ ≤ s₁.heap.objs.size := by
    obtain ⟨m, nm, _⟩ := S₁.vars.ns
    exact Nat.le_trans S₁.lowL (Nat.le_of_lt nm.lt)
  subst ho
  refine codeAny_mono (for_core rs os r1 hs R ht htgt hbody (S₂.vsub h0) hit₂ (Heap.get?_none_of_le (Nat.le_refl _)) hIn) fun rr s' q => ?_
  rw [List.length_reverse] at q
  cases rr with
  | error e => exact q.elim
  | ok f =>
    cases f with
    | next => obtain ⟨ad', S'⟩ := q; exact ⟨ad', S₁.back S'⟩
    | brk => exact q.elim
    | cont => exact q.elim
    | ret v => exact q.elim
end
end
section
-- D2
variable {w : World}
section
variable {n : Nat} {sc : Scope} {r : VL}
noncomputable def tyD : D → Option String
  | .int _ => some "int"
  | .str _ => some "str"
  | .list _ => some "list"
  | _ => none
theorem tyD.is {d : D} {T : String} (h : tyD d = some T) {X : Addr → Prop} {s : Shared} {v : Value} (x : Rp X s.heap d v) : s.TypeIs v T ∧ ∀ a, v = .ref a → ∃ ob, s.heap.get? a = some ob ∧ ob.dict = none := by
  cases d with
  | int i => cases h; obtain ⟨t, rfl⟩ := x; exact ⟨typeIs_int s i t, fun a e => by cases e⟩
  | str i => cases h; obtain ⟨t, rfl⟩ := x; exact ⟨typeIs_str s i t, fun a e => by cases e⟩
  | list ds => cases h; unfold Rp at x; obtain ⟨a, vs, k, rfl, _, e, _⟩ := x; exact ⟨⟨_, e, rfl⟩, fun b q => by cases q; exact ⟨_, e, rfl⟩⟩
  | none => cases h
  | bool => cases h
  | tup => cases h
  | rng => cases h
  | raw => cases h
  | acc => cases h
theorem EvS.meth0 {o : Expr} {name : Str} {apos pos : Pos} {T id : String} {d0 d : D} (ho : EvS w n sc r o d0) (hT : tyD d0 = some T) (pa : PlainAttrs T) (slot : Slot T name id) (hty : typeOf (.builtin id) = pure (.type "method_descriptor"))
    (hc : CallS w n (.builtin id) [d0] d) (hline : (apos.endLine == pos.line) = true := by rfl) (hbase : ∀ env, attributeBase o name env (eval o env) = eval o env := by intro _; rfl) : EvS w n sc r (.Call (.Attribute o name apos) [] [] pos) d := fun A s env X hs R I V => by
  refine wpAny_Call_method (hbase env) rfl hline pa slot hty (wpAny_mono (ho A s env X hs R I V) (fun ov s₁ p => ?_) fun _ _ z => z)
  obtain ⟨p1, p2, p3⟩ := p
  obtain ⟨t1, t2⟩ := tyD.is hT p3
  refine ⟨t1, t2, Calls.callWith_builtin rfl (PySem.evalArgs_none ?_)⟩
  exact wpAny_mono (hc A s₁ X [ov] R p2 (V.bnd.eff p1) (RpL.cons p3 RpL.nil)) (fun v s₂ q => (q.trans p1 : EvP X s d v s₂)) fun _ _ z => z
theorem EvS.meth {o : Expr} {name : Str} {apos pos : Pos} {T id : String} {d0 d : D} {e : Expr} {es : List Expr} {ds : List D} (ho : EvS w n sc r o d0) (hT : tyD d0 = some T) (pa : PlainAttrs T) (slot : Slot T name id) (hty : typeOf (.builtin id) = pure (.type "method_descriptor"))
    (ha : EvL w n sc r (e :: es) ds) (hc : CallS w n (.builtin id) (d0 :: ds) d) (hst : ∀ env, starEach (e :: es) env = (false, eval e env) :: starEach es env := by intro _; rfl)
    (hfew : ∀ env, ((backTo pos (starEach (e :: es) env)).all (fun x => !x.1) && (backToKw pos (keywordEach [] env)).all (fun x => x.1.isSome) && decide ((e :: es).length + ([] : List Keyword).length + (if ([] : List Keyword).isEmpty then 0 else 1) < 30)) = true := by intro _; rfl)
    (hline : (apos.endLine == pos.line) = true := by rfl) (hbase : ∀ env, attributeBase o name env (eval o env) = eval o env := by intro _; rfl) : EvS w n sc r (.Call (.Attribute o name apos) (e :: es) [] pos) d := fun A s env X hs R I V => by
  refine wpAny_Call_method (hbase env) (hfew env) hline pa slot hty (wpAny_mono (ho A s env X hs R I V) (fun ov s₁ p => ?_) fun _ _ z => z)
  obtain ⟨p1, p2, p3⟩ := p
  obtain ⟨t1, t2⟩ := tyD.is hT p3
  obtain ⟨a1, a2⟩ := ha A s₁ env X pos hs R p2 (V.eff p1 I)
  refine ⟨t1, t2, Calls.callWith_builtin a2 ?_⟩
  have e' : backTo pos (starEach (e :: es) env) = (false, eval e env) :: backTo pos (starEach es env) := by rw [hst env]; rfl
  rw [e'] at a1 ⊢
  refine Calls.evalArgs_plain (wpAny_mono a1 (fun vs s₂ g => ?_) fun _ _ z => z)
  exact wpAny_mono (hc A s₂ X (ov :: vs) R g.2.1 ((V.bnd.eff p1).eff g.1) (RpL.cons (p3.keep (g.1.sk p2)) g.2.2)) (fun v s₃ q => (q.trans (p1.trans g.1) : EvP X s d v s₃)) fun _ _ z => z
theorem CallS.bitLength {a : Int} : CallS w n (.builtin "int.bit_length") [.int a] (.int (Builtin.Int.intBits a : Nat)) := fun A s X vs R I B hd => by
  obtain ⟨v, _, rfl, ⟨t, rfl⟩, b1⟩ := hd.cons_inv
  have := b1.nil_inv; subst this
  refine call_gives F.slot_int_bit_length (typeIs_int s a t) F.entry_int_bit_length (F.args_int_bit_length_1 _) (AutoIntG2.int_bit_length_int_0 a t) ?_
  exact (EvP.int I : EvP X s (.int (Builtin.Int.intBits a : Nat)) (.int _ s.toks) _)
theorem strs_of {X : Addr → Prop} {h : Heap} : ∀ {ns : List Str} {vs : List Value}, RpL X h (ns.map D.str) vs → StrsAre vs ns
  | [], _, x => by have := x.nil_inv; subst this; exact .nil
  | i :: ns, _, x => by obtain ⟨v, r, rfl, ⟨t, rfl⟩, b⟩ := x.cons_inv; exact .cons i t (strs_of b)
theorem CallS.join {x : Str} {ys : List Str} (hok : (ys.map (·.length)).sum + ys.length * x.length ≤ 16777216) : CallS w n (.builtin "str.join") [.str x, .list (ys.map D.str)] (.str (Txt.join x ys)) := fun A s X vs R I B hd => by
  obtain ⟨v, _, rfl, ⟨t, rfl⟩, b1⟩ := hd.cons_inv
  obtain ⟨v, _, rfl, hv, b2⟩ := b1.cons_inv
  have := b2.nil_inv; subst this
  unfold Rp at hv
  obtain ⟨l, xs, k, rfl, hx, ha, hr⟩ := hv
  exact join_list (LObj.isList ha) (strs_of hr) hok fun t' k => EvP.str I
theorem CallS.joinT {x : Str} {ys : List Str} (hok : (ys.map (·.length)).sum + ys.length * x.length ≤ 16777216) : CallS w n (.builtin "str.join") [.str x, .tup (ys.map D.str)] (.str (Txt.join x ys)) := fun A s X vs R I B hd => by
  obtain ⟨v, _, rfl, ⟨t, rfl⟩, b1⟩ := hd.cons_inv
  obtain ⟨v, _, rfl, hv, b2⟩ := b1.cons_inv
  have := b2.nil_inv; subst this
  unfold Rp at hv
  obtain ⟨l, xs, k, rfl, hx, ha, hr⟩ := hv
  exact join_tuple ⟨_, ha, rfl, k, rfl⟩ (strs_of hr) hok fun t' k => EvP.str I
theorem CallS.count {ns : List Int} {k : Int} : CallS w n (.builtin "list.count") [.list (ns.map D.int), .int k] (.int (ns.count k : Nat)) := fun A s X vs R I B hd => by
  obtain ⟨v, _, rfl, hv, b1⟩ := hd.cons_inv
  obtain ⟨v, _, rfl, ⟨t, rfl⟩, b2⟩ := b1.cons_inv
  have := b2.nil_inv; subst this
  unfold Rp at hv
  obtain ⟨l, xs, m, rfl, hx, ha, hr⟩ := hv
  exact count_list_ints (vs := xs.toList) (LObj.isList (by simpa using ha)) (ints_of hr) (EvP.int I)
theorem CallS.isspace {x : Str} : CallS w n (.builtin "str.isspace") [.str x] (.bool (x.length > 0 && x.cps.all Unicode.isSpace)) := fun A s X vs R I B hd => by
  obtain ⟨v, _, rfl, ⟨t, rfl⟩, b1⟩ := hd.cons_inv
  have := b1.nil_inv; subst this
  refine call_gives F.slot_str_isspace (typeIs_str s x t) F.entry_str_isspace (F.args_str_isspace_1 _) (gives_str_isspace x t) ?_
  exact ⟨EffM.refl _ s, I, rfl⟩
end
end
local macro_rules | `(tactic| walk_at "call") => `(tactic| (with_reducible first
  | exact CallS.sum | exact CallS.range1 | exact CallS.range2 | exact CallS.bitLength | exact CallS.isiBool | exact CallS.isiInt | exact CallS.count | exact CallS.isspace
  | refine' CallS.len ?_ | refine' CallS.range3 ?_ ?_ | refine' CallS.divmod ?_ ?_ | refine' CallS.chr ?_ ?_) <;> walk_at "side")
section
-- F1
variable {w : World}
theorem div2n1n_S {n : Nat} {a b k : Int} (h : (Builtin.Int.intBits a : Int) - k ≤ 4000) (hb : b ≠ 0) (hs : b.natAbs < 1073741824) : CallS w (n + 1) (.ref 49) [.int a, .int b, .int k] (.tup [.int (a.fdiv b), .int (a.fmod b)]) := by
  refine CallS.fn (p := (49, fdT 8 "_div2n1n" pmP 48, 48)) (xs := ["a", "b", "n"]) (by walk_at "mem") (by walk_at "fnok") rfl (out := .ret (.tup [.int (a.fdiv b), .int (a.fmod b)])) rfl
    (Blk.last (Stm.ite (b := true) ?t (fun _ => Blk.last (Stm.ret ?e)) (fun q => by cases q))) rfl
  case t =>
    refine TstS.cmp (a := .int ((Builtin.Int.intBits a : Nat) - k)) (b := .int 4000) (EvS.bin (EvS.meth0 (by walk_at "ev") rfl F.plainAttrs_int F.slot_int_bit_length F.type_int_bit_length CallS.bitLength) (by walk_at "ev") BinS.sub) (by walk_at "ev") ?_
    have := CmpS.leI (w := w) (n := n) (a := (Builtin.Int.intBits a : Nat) - k) (b := 4000)
    rw [decide_eq_true h] at this
    exact this
  case e => walk_at "ev"
end
section
-- D3
variable {w : World}
theorem filt_map {α : Type} (φ : α → D) (ψ : D → α) (hψ : ∀ x, ψ (φ x) = x) (p : α → Bool) (g : α → D) : ∀ xs : List α, ((xs.map φ).filter fun d => p (ψ d)).map (fun d => g (ψ d)) = (xs.filter p).map g
  | [] => rfl
  | x :: xs => by
    have ih := filt_map φ ψ hψ p g xs
    rw [List.map_cons]
    cases h : p x with
    | true => rw [List.filter_cons_of_pos (by rw [hψ]; exact h), List.filter_cons_of_pos h, List.map_cons, List.map_cons, ih, hψ]
    | false => rw [List.filter_cons_of_neg (by rw [hψ, h]; decide), List.filter_cons_of_neg (by rw [h]; decide), ih]
section
variable {n : Nat} {sc scope : Scope} {r q o : VL} {elt iter : Expr} {v : Str} {px : Pos} {ifs : List Expr} {pos : Pos} {di : D} {α : Type}
theorem EvS.comp (φ : α → D) (ψ : D → α) (hψ : ∀ x, ψ (φ x) = x) (xs : List α) (p : α → Bool) (g : α → D)
    (hi : EvS w n sc r iter di) (hit : Items di (xs.map φ)) (hc : Capt sc scope r q) (hz : xs.length ≤ 2 ^ 20)
    (hif : ∀ x ∈ xs, IfsS w n (relS scope sc) ((v, φ x) :: q) ifs (p x)) (hel : ∀ x ∈ xs, p x = true → EvS w n (relS scope sc) ((v, φ x) :: q) elt (g x))
    (hall : (scope.names.all fun p => !(p.2 == .free) || q.any fun y => y.1 == p.1) = true := by rfl)
    (hk : scope.kind = .function := by rfl) (hx : scope.names.lookup v = some .local := by rfl) (hxi : iniS ≠ v := by decide)
    (hloc : (scope.names.all fun p => !(p.2 == .local) || scope.names.lookup p.1 == some .local) = true := by rfl)
    (hcell : (scope.names.all fun p => !(p.2 == .cell)) = true := by rfl) (hfree : (scope.names.all fun p => !(p.2 == .free) || scope.names.lookup p.1 == some .free) = true := by rfl)
    (hfold : ∀ env v, foldedSetIterable iter env v = pure v := by intro _ _; rfl) :
    EvS w n sc r (.ListComp elt [⟨.Name v px, iter, ifs, 0⟩] scope pos) (.list ((xs.filter p).map g)) := by
  have := EvS_comp (elt := elt) (px := px) (pos := pos) (fun d => p (ψ d)) (fun d => g (ψ d)) hi hit hc hall hk hx hxi hloc hcell hfree (ifs := ifs) (fun d hd => ?_) (fun d hd hp => ?_) (by simpa using hz) hfold
  · rw [filt_map φ ψ hψ] at this; exact this
  · obtain ⟨x, hm, rfl⟩ := List.mem_map.mp hd
    rw [hψ]; exact hif x hm
  · obtain ⟨x, hm, rfl⟩ := List.mem_map.mp hd
    rw [hψ] at hp ⊢; exact hel x hm hp
theorem Stm.comp1 {y : Str} {py spos : Pos} (φ : α → D) (ψ : D → α) (hψ : ∀ x, ψ (φ x) = x) (xs : List α) (p : α → Bool) (g : α → D)
    (hi : EvS w n sc r iter di) (hit : Items di (xs.map φ)) (hc : Capt sc scope r q) (hz : xs.length ≤ 2 ^ 20) (ky : StoreOk sc o y)
    (hif : ∀ x ∈ xs, IfsS w n (relS scope sc) ((v, φ x) :: q) ifs (p x)) (hel : ∀ x ∈ xs, p x = true → EvS w n (relS scope sc) ((v, φ x) :: q) elt (g x))
    (hsw : ∀ env : Env, env.scope = sc → swapsWith (.ListComp elt [⟨.Name v px, iter, ifs, 0⟩] scope pos) (some (.Name y py)) spos.line env = pure true)
    (hall : (scope.names.all fun p => !(p.2 == .free) || q.any fun y => y.1 == p.1) = true := by rfl)
    (hk : scope.kind = .function := by rfl) (hx : scope.names.lookup v = some .local := by rfl) (hxi : iniS ≠ v := by decide)
    (hloc : (scope.names.all fun p => !(p.2 == .local) || scope.names.lookup p.1 == some .local) = true := by rfl)
    (hcell : (scope.names.all fun p => !(p.2 == .cell)) = true := by rfl) (hfree : (scope.names.all fun p => !(p.2 == .free) || scope.names.lookup p.1 == some .free) = true := by rfl)
    (hfold : ∀ env v, foldedSetIterable iter env v = pure v := by intro _ _; rfl) :
    Stm w n sc r o (.Assign [.Name y py] (.ListComp elt [⟨.Name v px, iter, ifs, 0⟩] scope pos) spos) (.next ((y, .list ((xs.filter p).map g)) :: r) o) := by
  have := Stm.comp (elt := elt) (py := py) (spos := spos) (px := px) (pos := pos) (fun d => p (ψ d)) (fun d => g (ψ d)) hi hit hc hall hk hx hxi hloc hcell hfree (ifs := ifs) (fun d hd => ?_) (fun d hd hp => ?_) (by simpa using hz) ky hsw hfold
  · rw [filt_map φ ψ hψ] at this; exact this
  · obtain ⟨x, hm, rfl⟩ := List.mem_map.mp hd
    rw [hψ]; exact hif x hm
  · obtain ⟨x, hm, rfl⟩ := List.mem_map.mp hd
    rw [hψ] at hp ⊢; exact hel x hm hp
end
section
variable {n : Nat} {sc scope : Scope} {r o : VL} {elt iter : Expr} {v : Str} {px : Pos} {pos : Pos} {di : D} {α : Type}
theorem EvS.compT (q : VL) (φ : α → D) (ψ : D → α) (hψ : ∀ x, ψ (φ x) = x) (xs : List α) (g : α → D)
    (hi : EvS w n sc r iter di) (hit : Items di (xs.map φ)) (hc : Capt sc scope r q) (hz : xs.length ≤ 2 ^ 20)
    (hel : ∀ x ∈ xs, EvS w n (relS scope sc) ((v, φ x) :: q) elt (g x))
    (hall : (scope.names.all fun p => !(p.2 == .free) || q.any fun y => y.1 == p.1) = true := by rfl)
    (hk : scope.kind = .function := by rfl) (hx : scope.names.lookup v = some .local := by rfl) (hxi : iniS ≠ v := by decide)
    (hloc : (scope.names.all fun p => !(p.2 == .local) || scope.names.lookup p.1 == some .local) = true := by rfl)
    (hcell : (scope.names.all fun p => !(p.2 == .cell)) = true := by rfl) (hfree : (scope.names.all fun p => !(p.2 == .free) || scope.names.lookup p.1 == some .free) = true := by rfl)
    (hfold : ∀ env v, foldedSetIterable iter env v = pure v := by intro _ _; rfl) :
    EvS w n sc r (.ListComp elt [⟨.Name v px, iter, [], 0⟩] scope pos) (.list (xs.map g)) := by
  have := EvS.comp (elt := elt) (px := px) (pos := pos) (ifs := []) φ ψ hψ xs (fun _ => true) g hi hit hc hz (fun _ _ => IfsS.nil) (fun x hx _ => hel x hx) hall hk hx hxi hloc hcell hfree hfold
  rw [List.filter_eq_self.mpr (fun _ _ => rfl)] at this
  exact this
theorem Stm.compT {y : Str} {py spos : Pos} (q : VL) (φ : α → D) (ψ : D → α) (hψ : ∀ x, ψ (φ x) = x) (xs : List α) (g : α → D)
    (hi : EvS w n sc r iter di) (hit : Items di (xs.map φ)) (hc : Capt sc scope r q) (hz : xs.length ≤ 2 ^ 20) (ky : StoreOk sc o y)
    (hel : ∀ x ∈ xs, EvS w n (relS scope sc) ((v, φ x) :: q) elt (g x))
    (hsw : ∀ env : Env, env.scope = sc → swapsWith (.ListComp elt [⟨.Name v px, iter, [], 0⟩] scope pos) (some (.Name y py)) spos.line env = pure true)
    (hall : (scope.names.all fun p => !(p.2 == .free) || q.any fun y => y.1 == p.1) = true := by rfl)
    (hk : scope.kind = .function := by rfl) (hx : scope.names.lookup v = some .local := by rfl) (hxi : iniS ≠ v := by decide)
    (hloc : (scope.names.all fun p => !(p.2 == .local) || scope.names.lookup p.1 == some .local) = true := by rfl)
    (hcell : (scope.names.all fun p => !(p.2 == .cell)) = true := by rfl) (hfree : (scope.names.all fun p => !(p.2 == .free) || scope.names.lookup p.1 == some .free) = true := by rfl)
    (hfold : ∀ env v, foldedSetIterable iter env v = pure v := by intro _ _; rfl) :
    Stm w n sc r o (.Assign [.Name y py] (.ListComp elt [⟨.Name v px, iter, [], 0⟩] scope pos) spos) (.next ((y, .list (xs.map g)) :: r) o) := by
  have := Stm.comp1 (elt := elt) (py := py) (spos := spos) (px := px) (pos := pos) (ifs := []) φ ψ hψ xs (fun _ => true) g hi hit hc hz ky (fun _ _ => IfsS.nil) (fun x hx _ => hel x hx) hsw hall hk hx hxi hloc hcell hfree hfold
  rw [List.filter_eq_self.mpr (fun _ _ => rfl)] at this
  exact this
end
noncomputable def toI : D → Int
  | .int i => i
  | _ => 0
noncomputable def toS : D → Str
  | .str s => s
  | _ => Str.empty
noncomputable def toL : D → List D
  | .list ds => ds
  | _ => []
noncomputable def rngI (a c : Int) (k : Nat) : List Int := (List.range k).map fun (j : Nat) => a + c * j
theorem rngI_items (a c : Int) (k : Nat) : rngItems a c k = (rngI a c k).map D.int := by
  unfold rngItems rngI; rw [List.map_map]; rfl
theorem Items.rngJ {a b c : Int} {k : Nat} (h1 : Builtin.Range.small a b c = true) (h2 : Builtin.Range.rangeSize a b c = (k : Nat)) : Items (.rng a b c) ((rngI a c k).map D.int) := by
  rw [← rngI_items]; exact .rng h1 h2
theorem Items.upto {b : Nat} (hb : b < 2 ^ 62) : Items (.rng 0 (b : Int) 1) ((rngI 0 1 b).map D.int) := Items.rngJ (small_one (by decide) (by decide) (by omega) (by omega)) (by rw [rangeSize_one]; split <;> omega)
theorem rngI_upto (b : Nat) : rngI 0 1 b = (List.range b).map fun (j : Nat) => (j : Int) := by
  unfold rngI; congr 1; funext j; omega
theorem filtMap_congr {α β : Type} {f g : α → Option β} : ∀ {l : List α}, (∀ x ∈ l, f x = g x) → l.filterMap f = l.filterMap g
  | [], _ => rfl
  | x :: l, h => by
    rw [List.filterMap_cons, List.filterMap_cons, h x (.head _), filtMap_congr fun y hy => h y (.tail _ hy)]
theorem filterMap_range {α : Type} : ∀ (ds : List α) (m : Nat), (List.range m).filterMap (fun i => ds[i]?) = ds.take m
  | ds, 0 => by simp
  | [], m + 1 => by
    simp
  | d :: ds, m + 1 => by
    rw [List.range_succ_eq_map, List.filterMap_cons, List.filterMap_map, List.take_succ_cons]
    simp only [List.getElem?_cons_zero]
    congr 1
    exact filterMap_range ds m
theorem sliceRange_up {m : Nat} : sliceRange 0 (m : Int) 1 = List.range m := by
  unfold sliceRange
  have : (if (1 : Int) > 0 then (if (0 : Int) < (m : Int) then ((m : Int) - 0 + 1 - 1) / 1 else 0) else (if (0 : Int) > (m : Int) then ((0 : Int) - m - 1 - 1) / (-1) else 0)).toNat = m := by
    rw [if_pos (by decide), Int.ediv_one]
    split <;> omega
  dsimp only
  rw [this]
  conv => rhs; rw [← List.map_id (List.range m)]
  apply List.map_congr_left
  intro j _
  show ((0 : Int) + 1 * (j : Int)).toNat = j
  omega
theorem pick_take {ds : List D} {k : Int} (h0 : 0 ≤ k) : pick ds none (some k) none = ds.take k.toNat := by
  unfold pick
  have e : sliceBounds none (some k) none ds.length = (0, ((min k.toNat ds.length : Nat) : Int), 1) := by
    simp only [sliceBounds, Option.getD_none]
    rw [if_pos (by decide), if_pos (by decide), if_neg (by omega)]
    congr 2
    omega
  rw [e]
  simp only
  rw [sliceRange_up, filterMap_range]
  rcases Nat.le_total k.toNat ds.length with h | h
  · rw [Nat.min_eq_left h]
  · rw [Nat.min_eq_right h, List.take_of_length_le h, List.take_of_length_le (Nat.le_refl _)]
theorem pick_rev {ds : List D} : pick ds none none (some (-1)) = ds.reverse := by
  unfold pick
  have e : sliceBounds none none (some (-1)) ds.length = ((ds.length : Int) - 1, -1, -1) := by
    simp only [sliceBounds, Option.getD_some]
    rw [if_neg (by decide), if_neg (by decide)]
  rw [e]
  simp only
  have e2 : sliceRange ((ds.length : Int) - 1) (-1) (-1) = (List.range ds.length).map fun k => ds.length - 1 - k := by
    unfold sliceRange
    have : (if (-1 : Int) > 0 then (if ((ds.length : Int) - 1) < -1 then (-1 - ((ds.length : Int) - 1) + -1 - 1) / -1 else 0) else (if ((ds.length : Int) - 1) > -1 then (((ds.length : Int) - 1) - -1 - -1 - 1) / (- -1) else 0)).toNat = ds.length := by
      rw [if_neg (by decide)]
      rw [show (- -1 : Int) = 1 from rfl, Int.ediv_one]
      split <;> omega
    dsimp only
    rw [this]
    apply List.map_congr_left
    intro j _
    omega
  rw [e2, List.filterMap_map]
  have e3 : ∀ j ∈ List.range ds.length, ((fun i => ds[i]?) ∘ fun k => ds.length - 1 - k) j = (fun i => ds.reverse[i]?) j := fun j hj => by
    have : j < ds.length := List.mem_range.mp hj
    simp only [Function.comp]
    rw [List.getElem?_reverse this]
  rw [filtMap_congr e3, filterMap_range, List.take_of_length_le (by simp)]
theorem pick_last {ds : List D} : pick ds (some (-1)) none none = ds.drop (ds.length - 1) := by
  unfold pick
  have e : sliceBounds (some (-1)) none none ds.length = (((ds.length - 1 : Nat) : Int), (ds.length : Int), 1) := by
    simp only [sliceBounds, Option.getD_none]
    rw [if_pos (by decide), if_pos (by decide), if_pos (by decide)]
    congr 1
    omega
  rw [e]
  simp only
  have e2 : sliceRange ((ds.length - 1 : Nat) : Int) (ds.length : Int) 1 = (List.range (ds.length - (ds.length - 1))).map fun k => ds.length - 1 + k := by
    unfold sliceRange
    have : (if (1 : Int) > 0 then (if ((ds.length - 1 : Nat) : Int) < (ds.length : Int) then ((ds.length : Int) - ((ds.length - 1 : Nat) : Int) + 1 - 1) / 1 else 0) else (if ((ds.length - 1 : Nat) : Int) > (ds.length : Int) then (((ds.length - 1 : Nat) : Int) - (ds.length : Int) - 1 - 1) / (-1) else 0)).toNat = ds.length - (ds.length - 1) := by
      rw [if_pos (by decide), Int.ediv_one]
      split <;> omega
    dsimp only
    rw [this]
    apply List.map_congr_left
    intro j _
    omega
  rw [e2, List.filterMap_map]
  have e3 : ∀ j ∈ List.range (ds.length - (ds.length - 1)), ((fun i => ds[i]?) ∘ fun k => ds.length - 1 + k) j = (fun i => (ds.drop (ds.length - 1))[i]?) j := fun j hj => by
    simp only [Function.comp]
    rw [List.getElem?_drop]
  rw [filtMap_congr e3, filterMap_range, List.take_of_length_le (by simp)]
noncomputable def pickG {α : Type} (xs : List α) (lo hi st : Option Int) : List α :=
  (sliceRange (sliceBounds lo hi st xs.length).1 (sliceBounds lo hi st xs.length).2.1 (sliceBounds lo hi st xs.length).2.2).filterMap (xs[·]?)
theorem pick_map {α : Type} (φ : α → D) (xs : List α) (lo hi st : Option Int) : pick (xs.map φ) lo hi st = (pickG xs lo hi st).map φ := by
  unfold pick pickG
  rw [List.length_map, List.map_filterMap]
  congr 1
  funext i
  rw [List.getElem?_map]
theorem pickG_len {α : Type} {xs : List α} {lo hi : Option Int} {m : Int} (hm : 1 ≤ m) (hlo : lo = some 0 ∨ lo = some 1) (hhi : hi = none) : (pickG xs lo hi (some m)).length ≤ xs.length := by
  unfold pickG
  refine Nat.le_trans (List.length_filterMap_le _ _) ?_
  subst hhi
  simp only [sliceRange, List.length_map, List.length_range]
  have h1 : ((sliceBounds lo none (some m) xs.length).2.2) = m := rfl
  have h2 : (sliceBounds lo none (some m) xs.length).2.1 = (xs.length : Int) := by
    simp only [sliceBounds, Option.getD_some]; rw [if_pos (by omega)]
  have h3 : 0 ≤ (sliceBounds lo none (some m) xs.length).1 := by
    rcases hlo with e | e <;> subst e <;> simp only [sliceBounds, Option.getD_some] <;> rw [if_pos (by omega : m > 0)] <;> omega
  rw [h1, h2]
  rw [if_pos (by omega : m > 0)]
  split
  · have : ((xs.length : Int) - (sliceBounds lo none (some m) xs.length).1 + m - 1) / m ≤ (xs.length : Int) := by
      generalize (sliceBounds lo none (some m) xs.length).1 = a at *
      rw [Int.ediv_le_iff_le_mul (by omega)]
      have : (xs.length : Int) * 1 ≤ (xs.length : Int) * m := Int.mul_le_mul_of_nonneg_left hm (by omega)
      omega
    omega
  · omega
section
variable {n : Nat} {sc : Scope} {r o : VL} {iter : Expr} {v : Str} {px pos : Pos} {body : List Stmt}
theorem Stm.forName (rs os : Nat → VL) (N : Nat) {di : D} {ds : List D} (hN : ds.length = N) (hi : EvS w n sc r iter di) (hit : Items di ds) (h0 : Sub r (rs 0)) (ho : o = os 0) (hv : ∀ i, StoreOk sc (os i) v)
    (hbody : ∀ i d, i < N → ds[i]? = some d → Blk w n sc ((v, d) :: rs i) (os i) body (.next (rs (i + 1)) (os (i + 1))))
    (hfold : ∀ env v, foldedSetIterable iter env v = pure v := by intro _ _; rfl) : Stm w n sc r o (.For (.Name v px) iter body [] pos) (.next (rs N) (os N)) := by
  subst hN
  refine Stm.for rs os (fun i => (v, ds.getD i .none) :: rs i) hi hit (.inl ⟨_, _, rfl⟩) h0 ho (fun i d hd => ?_) (fun i d hd => ?_) hfold
  · have : ds.getD i .none = d := by rw [List.getD_eq_getElem?_getD, hd]; rfl
    rw [this]; exact TgtS.name (hv i)
  · have : ds.getD i .none = d := by rw [List.getD_eq_getElem?_getD, hd]; rfl
    rw [this]; exact hbody i d (by rw [List.getElem?_eq_some_iff] at hd; exact hd.1) hd
theorem rngItems_get {a c : Int} {k i : Nat} {d : D} (h : (rngItems a c k)[i]? = some d) : d = .int (a + c * i) := by
  unfold rngItems at h
  rw [List.getElem?_map] at h
  cases e : (List.range k)[i]? with
  | none => rw [e] at h; cases h
  | some j =>
    rw [e] at h
    cases h
    have := List.getElem?_eq_some_iff.mp e
    obtain ⟨_, hj⟩ := this
    simp at hj
    rw [hj]
theorem Stm.forRng (rs os : Nat → VL) (N : Nat) {a b c : Int} (hs : Builtin.Range.small a b c = true) (hN : Builtin.Range.rangeSize a b c = (N : Nat)) (hi : EvS w n sc r iter (.rng a b c)) (h0 : Sub r (rs 0)) (ho : o = os 0) (hv : ∀ i, StoreOk sc (os i) v)
    (hbody : ∀ i : Nat, i < N → Blk w n sc ((v, .int (a + c * i)) :: rs i) (os i) body (.next (rs (i + 1)) (os (i + 1))))
    (hfold : ∀ env v, foldedSetIterable iter env v = pure v := by intro _ _; rfl) : Stm w n sc r o (.For (.Name v px) iter body [] pos) (.next (rs N) (os N)) :=
  Stm.forName rs os N (by simp [rngItems]) hi (.rng hs hN) h0 ho hv (fun i d h hd => by rw [rngItems_get hd]; exact hbody i h) hfold
theorem Stm.forRevName {e : Expr} {id : Str} {p cpos : Pos} (rs os : Nat → VL) (N : Nat) {ds : List D} (hN : ds.length = N) (hf : EvS w n sc r (.Name id p) (.raw (.type "reversed"))) (hi : EvS w n sc r e (.list ds)) (h0 : Sub r (rs 0)) (ho : o = os 0) (hv : ∀ i, StoreOk sc (os i) v)
    (hbody : ∀ i d, i < N → ds.reverse[i]? = some d → Blk w n sc ((v, d) :: rs i) (os i) body (.next (rs (i + 1)) (os (i + 1))))
    (hst : ∀ env, starEach [e] env = (false, eval e env) :: starEach [] env := by intro _; rfl) : Stm w n sc r o (.For (.Name v px) (.Call (.Name id p) [e] [] cpos) body [] pos) (.next (rs N) (os N)) := by
  subst hN
  refine Stm.forRev rs os (fun i => (v, ds.reverse.getD i .none) :: rs i) hf hi (.inl ⟨_, _, rfl⟩) h0 ho (fun i d hd => ?_) (fun i d hd => ?_) hst
  · have : ds.reverse.getD i .none = d := by rw [List.getD_eq_getElem?_getD, hd]; rfl
    rw [this]; exact TgtS.name (hv i)
  · have : ds.reverse.getD i .none = d := by rw [List.getD_eq_getElem?_getD, hd]; rfl
    rw [this]; exact hbody i d (by rw [List.getElem?_eq_some_iff] at hd; simpa using hd.1) hd
end
theorem Items.nat {L : Nat} (hL : L < 2 ^ 62) : Items (.rng 0 (L : Int) 1) ((List.range L).map fun j : Nat => D.int (j : Int)) := by
  have := Items.upto hL
  rw [rngI_upto, List.map_map] at this
  exact this
noncomputable def toN (d : D) : Nat := (toI d).toNat
theorem pick_takeI {l : List Int} {k : Nat} : pick (l.map D.int) none (some (k : Int)) none = (l.take k).map D.int := by
  rw [pick_take (by omega)]; simp
end
section
-- F2
variable {w : World}
noncomputable def strk (bits low : Int) (x : Int) : Int := x - ((x.fdiv (2 ^ low.toNat)).fmod (1 * 2 ^ bits.toNat)) * 2 ^ low.toNat
noncomputable def likeI (l : List Int) : Int := (((List.range l.length).map fun k => ((l.take k).count (l.getD k 0) : Int))).sum
noncomputable def nearN (ns : List Int) (bits : Int) (N : Nat) : Int := ((List.range N).map fun (j : Nat) => likeI (ns.map (strk bits (0 + bits * j)))).sum
theorem sum_range_succ (f : Nat → Int) (i : Nat) : ((List.range (i + 1)).map f).sum = ((List.range i).map f).sum + f i := by
  rw [List.range_succ, List.map_append, List.sum_append]; simp
theorem fmod_small (a : Int) {b : Int} (hb : 0 < b) (h : b ≤ 2 ^ 63) : (a.fmod b).natAbs < 2 ^ 64 := by
  have h1 := Int.fmod_nonneg_of_pos a hb
  have h2 := Int.fmod_lt_of_pos a hb
  omega
theorem law_near_S {n : Nat} {ns : List Int} {bits : Int} {N : Nat} (hb : bits = 1 ∧ N = 6 ∨ bits = 2 ∧ N = 3 ∨ bits = 3 ∧ N = 2) (hl : ns.length ≤ 100) : CallS w (n + 1) (.ref 183) [.list (ns.map .int), .int bits] (.int (nearN ns bits N)) := by
  have hb0 : 0 < bits := by omega
  have hb3 : bits ≤ 3 := by omega
  have h2b : (1 : Int) * 2 ^ bits.toNat ≤ 8 ∧ 0 < (1 : Int) * 2 ^ bits.toNat := by
    rcases hb with h | h | h <;> rw [h.1] <;> decide
  refine CallS.fn (p := (183, fdT 20 "_law_near" pmW 182, 182)) (xs := ["numbers", "bits"]) (by walk_at "mem") (by walk_at "fnok") rfl (out := .ret (.int (nearN ns bits N))) rfl
    (Blk.cons (Stm.assign (d := .int 0) (.pure (by walk_at "ev")) (by walk_at "st")) ?_) rfl
  let S : Nat → Int := fun i => ((List.range i).map fun (j : Nat) => likeI (ns.map (strk bits (0 + bits * j)))).sum
  let rs : Nat → VL := fun i => [("pairs", .int (S i)), ("numbers", .list (ns.map .int)), ("bits", .int bits)]
  refine Blk.cons (r' := rs N) (o' := []) (Stm.forRng rs (fun _ => []) N (a := 0) (b := 6) (c := bits) ?hs ?hN ?hi (by walk_at "sub") rfl (fun _ => by walk_at "st") ?bd) (Blk.last (Stm.ret (by walk_at "ev")))
  case hs => rcases hb with h | h | h <;> rw [h.1] <;> decide
  case hN => rcases hb with h | h | h <;> rw [h.1, h.2] <;> decide
  case hi => exact EvS.call (fv := .type "range") (ds := [.int 0, .int 6, .int bits]) (by walk_at "name") KeepOk.typ (by walk_at "evl") (CallS.range3 (by omega) (by omega))
  case bd =>
    intro i hi
    have hlow : 0 ≤ 0 + bits * (i : Int) ∧ 0 + bits * (i : Int) ≤ 1000000 := by
      rcases hb with h | h | h <;> rw [h.1] <;> omega
    refine Blk.cons (Stm.assign (d := .list ((ns.map (strk bits (0 + bits * i))).map .int)) (.pure ?c1) (by walk_at "st") (by walk_at "sw")) ?_
    case c1 =>
      rw [List.map_map]
      refine EvS.compT [("low", .int (0 + bits * i)), ("bits", .int bits)] D.int toI (fun _ => rfl) ns _ (by walk_at "name") .list (by walk_at "capt") (by omega) fun x _ => ?_
      refine EvS.bin (by walk_at "name") (EvS.bin (EvS.bin (EvS.bin (by walk_at "name") (by walk_at "name") (BinS.shr hlow.1)) (EvS.bin EvS.int (by walk_at "name") (BinS.shl (by omega) (by omega) (by decide))) (BinS.fmod (by omega))) (by walk_at "name") (BinS.shl hlow.1 hlow.2 (fmod_small _ h2b.2 (by omega)))) BinS.sub
    refine Blk.weak (Blk.cons (Stm.aug (a := S i) (b := likeI (ns.map (strk bits (0 + bits * i)))) (by rfl) ?c2 (by walk_at "st")) Blk.nil) ?_
    case c2 =>
      generalize hl' : ns.map (strk bits (0 + bits * i)) = l
      have hll : l.length ≤ 100 := by rw [← hl', List.length_map]; exact hl
      have e2 : likeI l = ((((List.range l.length).map fun k => ((l.take k).count (l.getD k 0) : Int)))).sum := rfl
      rw [e2]
      refine EvS.call (fv := .builtin "sum") (ds := [.list (((List.range l.length).map fun k => ((l.take k).count (l.getD k 0) : Int)).map .int)]) (by walk_at "name") KeepOk.bui (EvL.cons ?lc EvL.nil (by intro _; rfl)) CallS.sum
      case lc =>
        rw [List.map_map]
        refine EvS.compT [("struck", .list (l.map .int))] (fun j : Nat => D.int (j : Int)) toN (fun j => by simp [toN, toI]) (List.range l.length) _ ?it (Items.nat (by omega)) (by walk_at "capt") (by simp; omega) fun k hk => ?_
        case it =>
          refine EvS.call (fv := .type "range") (by walk_at "name") KeepOk.typ (EvL.cons (EvS.call (fv := .builtin "len") (by walk_at "name") KeepOk.bui (by walk_at "evl") (CallS.len (ds := l.map .int) (by simp; omega))) EvL.nil (by intro _; rfl)) ?_
          rw [List.length_map]
          exact CallS.range1
        have hk' : k < l.length := List.mem_range.mp hk
        refine EvS.meth (T := "list") (d0 := .list ((l.take k).map .int)) (ds := [.int (l.getD k 0)]) ?sl rfl F.plainAttrs_list F.slot_list_count F.type_list_count (EvL.cons ?ix EvL.nil (by intro _; rfl)) CallS.count
        case sl =>
          rw [← pick_takeI]
          exact EvS.slice (by walk_at "name") .none (.some (by walk_at "name")) .none nofun (by simp [sizeLine]; omega)
        case ix =>
          refine EvS.item (ds := l.map .int) (k := k) (by walk_at "name") (by walk_at "name") (by omega) ?_ (by simp; omega)
          rw [Int.toNat_natCast, List.getElem?_map, List.getD_eq_getElem?_getD, List.getElem?_eq_getElem hk']
          rfl
    have e : S (i + 1) = S i + likeI (ns.map (strk bits (0 + bits * i))) := sum_range_succ _ i
    show Sub _ [("pairs", .int (S (i + 1))), ("numbers", .list (ns.map .int)), ("bits", .int bits)]
    rw [e]
    walk_at "sub"
end
section
-- F3
variable {w : World}
noncomputable def DivOk (w : World) (n : Nat) : Prop := ∀ a b : Int, 0 ≤ a → a < 2 ^ 250 → 0 < b → b < 2 ^ 30 → CallS w n (.ref 77) [.int a, .int b] (.tup [.int (a.fdiv b), .int (a.fmod b)])
noncomputable def fterm (many bits low : Int) : Int :=
  let base := (1 : Int) * 2 ^ bits.toNat
  let bl := base * 2 ^ low.toNat
  let ol := (1 : Int) * 2 ^ low.toNat
  (many.fdiv bl * (base * (base - 1)).fdiv 2) * 2 ^ low.toNat + (((many.fmod bl).fdiv ol) * (((many.fmod bl).fdiv ol) - 1)).fdiv 2 * 2 ^ low.toNat + ((many.fmod bl).fdiv ol) * ((many.fmod bl).fmod ol)
noncomputable def firstN (many bits : Int) (N : Nat) : Int := ((List.range N).map fun (j : Nat) => fterm many bits (0 + bits * j)).sum
theorem law_first_S {n : Nat} (hD : DivOk w (n + 1)) {many : Nat} {bits : Int} {N : Nat} (hb : bits = 1 ∧ N = 6 ∨ bits = 2 ∧ N = 3 ∨ bits = 3 ∧ N = 2) (hm : many ≤ 8) : CallS w (n + 2) (.ref 190) [.int (many : Int), .int bits] (.int (firstN many bits N)) := by
  have hb0 : 0 < bits := by omega
  have hb3 : bits ≤ 3 := by omega
  have h2b : (1 : Int) * 2 ^ bits.toNat ≤ 8 ∧ 0 < (1 : Int) * 2 ^ bits.toNat := by
    rcases hb with h | h | h <;> rw [h.1] <;> decide
  have hpow : ∀ i : Nat, i < N → (1 : Int) * 2 ^ bits.toNat * 2 ^ (0 + bits * (i : Int)).toNat ≤ 64 ∧ 0 < (1 : Int) * 2 ^ bits.toNat * 2 ^ (0 + bits * (i : Int)).toNat ∧ (1 : Int) * 2 ^ (0 + bits * (i : Int)).toNat ≤ 64 ∧ 0 < (1 : Int) * 2 ^ (0 + bits * (i : Int)).toNat := by
    intro i hi
    rcases hb with h | h | h <;> rw [h.2] at hi <;> rw [h.1]
    · have : i = 0 ∨ i = 1 ∨ i = 2 ∨ i = 3 ∨ i = 4 ∨ i = 5 := by omega
      rcases this with e | e | e | e | e | e <;> subst e <;> decide
    · have : i = 0 ∨ i = 1 ∨ i = 2 := by omega
      rcases this with e | e | e <;> subst e <;> decide
    · have : i = 0 ∨ i = 1 := by omega
      rcases this with e | e <;> subst e <;> decide
  have hft0 : ∀ low : Int, fterm many bits low = fterm many bits low := fun _ => rfl
  obtain ⟨base, hbs⟩ : ∃ b, (1 : Int) * 2 ^ bits.toNat = b := ⟨_, rfl⟩
  rw [hbs] at h2b
  refine CallS.fn (p := (190, fdT 21 "_law_first" pmW 189, 189)) (xs := ["many", "bits"]) (by walk_at "mem") (by walk_at "fnok") rfl (out := .ret (.int (firstN many bits N))) rfl
    (Blk.cons (Stm.assignW (xs := ["figures", "base"]) (ds := [.int 0, .int base]) (.pure (EvS.tupD (EvL.cons EvS.int (EvL.cons (by rw [← hbs]; exact EvS.bin EvS.int (by walk_at "name") (BinS.shl (by omega) (by omega) (by decide))) EvL.nil (by intro _; rfl)) (by intro _; rfl)) (by simp [sizeLine]))) ?hk rfl ?hw) ?_) rfl
  case hk => intro x hx; simp at hx; rcases hx with rfl | rfl <;> walk_at "st"
  case hw => 
    intro env hs
    cases env; cases hs; rfl
  let S : Nat → Int := fun i => ((List.range i).map fun (j : Nat) => fterm many bits (0 + bits * j)).sum
  let rs : Nat → VL := fun i => [("figures", .int (S i)), ("base", .int base), ("many", .int many), ("bits", .int bits)]
  refine Blk.cons (r' := rs N) (o' := []) (Stm.forRng rs (fun _ => []) N (a := 0) (b := 6) (c := bits) ?hs ?hN ?hi (by walk_at "sub") rfl (fun _ => by walk_at "st") ?bd) (Blk.last (Stm.ret (by walk_at "ev")))
  case hs => rcases hb with h | h | h <;> rw [h.1] <;> decide
  case hN => rcases hb with h | h | h <;> rw [h.1, h.2] <;> decide
  case hi => exact EvS.call (fv := .type "range") (ds := [.int 0, .int 6, .int bits]) (by walk_at "name") KeepOk.typ (by walk_at "evl") (CallS.range3 (by omega) (by omega))
  case bd =>
    intro i hi
    have hlow : 0 ≤ 0 + bits * (i : Int) ∧ 0 + bits * (i : Int) ≤ 1000000 := by
      rcases hb with h | h | h <;> rw [h.1] <;> omega
    have hpow := hpow i hi
    rw [hbs] at hpow
    generalize hlw : 0 + bits * (i : Int) = low at *
    have hbase : (0 : Int) < base := h2b.2
    generalize hol : (1 : Int) * 2 ^ low.toNat = ol at *
    have hbl0 := hpow.2.1
    generalize hbl : base * 2 ^ low.toNat = bl at *
    have q1 := Int.fdiv_nonneg (a := (many : Int)) (b := bl) (by omega) (by omega)
    have q2 : (many : Int).fdiv bl ≤ many := by
      rw [Int.fdiv_eq_ediv_of_nonneg _ (by omega)]
      exact Int.ediv_le_self _ (by omega)
    have q3 := Int.fmod_nonneg_of_pos (many : Int) hbl0
    have q4 := Int.fmod_lt_of_pos (many : Int) hbl0
    generalize hr : (many : Int).fdiv bl = rounds at *
    generalize hr2 : (many : Int).fmod bl = rest at *
    have q5 := Int.fdiv_nonneg (a := rest) (b := ol) (by omega) (by omega)
    have q6 : rest.fdiv ol ≤ rest := by
      rw [Int.fdiv_eq_ediv_of_nonneg _ (by omega)]
      exact Int.ediv_le_self _ (by omega)
    have q7 := Int.fmod_nonneg_of_pos rest hpow.2.2.2
    have q8 := Int.fmod_lt_of_pos rest hpow.2.2.2
    have hft : fterm many bits low = (rounds * (base * (base - 1)).fdiv 2) * 2 ^ low.toNat + ((rest.fdiv ol) * ((rest.fdiv ol) - 1)).fdiv 2 * 2 ^ low.toNat + (rest.fdiv ol) * (rest.fmod ol) := by
      unfold fterm
      simp only [hbs, hol, hbl, hr, hr2]
    generalize hf1 : rest.fdiv ol = figure at *
    generalize hf2 : rest.fmod ol = left at *
    have b1 : 0 ≤ base * (base - 1) ∧ base * (base - 1) ≤ 64 := by
      have h1 : base * (base - 1) ≤ 8 * 8 := Int.mul_le_mul (by omega) (by omega) (by omega) (by decide)
      exact ⟨Int.mul_nonneg (by omega) (by omega), h1⟩
    generalize hbb : base * (base - 1) = bb at *
    have b2 : 0 ≤ bb.fdiv 2 ∧ bb.fdiv 2 ≤ 64 := by
      rw [Int.fdiv_eq_ediv_of_nonneg _ (by decide)]; omega
    generalize hbb2 : bb.fdiv 2 = b2' at *
    have b3 : 0 ≤ rounds * b2' ∧ rounds * b2' ≤ 8 * 64 := ⟨Int.mul_nonneg (by omega) (by omega), Int.mul_le_mul (by omega) (by omega) (by omega) (by decide)⟩
    have b4 : 0 ≤ figure * (figure - 1) ∨ figure * (figure - 1) = 0 := by
      rcases Int.lt_or_le figure 1 with h | h
      · right; have : figure = 0 := by omega
        rw [this]; rfl
      · left; exact Int.mul_nonneg (by omega) (by omega)
    have b5 : figure * (figure - 1) ≤ 64 * 64 := by
      rcases Int.lt_or_le figure 1 with h | h
      · have : figure = 0 := by omega
        rw [this]; decide
      · exact Int.mul_le_mul (by omega) (by omega) (by omega) (by decide)
    generalize hff : figure * (figure - 1) = ff at *
    have b6 : 0 ≤ ff.fdiv 2 ∧ ff.fdiv 2 ≤ 64 * 64 := by
      rw [Int.fdiv_eq_ediv_of_nonneg _ (by decide)]; omega
    refine Blk.weak (Blk.cons (Stm.assignT (r' := ("rest", .int rest) :: ("rounds", .int rounds) :: ("low", .int low) :: rs i) (d := .tup [.int rounds, .int rest]) rfl (.pure ?d1) (TgtS.tuple (xs := ["rounds", "rest"]) (.cons (.cons .nil)) ?k1 rfl) (fun _ _ => rfl))
      (Blk.cons (Stm.assignT (r' := ("left", .int left) :: ("figure", .int figure) :: ("rest", .int rest) :: ("rounds", .int rounds) :: ("low", .int low) :: rs i) (d := .tup [.int figure, .int left]) rfl (.pure ?d2) (TgtS.tuple (xs := ["figure", "left"]) (.cons (.cons .nil)) ?k2 rfl) (fun _ _ => rfl))
      (Blk.cons (Stm.aug (a := S i) (b := fterm many bits low) (by rfl) ?c2 (by walk_at "st")) Blk.nil))) ?w
    case k1 => intro x hx; simp at hx; rcases hx with rfl | rfl <;> walk_at "st"
    case k2 => intro x hx; simp at hx; rcases hx with rfl | rfl <;> walk_at "st"
    case d1 =>
      refine EvS.call (fv := .ref 77) (ds := [.int many, .int bl]) (by walk_at "name") (KeepOk.fn (p := (77, fdT 12 "_divmod_pos" pmP 76, 76)) (by walk_at "mem")) (EvL.cons (by walk_at "name") (EvL.cons ?_ EvL.nil (by intro _; rfl)) (by intro _; rfl)) ?_
      · rw [← hbl]; exact EvS.bin (by walk_at "name") (by walk_at "name") (BinS.shl hlow.1 hlow.2 (by omega))
      · have := hD (many : Int) bl (by omega) (by omega) hbl0 (by omega)
        rw [hr, hr2] at this; exact this
    case d2 =>
      refine EvS.call (fv := .ref 77) (ds := [.int rest, .int ol]) (by walk_at "name") (KeepOk.fn (p := (77, fdT 12 "_divmod_pos" pmP 76, 76)) (by walk_at "mem")) (EvL.cons (by walk_at "name") (EvL.cons ?_ EvL.nil (by intro _; rfl)) (by intro _; rfl)) ?_
      · rw [← hol]; exact EvS.bin EvS.int (by walk_at "name") (BinS.shl hlow.1 hlow.2 (by decide))
      · have := hD rest ol (by omega) (by omega) hpow.2.2.2 (by omega)
        rw [hf1, hf2] at this; exact this
    case c2 =>
      rw [hft]
      refine EvS.bin (EvS.bin (EvS.bin (EvS.bin (by walk_at "name") ?e1 (BinS.mul (.inl (by omega)))) (by walk_at "name") (BinS.shl hlow.1 hlow.2 (by omega))) (EvS.bin ?e2 (by walk_at "name") (BinS.shl hlow.1 hlow.2 (by omega))) BinS.add) (EvS.bin (by walk_at "name") (by walk_at "name") (BinS.mul (.inl (by omega)))) BinS.add
      case e1 =>
        rw [← hbb2, ← hbb]
        exact EvS.bin (EvS.bin (by walk_at "name") (EvS.bin (by walk_at "name") EvS.int BinS.sub) (BinS.mul (.inl (by omega)))) EvS.int (BinS.fdiv (by decide) (by decide))
      case e2 =>
        rw [← hff]
        exact EvS.bin (EvS.bin (by walk_at "name") (EvS.bin (by walk_at "name") EvS.int BinS.sub) (BinS.mul (.inl (by omega)))) EvS.int (BinS.fdiv (by decide) (by decide))
    case w =>
      have e : S (i + 1) = S i + fterm many bits low := by
        have := sum_range_succ (fun (j : Nat) => fterm many bits (0 + bits * j)) i
        simp only [hlw] at this
        exact this
      show Sub _ [("figures", .int (S (i + 1))), ("base", .int base), ("many", .int many), ("bits", .int bits)]
      rw [e]
      walk_at "sub"
end
section
-- D4
variable {w : World}
section
variable {n : Nat} {sc : Scope} {r o : VL}
theorem Stm.reverse {x : Str} {p apos pos spos : Pos} {ds : List D} (hx : (x, .list ds) ∈ o) (hd : (x == ("__debug__" : Str)) = false) (hl : ds.length ≤ sizeLine)
    (hline : (apos.endLine == pos.line) = true := by rfl) (hbase : ∀ env, attributeBase (.Name x p) "reverse" env (eval (.Name x p) env) = eval (.Name x p) env := by intro _; rfl) :
    Stm w n sc r o (.Expr (.Call (.Attribute (.Name x p) "reverse" apos) [] [] pos) spos) (.next r (setO x (.list ds.reverse) o)) := fun A n₀ X₀ Wb sb env s hs R S => by
  obtain ⟨ad, S⟩ := S
  have hi : interactive env = false := by
    unfold interactive; rw [S.vars.kind]; rfl
  refine wpAny_Expr ?_ hi
  obtain ⟨g1, g2, g3⟩ := S.own _ hx
  obtain ⟨vs, k, ha, hr⟩ := g2
  have e1 := hr.length
  simp only [Array.length_toList] at e1
  refine wpAny_Call_method (hbase env) rfl hline F.plainAttrs_list F.slot_list_reverse F.type_list_reverse (S.ownVal hx hd ⟨⟨_, ha, rfl⟩, fun a e => by cases e; exact ⟨_, ha, rfl⟩, ?_⟩)
  refine Calls.callWith_builtin rfl (PySem.evalArgs_none ?_)
  refine call_meets F.slot_list_reverse ⟨_, ha, rfl⟩ F.entry_list_reverse (F.args_list_reverse_1 _) (AutoSeq1.list_reverse_list_0 (ad x) vs k (by rw [e1]; exact hl)) ⟨ha, ?_⟩
  refine ⟨ad, S.change (tk := s.toks) hx (fun b ob hb e => ((Heap.SameBut.update ..).2 b hb).trans e) ⟨vs.reverse, k, ?_, ?_⟩⟩
  · have e : Obj.mapSeq (fun x => x.reverse) (LObj vs k) = LObj vs.reverse k := by
      simp [Obj.mapSeq]
    have := Heap.get?_update_self (h := s.heap) (a := ad x) (Obj.mapSeq fun x => x.reverse) ha (by rw [e]; rfl)
    rw [e] at this
    exact this
  · have sk : SK (OX X₀ o ad) s.heap (s.heap.update (ad x) (Obj.mapSeq fun x => x.reverse)) := fun b ob e c hb => ((Heap.SameBut.update ..).2 b fun z => hb (z ▸ .inr ⟨_, hx, rfl⟩)).trans e
    simpa using (hr.keep sk).reverse
end
end
section
-- M0
open PySem PySem.W PyProof.Rows
theorem snoc_ind {α : Type} {P : List α → Prop} (h0 : P []) (hs : ∀ l a, P l → P (l ++ [a])) (l : List α) : P l := by
  have key : ∀ l : List α, P l.reverse := by
    intro l
    induction l with
    | nil => exact h0
    | cons a l ih => rw [List.reverse_cons]; exact hs _ _ ih
  have := key l.reverse
  rwa [List.reverse_reverse] at this
noncomputable def valI (k : Nat) : List Int → Int
  | [] => 0
  | d :: ds => d + 2 ^ k * valI k ds
noncomputable def horI (k : Nat) (l : List Int) : Int := l.foldl (fun acc d => acc * 2 ^ k + d) 0
theorem valI_append (k : Nat) : ∀ (a b : List Int), valI k (a ++ b) = valI k a + 2 ^ (k * a.length) * valI k b
  | [], b => by simp [valI]
  | d :: a, b => by
    show d + 2 ^ k * valI k (a ++ b) = (d + 2 ^ k * valI k a) + 2 ^ (k * (a.length + 1)) * valI k b
    rw [valI_append k a b, Nat.mul_add, Nat.mul_one, Nat.add_comm (k * a.length) k, Int.pow_add, Int.mul_add]
    rw [Int.mul_assoc]; omega
theorem horI_snoc (k : Nat) (l : List Int) (d : Int) : horI k (l ++ [d]) = horI k l * 2 ^ k + d := by
  unfold horI; rw [List.foldl_append]; rfl
theorem valI_reverse (k : Nat) (l : List Int) : valI k l.reverse = horI k l := by
  have key : ∀ (l : List Int), valI k l = horI k l.reverse := by
    intro l
    induction l with
    | nil => rfl
    | cons d l ih =>
      rw [List.reverse_cons, horI_snoc, ← ih]
      show d + 2 ^ k * valI k l = _
      rw [Int.mul_comm]; omega
  rw [key, List.reverse_reverse]
noncomputable def bitlen (a : Nat) : Nat := if a = 0 then 0 else a.log2 + 1
noncomputable def digN (k a : Nat) : Nat := (bitlen a + k - 1) / k
noncomputable def digs (k a : Nat) : List Int := (List.range (digN k a)).map fun j => ((a / 2 ^ (k * j) % 2 ^ k : Nat) : Int)
theorem lt_bitlen (a : Nat) : a < 2 ^ bitlen a := by
  unfold bitlen
  split
  · subst_vars; decide
  · exact Nat.lt_log2_self
theorem digN_le {k a : Nat} (hk : 0 < k) : bitlen a ≤ k * digN k a := by
  unfold digN
  have := Nat.div_add_mod (bitlen a + k - 1) k
  have h2 := Nat.mod_lt (bitlen a + k - 1) hk
  omega
theorem lt_digN {k a : Nat} (hk : 0 < k) : a < 2 ^ (k * digN k a) := Nat.lt_of_lt_of_le (lt_bitlen a) (Nat.pow_le_pow_right (by decide) (digN_le hk))
theorem valI_digits {k : Nat} : ∀ (m a : Nat), a < 2 ^ (k * m) → valI k ((List.range m).map fun j => ((a / 2 ^ (k * j) % 2 ^ k : Nat) : Int)) = a
  | 0, a, h => by
    have : a = 0 := by simpa using h
    subst this; rfl
  | m + 1, a, h => by
    rw [List.range_succ_eq_map, List.map_cons, List.map_map]
    show ((a / 2 ^ (k * 0) % 2 ^ k : Nat) : Int) + 2 ^ k * valI k _ = a
    have e : (List.range m).map ((fun j => ((a / 2 ^ (k * j) % 2 ^ k : Nat) : Int)) ∘ Nat.succ) = (List.range m).map fun j => (((a / 2 ^ k) / 2 ^ (k * j) % 2 ^ k : Nat) : Int) := by
      apply List.map_congr_left
      intro j _
      show ((a / 2 ^ (k * (j + 1)) % 2 ^ k : Nat) : Int) = _
      rw [Nat.mul_add, Nat.mul_one, Nat.add_comm (k * j) k, Nat.pow_add, Nat.div_div_eq_div_mul]
    rw [e, valI_digits m (a / 2 ^ k) ?_]
    · rw [Nat.mul_zero, Nat.pow_zero, Nat.div_one]
      have := Nat.mod_add_div a (2 ^ k)
      have h3 : ((a % 2 ^ k + 2 ^ k * (a / 2 ^ k) : Nat) : Int) = (a : Int) := by rw [this]
      rw [← h3]; push_cast; omega
    · rw [Nat.div_lt_iff_lt_mul (Nat.pow_pos (by decide)), ← Nat.pow_add]
      have : k * m + k = k * (m + 1) := by rw [Nat.mul_add, Nat.mul_one]
      rw [this]; exact h
theorem valI_digs {k a : Nat} (hk : 0 < k) : valI k (digs k a) = a := valI_digits _ _ (lt_digN hk)
theorem digs_lt {k a : Nat} : ∀ d ∈ digs k a, 0 ≤ d ∧ d < 2 ^ k := fun d hd => by
  unfold digs at hd
  obtain ⟨j, _, rfl⟩ := List.mem_map.mp hd
  have := Nat.mod_lt (a / 2 ^ (k * j)) (Nat.pow_pos (n := k) (show 0 < 2 by decide))
  constructor
  · omega
  · have h : (((a / 2 ^ (k * j) % 2 ^ k : Nat)) : Int) < ((2 ^ k : Nat) : Int) := by omega
    simpa using h
theorem digs_len {k a : Nat} : (digs k a).length = digN k a := by simp [digs]
noncomputable def dstep (k : Nat) (b : Int) (s : Int × List Int) (d : Int) : Int × List Int := ((s.1 * 2 ^ k + d).fmod b, s.2 ++ [(s.1 * 2 ^ k + d).fdiv b])
noncomputable def drun (k : Nat) (b : Int) (l : List Int) : Int × List Int := l.foldl (dstep k b) (0, [])
theorem drun_snoc (k : Nat) (b : Int) (l : List Int) (d : Int) : drun k b (l ++ [d]) = dstep k b (drun k b l) d := by
  unfold drun; rw [List.foldl_append]; rfl
theorem drun_spec {k : Nat} {b : Int} (hb : 0 < b) : ∀ l : List Int, (∀ d ∈ l, 0 ≤ d ∧ d < 2 ^ k) →
    horI k (drun k b l).2 * b + (drun k b l).1 = horI k l ∧ 0 ≤ (drun k b l).1 ∧ (drun k b l).1 < b ∧ (drun k b l).2.length = l.length ∧ (∀ q ∈ (drun k b l).2, 0 ≤ q ∧ q < 2 ^ k) := by
  refine snoc_ind ?_ ?_
  · intro _; exact ⟨by simp [drun, horI], Int.le_refl _, hb, rfl, fun q hq => by simp [drun] at hq⟩
  · intro l d ih hl
    obtain ⟨i1, i2, i3, i4, i5⟩ := ih fun x hx => hl x (List.mem_append_left _ hx)
    obtain ⟨d1, d2⟩ := hl d (List.mem_append_right _ (.head _))
    rw [drun_snoc]
    generalize hst : drun k b l = st at *
    obtain ⟨r, qs⟩ := st
    simp only [dstep] at *
    have hp : (0 : Int) < 2 ^ k := Int.pow_pos (by decide)
    have h0 : 0 ≤ r * 2 ^ k + d := Int.add_nonneg (Int.mul_nonneg i2 (Int.le_of_lt hp)) d1
    have h1 := Int.mul_fdiv_add_fmod (r * 2 ^ k + d) b
    refine ⟨?_, Int.fmod_nonneg_of_pos _ hb, Int.fmod_lt_of_pos _ hb, by simp [i4], fun q hq => ?_⟩
    · rw [horI_snoc, horI_snoc, ← i1, Int.add_mul, Int.add_mul]
      generalize (r * 2 ^ k + d).fdiv b = Q at *
      generalize (r * 2 ^ k + d).fmod b = R at *
      have e1 : horI k qs * 2 ^ k * b = horI k qs * b * 2 ^ k := by
        rw [Int.mul_assoc, Int.mul_comm (2 ^ k) b, ← Int.mul_assoc]
      rw [e1]
      have e2 : Q * b = b * Q := Int.mul_comm _ _
      rw [e2]; omega
    · rcases List.mem_append.mp hq with hq | hq
      · exact i5 q hq
      · rw [List.mem_singleton] at hq
        subst hq
        refine ⟨Int.fdiv_nonneg h0 (Int.le_of_lt hb), ?_⟩
        rw [Int.fdiv_eq_ediv_of_nonneg _ (Int.le_of_lt hb)]
        refine Int.ediv_lt_of_lt_mul hb ?_
        have h3 : (r + 1) * 2 ^ k ≤ b * 2 ^ k := Int.mul_le_mul_of_nonneg_right (by omega) (Int.le_of_lt hp)
        rw [Int.add_mul, Int.one_mul, Int.mul_comm b] at h3
        omega
theorem drun_div {k a : Nat} {b : Int} (hk : 0 < k) (hb : 0 < b) : valI k (drun k b (digs k a).reverse).2.reverse = (a : Int).fdiv b ∧ (drun k b (digs k a).reverse).1 = (a : Int).fmod b := by
  have h := drun_spec (k := k) hb (digs k a).reverse fun d hd => digs_lt d (List.mem_reverse.mp hd)
  obtain ⟨h1, h2, h3, _⟩ := h
  rw [← valI_reverse k (digs k a).reverse, List.reverse_reverse, valI_digs hk] at h1
  rw [valI_reverse]
  generalize (drun k b (digs k a).reverse) = st at *
  obtain ⟨r, qs⟩ := st
  simp only at *
  generalize horI k qs = Q at *
  have e1 : (a : Int).fdiv b = Q := by
    rw [Int.fdiv_eq_ediv_of_nonneg _ (Int.le_of_lt hb), ← h1]
    rw [Int.add_comm, Int.add_mul_ediv_right _ _ (by omega), Int.ediv_eq_zero_of_lt h2 h3]; omega
  refine ⟨e1.symm, ?_⟩
  have := Int.mul_fdiv_add_fmod (a : Int) b
  rw [e1, Int.mul_comm] at this
  omega
end
section
-- F4
variable {w : World}
noncomputable def DigOk (w : World) (n : Nat) : Prop := ∀ a k : Nat, a < 2 ^ 250 → 1 ≤ k → k ≤ 250 → CallS w n (.ref 63) [.int a, .int k] (.list ((digs k a).map .int))
noncomputable def ValOk (w : World) (n : Nat) : Prop := ∀ (k : Nat) (ds : List Int), 1 ≤ k → k ≤ 250 → ds.length ≤ 250 → (∀ d ∈ ds, 0 ≤ d ∧ d < 2 ^ 250) → CallS w n (.ref 70) [.list (ds.map .int), .int k] (.int (valI k ds))
theorem bitlen_le {a m : Nat} (h : a < 2 ^ m) : bitlen a ≤ m := by
  unfold bitlen
  split
  · exact Nat.zero_le _
  · rename_i h0
    have := Nat.log2_self_le h0
    have h2 : 2 ^ a.log2 < 2 ^ m := Nat.lt_of_le_of_lt this h
    have := (Nat.pow_lt_pow_iff_right (a := 2) (by decide)).mp h2
    omega
theorem digN_small {k a m : Nat} (hk : 1 ≤ k) (h : a < 2 ^ m) : digN k a ≤ m := by
  have := bitlen_le h
  unfold digN
  rcases Nat.eq_zero_or_pos (bitlen a) with e | e
  · rw [e, Nat.div_eq_of_lt (by omega)]; omega
  · rw [Nat.div_le_iff_le_mul_add_pred (by omega)]
    have : bitlen a ≤ k * m := Nat.le_trans this (Nat.le_mul_of_pos_left _ (by omega))
    omega
theorem intBits_pos {b : Int} (h : 0 < b) : 1 ≤ Builtin.Int.intBits b := by
  unfold Builtin.Int.intBits
  have : (b == 0) = false := by simpa using (show b ≠ 0 by omega)
  rw [this]; simp
theorem setO_one {x : Str} {d d' : D} : setO x d' [(x, d)] = [(x, d')] := by
  unfold setO; simp
theorem divmod_pos_S {n : Nat} (hI : DigOk w (n + 1)) (hV : ValOk w (n + 1)) : DivOk w (n + 2) := by
  intro a b ha ha2 hb hb2
  obtain ⟨a, rfl⟩ := Int.eq_ofNat_of_zero_le ha
  have ha3 : a < 2 ^ 250 := by
    have : ((2 ^ 250 : Nat) : Int) = 2 ^ 250 := by norm_cast
    omega
  have hk1 := intBits_pos hb
  have hk2 : Builtin.Int.intBits b ≤ 30 := intBits_le (by omega)
  obtain ⟨k, hk⟩ : ∃ k, Builtin.Int.intBits b = k := ⟨_, rfl⟩
  rw [hk] at hk1 hk2
  have hlen : (digs k a).length ≤ 250 := by rw [digs_len]; exact digN_small hk1 ha3
  obtain ⟨dl, hdl⟩ : ∃ dl, digs k a = dl := ⟨_, rfl⟩
  have hdd : ∀ d ∈ dl, 0 ≤ d ∧ d < 2 ^ k := by rw [← hdl]; exact digs_lt
  have hp30 : (2 : Int) ^ k ≤ 2 ^ 30 := by
    have h : (2 : Nat) ^ k ≤ 2 ^ 30 := Nat.pow_le_pow_right (by decide) hk2
    have : ((2 ^ k : Nat) : Int) ≤ ((2 ^ 30 : Nat) : Int) := by omega
    simpa using this
  have hres := drun_div (a := a) (b := b) (by omega) hb (k := k)
  rw [hdl] at hres hlen
  have sp := fun l hl => drun_spec (k := k) hb l hl
  let rs : Nat → VL := fun i => [("r", .int (drun k b (dl.reverse.take i)).1), ("a_digits", .list (dl.map .int)), ("n", .int k), ("a", .int a), ("b", .int b)]
  let os : Nat → VL := fun i => [("q_digits", .list ((drun k b (dl.reverse.take i)).2.map .int))]
  refine CallS.fn (p := (77, fdT 12 "_divmod_pos" pmP 76, 76)) (xs := ["a", "b"]) (by walk_at "mem") (by walk_at "fnok") rfl (out := .ret (.tup [.int ((a : Int).fdiv b), .int ((a : Int).fmod b)])) rfl
    (Blk.cons (Stm.assign (d := .int k) (.pure ?e1) (by walk_at "st") (by walk_at "sw"))
    (Blk.cons (Stm.assign (d := .list (dl.map .int)) (.pure ?e2) (by walk_at "st") (by walk_at "sw"))
    (Blk.cons (Stm.assign (d := .int 0) (.pure EvS.int) (by walk_at "st") (by walk_at "sw"))
    (Blk.cons (Stm.newList (ds := []) EvL.nil (fun _ h => nomatch h) (by decide) (by rfl) (by decide) (fun _ h => nomatch h) (by rfl))
    (Blk.cons (r' := rs dl.length) (o' := os dl.length) (Stm.forRevName rs os dl.length (ds := dl.map .int) (by simp) (by walk_at "name") (by walk_at "name") (by walk_at "sub") rfl (fun _ => by walk_at "st") ?bd)
    (Blk.cons (Stm.reverse (ds := (drun k b dl.reverse).2.map .int) ?mem (by rfl) ?ln)
    (Blk.cons (Stm.assign (d := .int ((a : Int).fdiv b)) (.frz ?e3 .int) (by walk_at "st") (by walk_at "sw"))
    (Blk.last (Stm.ret ?e4))))))))) rfl
  case e1 =>
    rw [← hk]
    exact EvS.meth0 (by walk_at "name") rfl F.plainAttrs_int F.slot_int_bit_length F.type_int_bit_length CallS.bitLength
  case e2 =>
    refine EvS.call (fv := .ref 63) (by walk_at "name") (KeepOk.fn (p := (63, fdT 10 "_int2digits" pmP 62, 62)) (by walk_at "mem")) (by walk_at "evl") ?_
    have := hI a k ha3 hk1 (by omega)
    rw [hdl] at this; exact this
  case bd =>
    intro i d hi hd
    rw [← List.map_reverse, List.getElem?_map] at hd
    have hi' : i < dl.reverse.length := by simpa using hi
    rw [List.getElem?_eq_getElem hi'] at hd
    cases hd
    obtain ⟨x, hx⟩ : ∃ x, dl.reverse[i] = x := ⟨_, rfl⟩
    rw [hx]
    have hxm : x ∈ dl := by rw [← hx]; exact List.mem_reverse.mp (List.getElem_mem _)
    obtain ⟨x1, x2⟩ := hdd x hxm
    have htk : dl.reverse.take (i + 1) = dl.reverse.take i ++ [x] := by rw [List.take_succ_eq_append_getElem hi', hx]
    obtain ⟨s1, s2, s3, s4, s5⟩ := sp (dl.reverse.take i) fun y hy => hdd y (List.mem_reverse.mp (List.mem_of_mem_take hy))
    have hdr : drun k b (dl.reverse.take (i + 1)) = dstep k b (drun k b (dl.reverse.take i)) x := by rw [htk, drun_snoc]
    show Blk w (n + 1) _ (("a_digit", .int x) :: rs i) (os i) _ (.next (rs (i + 1)) (os (i + 1)))
    have ers : rs (i + 1) = ([("r", .int (dstep k b (drun k b (dl.reverse.take i)) x).1), ("a_digits", .list (dl.map .int)), ("n", .int k), ("a", .int a), ("b", .int b)] : VL) := by
      show ([("r", _), _, _, _, _] : VL) = _; rw [hdr]
    have eos : os (i + 1) = ([("q_digits", .list ((dstep k b (drun k b (dl.reverse.take i)) x).2.map .int))] : VL) := by
      show ([("q_digits", _)] : VL) = _; rw [hdr]
    rw [ers, eos]
    show Blk w (n + 1) _ [("a_digit", .int x), ("r", .int (drun k b (dl.reverse.take i)).1), ("a_digits", .list (dl.map .int)), ("n", .int k), ("a", .int a), ("b", .int b)] [("q_digits", .list ((drun k b (dl.reverse.take i)).2.map .int))] _ _
    have hl2 : (drun k b (dl.reverse.take i)).2.length ≤ 250 := by rw [s4, List.length_take]; simp; omega
    generalize hst : drun k b (dl.reverse.take i) = st at *
    obtain ⟨r, qs⟩ := st
    simp only [dstep] at *
    have hm1 : r * 2 ^ k ≤ 2 ^ 30 * 2 ^ 30 := Int.mul_le_mul (by omega) hp30 (Int.le_of_lt (Int.pow_pos (by decide))) (by decide)
    have hm0 : 0 ≤ r * 2 ^ k := Int.mul_nonneg s2 (Int.le_of_lt (Int.pow_pos (by decide)))
    have hbb : (Builtin.Int.intBits (r * 2 ^ k + x) : Int) - k ≤ 4000 := by
      have := intBits_le_64 (k := r * 2 ^ k + x) (by omega) (by omega)
      omega
    have hap : os (i + 1) = os (i + 1) := rfl
    refine Blk.weak (Blk.cons (Stm.assignT (r' := [("r", .int ((r * 2 ^ k + x).fmod b)), ("q_digit", .int ((r * 2 ^ k + x).fdiv b)), ("a_digit", .int x), ("r", .int r), ("a_digits", .list (dl.map .int)), ("n", .int k), ("a", .int a), ("b", .int b)]) (d := .tup [.int ((r * 2 ^ k + x).fdiv b), .int ((r * 2 ^ k + x).fmod b)]) rfl (.pure ?d1) (TgtS.tuple (xs := ["q_digit", "r"]) (.cons (.cons .nil)) ?k1 rfl) (fun _ _ => rfl))
      (Blk.cons (r' := [("r", .int ((r * 2 ^ k + x).fmod b)), ("q_digit", .int ((r * 2 ^ k + x).fdiv b)), ("a_digit", .int x), ("r", .int r), ("a_digits", .list (dl.map .int)), ("n", .int k), ("a", .int a), ("b", .int b)]) (o' := [("q_digits", .list ((qs ++ [(r * 2 ^ k + x).fdiv b]).map .int))]) ?ap Blk.nil)) ?sb
    case sb => walk_at "sub"
    case k1 => intro y hy; simp at hy; rcases hy with rfl | rfl <;> walk_at "st"
    case d1 =>
      refine EvS.call (fv := .ref 49) (ds := [.int (r * 2 ^ k + x), .int b, .int k]) (by walk_at "name") (KeepOk.fn (p := (49, fdT 8 "_div2n1n" pmP 48, 48)) (by walk_at "mem")) (EvL.cons ?_ (by walk_at "evl") (by intro _; rfl)) (div2n1n_S hbb (by omega) (by omega))
      have := BinS.shl (w := w) (n := n + 1) (a := r) (b := (k : Int)) (by omega) (by omega) (by omega)
      rw [Int.toNat_natCast] at this
      exact EvS.bin (EvS.bin (by walk_at "name") (by walk_at "name") this) (by walk_at "name") BinS.add
    case ap =>
      have e : ([("q_digits", D.list ((qs ++ [(r * 2 ^ k + x).fdiv b]).map D.int))] : VL) = setO "q_digits" (D.list (qs.map D.int ++ [D.int ((r * 2 ^ k + x).fdiv b)])) [("q_digits", D.list (qs.map D.int))] := by
        rw [setO_one, List.map_append]; rfl
      rw [e]
      exact Stm.append (.pure (by walk_at "name")) (.head _) (by rfl) (by simp [sizeLine]; omega)
  case mem =>
    show (_ : Str × D) ∈ ([("q_digits", .list ((drun k b (dl.reverse.take dl.length)).2.map .int))] : VL)
    rw [show dl.reverse.take dl.length = dl.reverse from List.take_of_length_le (by simp)]
    exact .head _
  case ln =>
    obtain ⟨s1, s2, s3, s4, s5⟩ := sp dl.reverse fun y hy => hdd y (List.mem_reverse.mp hy)
    simp [sizeLine, s4]; omega
  case e3 =>
    have ht : dl.reverse.take dl.length = dl.reverse := List.take_of_length_le (by simp)
    obtain ⟨s1, s2, s3, s4, s5⟩ := sp dl.reverse fun y hy => hdd y (List.mem_reverse.mp hy)
    have h := hV k (drun k b dl.reverse).2.reverse (by omega) (by omega) (by simp [s4]; omega) fun d hd => by
      have := s5 d (List.mem_reverse.mp hd)
      omega
    rw [hres.1] at h
    show EvS w (n + 1) _ (setO _ _ [("q_digits", .list ((drun k b (dl.reverse.take dl.length)).2.map .int))] ++ _) _ _
    rw [ht, setO_one, ← List.map_reverse]
    exact EvS.call (fv := .ref 70) (by walk_at "name") (KeepOk.fn (p := (70, fdT 11 "_digits2int" pmP 69, 69)) (by walk_at "mem")) (by walk_at "evl") h
  case e4 =>
    have ht : dl.reverse.take dl.length = dl.reverse := List.take_of_length_le (by simp)
    have er : rs dl.length = ([("r", .int ((a : Int).fmod b)), ("a_digits", .list (dl.map .int)), ("n", .int k), ("a", .int a), ("b", .int b)] : VL) := by
      show ([("r", _), _, _, _, _] : VL) = _; rw [ht, hres.2]
    rw [er]
    show EvS w (n + 1) _ (setO _ _ [("q_digits", .list ((drun k b (dl.reverse.take dl.length)).2.map .int))] ++ _) _ _
    rw [ht, setO_one]
    walk_at "ev"
end
section
-- D5
variable {w : World}
set_option maxHeartbeats 4000000
noncomputable def leS (a b : Str) : Bool := !decide (b.cps.toList < a.cps.toList)
theorem leS_total (a b : Str) : (leS a b || leS b a) = true := by
  unfold leS
  by_cases h : b.cps.toList < a.cps.toList
  · have := List.lt_asymm h
    rw [decide_eq_true h, decide_eq_false this]; rfl
  · rw [decide_eq_false h]; rfl
theorem leS_iff {a b : Str} : leS a b = true ↔ ¬ b.cps.toList < a.cps.toList := by
  unfold leS
  by_cases h : b.cps.toList < a.cps.toList
  · rw [decide_eq_true h]; simp only [Bool.not_true, Bool.false_eq_true, false_iff]; exact fun q => q h
  · rw [decide_eq_false h]; simp only [Bool.not_false, true_iff]; exact h
theorem leS_trans (a b c : Str) (h1 : leS a b = true) (h2 : leS b c = true) : leS a c = true := by
  rw [leS_iff] at *
  intro h
  rcases strKind.negTrans c.cps.toList b.cps.toList a.cps.toList (decide_eq_true h) with q | q
  · exact h2 (of_decide_eq_true q)
  · exact h1 (of_decide_eq_true q)
theorem leS_anti (a b : Str) (h1 : leS a b = true) (h2 : leS b a = true) : a = b := by
  rw [leS_iff] at *
  have := strKind.total a.cps.toList b.cps.toList (decide_eq_false h2) (decide_eq_false h1)
  apply Str.ext'
  exact Array.toList_inj.mp this
noncomputable def srt (ss : List Str) : List Str := ss.mergeSort leS
theorem srt_eq {ss ss' : List Str} (hp : ss'.Perm ss) (hs : ss'.Pairwise fun a b => leS a b = true) : ss' = srt ss :=
  List.Perm.eq_of_pairwise (fun a b _ _ h1 h2 => leS_anti a b h1 h2) hs (List.pairwise_mergeSort leS_trans leS_total ss) (hp.trans (List.mergeSort_perm ss leS).symm)
theorem srt_len {ss : List Str} : (srt ss).length = ss.length := (List.mergeSort_perm ss leS).length_eq
theorem strs_zip_out {keys : Array Value} {vs : List Value} {ss : List Str} (hk : StrsAre keys.toList ss) (hv : StrsAre vs ss) {xs : Array Keyed} (hp : xs.Perm (keys.zip vs.toArray)) (hs : SortedToK strKind xs xs.size) :
    StrsAre (xs.map (·.2)).toList (srt ss) := by
  have hl : xs.toList.Perm (keys.toList.zip vs) := by rw [← ksk_zip]; exact Array.perm_iff_toList_perm.mp hp
  have hmem : ∀ p, p ∈ keys.toList.zip vs → ∃ x t u, p = (Value.str x t, Value.str x u) := by
    have : ∀ {ks vs : List Value} {ss : List Str}, StrsAre ks ss → StrsAre vs ss → ∀ p, p ∈ ks.zip vs → ∃ x t u, p = (Value.str x t, Value.str x u) := by
      intro ks vs ss h1
      induction h1 generalizing vs with
      | nil => intro _ p hp; simp at hp
      | cons x t h1 ih =>
        intro h2 p hp
        cases h2 with
        | cons _ u h2 =>
          rw [List.zip_cons_cons] at hp
          rcases List.mem_cons.mp hp with e | hp
          · exact ⟨x, t, u, e⟩
          · exact ih h2 p hp
    exact this hk hv
  have hm2 : ∀ p, p ∈ xs.toList → ∃ x t u, p = (Value.str x t, Value.str x u) := fun p h => hmem p (hl.mem_iff.mp h)
  have hall : StrsAre (xs.map (·.2)).toList ((xs.map (·.2)).toList.map strOf) := strsAre_map _ fun v hv' => by
    rw [Array.toList_map] at hv'
    obtain ⟨p, hp', rfl⟩ := List.mem_map.mp hv'
    obtain ⟨x, t, u, rfl⟩ := hm2 p hp'
    exact ⟨x, u, rfl⟩
  have e : (xs.map (·.2)).toList.map strOf = srt ss := by
    refine srt_eq ?_ ?_
    · rw [Array.toList_map, List.map_map]
      have h1 := hl.map (fun p : Keyed => strOf p.2)
      have h2 : (keys.toList.zip vs).map (fun p : Keyed => strOf p.2) = ss := by
        have hlen : vs.length ≤ keys.toList.length := by
          have a := hk.strs; have b := hv.strs
          have a' := congrArg List.length a; have b' := congrArg List.length b
          rw [List.length_map] at a' b'; omega
        have : (keys.toList.zip vs).map (fun p : Keyed => strOf p.2) = ((keys.toList.zip vs).map Prod.snd).map strOf := by rw [List.map_map]; rfl
        rw [this, List.map_snd_zip hlen, hv.strs]
      rw [h2] at h1
      exact h1
    · rw [List.pairwise_iff_getElem]
      intro i j hi hj hij
      have hi' : i < xs.size := by simpa using hi
      have hj' : j < xs.size := by simpa using hj
      have h1 := hs i j (Nat.le_of_lt hij) hj'
      obtain ⟨x, t, u, ex⟩ := hm2 xs[i] (by simp)
      obtain ⟨y, t', u', ey⟩ := hm2 xs[j] (by simp)
      rw [KK_str hi' ex, KK_str hj' ey] at h1
      rw [leS_iff]
      have h2 : ¬ (y.cps.toList < x.cps.toList) := of_decide_eq_false h1
      simp only [List.getElem_map, Array.getElem_toList, Array.getElem_map]
      rw [ex, ey]
      exact h2
  rw [e] at hall
  exact hall
theorem strsAre_rpl {X : Addr → Prop} {h : Heap} : ∀ {vs : List Value} {ss : List Str}, StrsAre vs ss → RpL X h (ss.map D.str) vs
  | _, _, .nil => RpL.nil
  | _, _, .cons x t hh => RpL.cons ⟨t, rfl⟩ (strsAre_rpl hh)
theorem strsAre_snoc {x : Str} {t : Tok} : ∀ {vs : List Value} {ss : List Str}, StrsAre vs ss → StrsAre (vs ++ [.str x t]) (ss ++ [x])
  | _, _, .nil => .cons x t .nil
  | _, _, .cons y u h => .cons y u (strsAre_snoc h)
theorem strsAre_get : ∀ {vs : List Value} {ss : List Str}, StrsAre vs ss → ∀ {j : Nat} {v : Value}, vs[j]? = some v → ∃ x t, ss[j]? = some x ∧ v = .str x t
  | _, _, .nil, j, v, h => by simp at h
  | _, _, .cons x t hh, 0, v, h => by simp at h; exact ⟨x, t, rfl, h.symm⟩
  | _, _, .cons x t hh, j + 1, v, h => by obtain ⟨y, u, e1, e2⟩ := strsAre_get hh (j := j) (by simpa using h); exact ⟨y, u, by simpa using e1, e2⟩
theorem strsAre_len : ∀ {vs : List Value} {ss : List Str}, StrsAre vs ss → vs.length = ss.length
  | _, _, .nil => rfl
  | _, _, .cons x t hh => by simp [strsAre_len hh]
section
variable {n : Nat} {A : Around} {s : Shared} {X : Addr → Prop} {a kS : Addr} {vs : List Value} {ss : List Str} {keys : Array Value} {e e1 : Nat} {P : PySem.Fin → Shared → Prop}
structure SortSt0 (s : Shared) (a kS : Addr) (keys : Array Value) (e e1 : Nat) (s' : Shared) : Prop where
  eff : Eff s s'
  inv : Inv s'.heap
  na : s'.heap.get? a = some (LObj #[] e1)
  nk : s'.heap.get? kS = some (LObj keys e)
  a0 : s.heap.get? a = none
  k0 : s.heap.get? kS = none
  ak : kS ≠ a
  big : 196 ≤ a ∧ 196 ≤ kS
theorem SortSt0.upd {s' : Shared} (S : SortSt0 s a kS keys e e1 s') {b : Addr} {h' : Heap} (hb : Heap.SameBut b s'.heap h') (h0 : s.heap.get? b = none) (h196 : 196 ≤ b) (hq : ∀ o, s'.heap.get? b = some o → ¬ codish o) : Eff s { s' with heap := h' } ∧ Inv h' :=
  ⟨⟨S.eff.os, S.eff.gens, S.eff.bare, fun c ob ec t m => (hb.2 c fun z => by rw [z, h0] at ec; cases ec).trans (S.eff.keep c ob ec t m)⟩, S.inv.same h196 hb hq⟩
theorem sort_tail {st : SortSt} {s' : Shared} (S : SortSt0 s a kS keys e e1 s') (hk : StrsAre keys.toList ss) (hv : StrsAre vs ss) (h64 : vs.length < 64) (hp : (arrOf st).Perm (keys.zip vs.toArray)) (hs : SortedToK strKind (arrOf st) (arrOf st).size) (hfl : failedOf st = none)
    (h : ∀ h' tk out c, Eff s { s' with heap := h', toks := tk } → Inv h' → h'.get? a = some (LObj out c) → StrsAre out.toList (srt ss) → P (.done (.ret .none)) { s' with heap := h', toks := tk }) :
    wpAny (model PRG w) A (ksk_tail a false e1 (.ref kS) st) P (fun _ _ => False) s' := by
  have hks := strsAre_len hk
  have hvs := strsAre_len hv
  rw [Array.length_toList] at hks
  have hva : vs.toArray.size = vs.length := by simp
  have hsz2 : (arrOf st).size = vs.length := by rw [hp.size_eq, Array.size_zip, hva]; omega
  have s1 := Heap.SameBut.update s'.heap kS (Obj.mapSeq fun _ => (#[] : Array Value))
  have na1 : (s'.heap.update kS (Obj.mapSeq fun _ => (#[] : Array Value))).get? a = some (LObj #[] e1) := (s1.2 a S.ak.symm).trans S.na
  have s2 := Heap.SameBut.update (s'.heap.update kS (Obj.mapSeq fun _ => (#[] : Array Value))) a (Obj.mapSeq fun _ => (arrOf st).map (·.2))
  obtain ⟨c2, hc2⟩ : ∃ c2, ((s'.heap.update kS (Obj.mapSeq fun _ => (#[] : Array Value))).update a (Obj.mapSeq fun _ => (arrOf st).map (·.2))).get? a = some (LObj ((arrOf st).map (·.2)) c2) :=
    ⟨_, get?_update_seq na1 fun _ => (arrOf st).map (·.2)⟩
  unfold ksk_tail
  try dsimp only
  refine wpAny_bind (listUpdate_at S.nk rfl ?_ (by rw [sizeLine_eq]; omega) (Nat.zero_le _))
  refine wpAny_bind (wpAny_letGo ?_)
  refine wpAny_bind (seqEpoch_at na1 rfl ?_)
  refine wpAny_bind (listUpdate_at na1 rfl ?_ (Nat.zero_le _) (by simp only [Bool.false_eq_true, if_false, Array.size_map]; rw [hsz2, sizeLine_eq]; omega))
  rw [hfl]
  simp only [bne_self_eq_false, Bool.false_eq_true, if_false]
  obtain ⟨E1, I1⟩ := S.upd s1 S.k0 S.big.2 (seq_notCod S.nk rfl)
  refine wpAny_pure (h _ s'.toks _ c2 ⟨E1.os, E1.gens, E1.bare, fun c ob ec t m => (s2.2 c fun z => ?_).trans (E1.keep c ob ec t m)⟩ (I1.same S.big.1 s2 (seq_notCod na1 rfl)) hc2 (strs_zip_out hk hv hp hs))
  rw [z, S.a0] at ec; cases ec
theorem sort_end {s' : Shared} (S : SortSt0 s a kS keys e e1 s') (hk : StrsAre keys.toList ss) (hv : StrsAre vs ss) (h64 : vs.length < 64)
    (h : ∀ h' tk out c, Eff s { s' with heap := h', toks := tk } → Inv h' → h'.get? a = some (LObj out c) → StrsAre out.toList (srt ss) → P (.done (.ret .none)) { s' with heap := h', toks := tk }) :
    wpAny (model PRG w) A (ksk_end a false vs.toArray e1 (.ref kS) keys) P (fun _ _ => False) s' := by
  have hks := strsAre_len hk
  have hvs := strsAre_len hv
  rw [Array.length_toList] at hks
  have hva : vs.toArray.size = vs.length := by simp
  have hzs : (keys.zip vs.toArray).size = vs.length := by rw [Array.size_zip, hva]; omega
  unfold ksk_end
  try dsimp only
  simp only [Bool.false_eq_true, if_false]
  by_cases h2 : vs.toArray.size < 2
  · rw [if_pos h2, if_pos h2]
    refine wpAny_bind (wpAny_pure ?_)
    rw [StateT.run_pure]
    refine wpAny_bind (wpAny_pure ?_)
    try dsimp only
    refine sort_tail (st := SortSt.mk' general' (keys.zip vs.toArray) #[] 7 none) S hk hv h64 (Array.Perm.refl _) ?_ rfl h
    intro i j hij hj
    have hj2 : j < (keys.zip vs.toArray).size := hj
    rw [hzs] at hj2
    rw [List.size_toArray] at h2
    have : i = j := by omega
    subst this
    exact KeyOrd.kle_refl _
  · rw [if_neg h2, if_neg h2]
    rw [List.size_toArray] at h2
    have hkk : keyKind' keys = pure oneType' := by
      obtain ⟨v₁, v₂, rest, e⟩ : ∃ v₁ v₂ rest, keys.toList = v₁ :: v₂ :: rest := by
        have hl : 2 ≤ keys.toList.length := by rw [Array.length_toList]; omega
        cases q : keys.toList with
        | nil => rw [q] at hl; simp at hl
        | cons v₁ r =>
          cases r with
          | nil => rw [q] at hl; simp at hl
          | cons v₂ rest => exact ⟨v₁, v₂, rest, rfl⟩
      have ek : keys = (v₁ :: v₂ :: rest).toArray := by rw [← e, Array.toArray_toList]
      rw [e] at hk
      rw [ek]
      exact keyKind_strs hk
    rw [hkk]
    refine wpAny_bind (wpAny_pure ?_)
    have hko : KeysOf strKind (keys.zip vs.toArray) := by
      intro p hp
      rw [ksk_zip] at hp
      obtain ⟨x, y⟩ := p
      obtain ⟨z, t, e⟩ := hk.all _ (List.of_mem_zip hp).1
      exact ⟨z.cps.toList, by show strKind.keyOf x = _; rw [e]⟩
    refine wpAny_bind (wpAny_mono (wpS_sortRunsK (κ := strKind) (a₀ := keys.zip vs.toArray) (st := SortSt.mk' oneType' (keys.zip vs.toArray) #[] 7 none)
      (Q := fun _ st' => (arrOf st').Perm (keys.zip vs.toArray) ∧ failedOf st' = none ∧ SortedToK strKind (arrOf st') (keys.zip vs.toArray).size)
      strKind_oneLt hko ⟨Array.Perm.refl _, rfl, rfl, rfl⟩ (by rw [hzs]; omega) (by rw [hzs]; exact h64) fun st' a1 a2 a3 => ⟨a1, a2, a3⟩) ?_ fun _ _ e => e)
    rintro ⟨⟨⟩, st'⟩ s2 ⟨rfl, hp, hf, hs⟩
    try dsimp only
    exact sort_tail S hk hv h64 hp (by rw [hp.size_eq]; exact hs) hf h
end
end
section
-- D6
variable {w : World}
set_option maxHeartbeats 4000000
section
variable {n : Nat} {A : Around} {s : Shared} {X : Addr → Prop} {a kS : Addr} {vs : List Value} {ss : List Str} {keys : Array Value} {e e1 : Nat} {P : PySem.Fin → Shared → Prop}
theorem SortSt0.step {s' s'' : Shared} (S : SortSt0 s a kS keys e e1 s') (E : Eff s' s'') (I : Inv s''.heap) : SortSt0 s a kS keys e e1 s'' :=
  ⟨S.eff.trans E, I, E.keep _ _ S.na (S.inv.notTab S.na (.inl nofun)) fun z => z, E.keep _ _ S.nk (S.inv.notTab S.nk (.inl nofun)) fun z => z, S.a0, S.k0, S.ak, S.big⟩
theorem sort_rest {fv : Value} {s' : Shared} (hf : ∀ x : Str, CallS w n fv [.str x] (.str x)) (R : Rm n A) (B : XB X s.heap) (S : SortSt0 s a kS #[] e e1 s') (hv : StrsAre vs ss) (h64 : vs.length < 64)
    (h : ∀ s'' out c, Eff s s'' → Inv s''.heap → s''.heap.get? a = some (LObj out c) → StrsAre out.toList (srt ss) → P (.done (.ret .none)) s'') :
    wpAny (model PRG w) A (ksk_rest a fv false vs.toArray e1 (.ref kS)) P (fun _ _ => False) s' := by
  have hvl := strsAre_len hv
  unfold ksk_rest
  refine wpAny_bind (wpAny_rule ?_)
  first
    | rw [List.forIn_toArray]
    | (rw [← Array.forIn_toList]; simp only [List.toList_toArray])
    | rw [← Array.forIn_toList]
  refine wpAny_bind (ksk_fold (fun i s' => ∃ kA e, SortSt0 s a kS kA e e1 s' ∧ StrsAre kA.toList (ss.take i)) vs 0 s' ⟨#[], e, S, by simpa using StrsAre.nil⟩ ?step ?done)
  case step =>
    rintro j x s₁ hx ⟨kA, e, S₁, hk⟩
    simp only [Nat.zero_add] at hk ⊢
    obtain ⟨y, t, hy, rfl⟩ := strsAre_get hv hx
    have hj : j < ss.length := (List.getElem?_eq_some_iff.mp hy).1
    have hz : kA.size ≤ vs.length := by
      have h1 := strsAre_len hk
      rw [Array.length_toList, List.length_take] at h1
      omega
    refine wpAny_bind (wpAny_attempt (wpAny_mono (hf y A s₁ X [.str y t] R S₁.inv (B.eff S₁.eff) (RpL.cons ⟨t, rfl⟩ RpL.nil)) (fun v s₂ he => ?_) fun _ _ hF => hF.elim))
    obtain ⟨E₂, I₂, t2, rfl⟩ := he
    have S₂ := S₁.step E₂ I₂
    try dsimp only
    have s1 := Heap.SameBut.update s₂.heap kS (Obj.mapSeq (·.push (.str y t2)))
    obtain ⟨c2, hc2⟩ : ∃ c2, (s₂.heap.update kS (Obj.mapSeq (·.push (.str y t2)))).get? kS = some (LObj (kA.push (.str y t2)) c2) := ⟨_, get?_update_seq S₂.nk (·.push (.str y t2))⟩
    have ek : ss.take (j + 1) = ss.take j ++ [y] := by rw [List.take_add_one, hy]; simp
    have ea : (kA.push (Value.str y t2)).toList = kA.toList ++ [Value.str y t2] := by simp
    obtain ⟨E3, I3⟩ := S₂.upd s1 S.k0 S.big.2 (seq_notCod S₂.nk rfl)
    refine wpAny_bind (listUpdate_at S₂.nk rfl ?_ (by rw [sizeLine_eq]; omega) (Nat.le_trans (Nat.le_of_eq (Array.size_push ..)) (by rw [sizeLine_eq]; omega)))
    exact wpAny_pure ⟨rfl, kA.push (.str y t2), c2, ⟨E3, I3, (s1.2 a S.ak.symm).trans S₂.na, hc2, S.a0, S.k0, S.ak, S.big⟩, by rw [ea, ek]; exact strsAre_snoc hk⟩
  case done =>
    rintro s₁ ⟨kA, e, S₁, hk⟩
    have hk' : StrsAre kA.toList ss := by
      have e3 : ss.take (0 + vs.length) = ss := List.take_of_length_le (by omega)
      rw [e3] at hk
      exact hk
    try dsimp only
    refine wpAny_bind (listItems_at S₁.nk rfl ?_)
    exact sort_end S₁ hk' hv h64 fun h3 tk3 out c F3 I3 g3 k3 => h _ out c F3 I3 g3 k3
theorem sort_tree {fv : Value} {k0 : Nat} {s' : Shared} (hf : ∀ x : Str, CallS w n fv [.str x] (.str x)) (R : Rm n A) (B : XB X s.heap) (E : Eff s s') (I : Inv s'.heap) (ho : s'.heap.get? a = some (LObj vs.toArray k0)) (ha : s.heap.objs.size ≤ a) (hsz : s.heap.objs.size ≤ s'.heap.objs.size) (hb : 196 ≤ s.heap.objs.size) (hv : StrsAre vs ss) (h64 : vs.length < 64)
    (h : ∀ s'' out c, Eff s s'' → Inv s''.heap → s''.heap.get? a = some (LObj out c) → StrsAre out.toList (srt ss) → P (.done (.ret .none)) s'') :
    wpAny (model PRG w) A (ksk_tree a fv false) P (fun _ _ => False) s' := by
  have hal : a < s'.heap.objs.size := Heap.lt_size ho
  have s1 := Heap.SameBut.update s'.heap a (Obj.mapSeq fun _ => (#[] : Array Value))
  obtain ⟨e1, ho1⟩ : ∃ e1, (s'.heap.update a (Obj.mapSeq fun _ => (#[] : Array Value))).get? a = some (LObj #[] e1) := ⟨_, get?_update_seq ho fun _ => #[]⟩
  have ha0 : s.heap.get? a = none := Heap.get?_none_of_le ha
  have hu : (s'.heap.update a (Obj.mapSeq fun _ => (#[] : Array Value))).objs.size = s'.heap.objs.size := Heap.size_update ..
  have hkS : ((s'.heap.update a (Obj.mapSeq fun _ => (#[] : Array Value))).push (TObj vs.toArray 0)).objs.size = s'.heap.objs.size + 1 := by rw [Heap.size_push, hu]
  have k1 : s.heap.objs.size ≤ ((s'.heap.update a (Obj.mapSeq fun _ => (#[] : Array Value))).push (TObj vs.toArray 0)).objs.size := Nat.le_trans (Nat.le_succ_of_le hsz) (Nat.le_of_eq hkS.symm)
  have k2 : ((s'.heap.update a (Obj.mapSeq fun _ => (#[] : Array Value))).push (TObj vs.toArray 0)).objs.size ≠ a := fun z => absurd hal (Nat.not_lt.mpr ((hkS.symm.trans z) ▸ Nat.le_succ _))
  unfold ksk_tree
  refine wpAny_bind (listItems_at ho rfl ?_)
  refine wpAny_bind (listUpdate_at ho rfl ?_ (by rw [List.size_toArray, sizeLine_eq]; omega) (Nat.zero_le _))
  refine wpAny_bind (seqEpoch_at ho1 rfl ?_)
  refine wpAny_bind (wpAny_newTuple ?_ (by show vs.length ≤ _; rw [sizeLine_eq]; omega))
  refine wpAny_bind (wpAny_newList ?_ (Nat.zero_le _))
  refine wpAny_holding ?_
  have I1 : Inv (s'.heap.update a (Obj.mapSeq fun _ => (#[] : Array Value))) := I.same (Nat.le_trans hb ha) s1 (seq_notCod ho rfl)
  refine sort_rest (e := 0) (e1 := e1) hf R B (s' := { s' with heap := ((s'.heap.update a (Obj.mapSeq fun _ => (#[] : Array Value))).push (TObj vs.toArray 0)).push (LObj #[] 0) }) (kS := ((s'.heap.update a (Obj.mapSeq fun _ => (#[] : Array Value))).push (TObj vs.toArray 0)).objs.size)
    ⟨⟨E.os, E.gens, E.bare, fun c ob ec t m => Heap.get?_push_of_some _ (Heap.get?_push_of_some _ ((s1.2 c fun z => by rw [z, ha0] at ec; cases ec).trans (E.keep c ob ec t m)))⟩, (I1.push _).push _, Heap.get?_push_of_some _ (Heap.get?_push_of_some _ ho1), Heap.get?_push_size _ rfl, ha0, Heap.get?_none_of_le k1, k2, ⟨Nat.le_trans hb ha, Nat.le_trans hb k1⟩⟩ hv h64 h
theorem sorted_key {fv : Value} (hfv : (∃ q, fv = .ref q)) {l : Addr} {k0 : Nat} (hf : ∀ x : Str, CallS w n fv [.str x] (.str x)) (R : Rm (n + 2) A) (I : Inv s.heap) (B : XB X s.heap) (hl : s.heap.get? l = some (LObj vs.toArray k0)) (hv : StrsAre vs ss) (h64 : vs.length < 64) :
    wpAny (model PRG w) A (call (.builtin "sorted") [.ref l] [(Str.ofString "key", fv)]) (fun v s' => EvP X s (.list ((srt ss).map .str)) v s') (fun _ _ => False) s := by
  obtain ⟨q, rfl⟩ := hfv
  have R2 : Rm n A.in1.in1 := Rm.in1 (Rm.in1 R)
  refine call_function_entry_kw kind_sorted plain_sorted entry_sorted (ksk_s1 _ _) ?_
  unfold Builtin.«sorted»
  refine wpAny_bind (m := checkCount "sorted" 1 1 _) (wpAny_pure ?_)
  refine wpAny_bind (collect_list (LObj.isList hl) ?_ (by rw [sizeLine_eq]; omega))
  refine wpAny_bind (wpAny_newList ?_ (by rw [sizeLine_eq]; omega))
  have hsz : ((s.heap.push (LObj #[] 0)).update s.heap.objs.size (Obj.mapSeq (· ++ vs.toArray))).objs.size = s.heap.objs.size + 1 := by
    rw [Heap.size_update, Heap.size_push]
  have hoL : (((s.heap.push (LObj #[] 0)).update s.heap.objs.size (Obj.mapSeq (· ++ vs.toArray))).push (LObj vs.toArray 0)).get? (s.heap.objs.size + 1) = some (LObj vs.toArray 0) := by
    rw [← hsz]; exact Heap.get?_push_size _ rfl
  have keep : ∀ b o, s.heap.get? b = some o → (((s.heap.push (LObj #[] 0)).update s.heap.objs.size (Obj.mapSeq (· ++ vs.toArray))).push (LObj vs.toArray 0)).get? b = some o := fun b o q => by
    have hlt : b < s.heap.objs.size := Heap.lt_size q
    rw [Heap.get?_push_ne _ _ _ (by rw [hsz]; exact Nat.ne_of_lt (Nat.lt_succ_of_lt hlt)), Heap.get?_update_ne _ _ _ _ (Nat.ne_of_lt hlt), Heap.get?_push_ne _ _ _ (Nat.ne_of_lt hlt)]
    exact q
  show wpAny _ _ _ _ _ { s with heap := ((s.heap.push (LObj #[] 0)).update s.heap.objs.size (Obj.mapSeq (· ++ vs.toArray))).push (LObj vs.toArray 0) }
  rw [hsz]
  refine wpAny_bind (wpAny_holding (wpAny_call_entry_kw slot_list_sort ⟨_, hoL, rfl⟩ entry_list_sort ?body (ksk_l1 _ _)))
  case body =>
    show wpAny (model PRG w) A.in1.in1 (Builtin.«list.sort» ⟨[.ref (s.heap.objs.size + 1)], [(Str.ofString "key", .ref q)]⟩) _ _ _
    rw [ksk_t1]
    refine sort_tree (s := s) hf R2 B (s' := { s with heap := ((s.heap.push (LObj #[] 0)).update s.heap.objs.size (Obj.mapSeq (· ++ vs.toArray))).push (LObj vs.toArray 0) }) (Eff.of_keeps (tk := s.toks) keep) (I.keeps keep) hoL (Nat.le_succ _) (by show _ ≤ (Heap.push _ _).objs.size; rw [Heap.size_push, hsz]; omega) I.big hv h64 fun s'' out c E2 I2 g2 hs2 => ⟨_, rfl, ?_⟩
    refine wpAny_pure ⟨_, rfl, E2, I2, ?_⟩
    unfold Rp
    refine ⟨_, out, c, rfl, fun x => ?_, g2, strsAre_rpl hs2⟩
    obtain ⟨_, o, e⟩ := B _ x
    exact absurd (Heap.lt_size e) (Nat.not_lt.mpr (Nat.le_succ _))
end
end
section
-- F5
variable {w : World}
section
variable {n : Nat} {sc : Scope} {r : VL}
theorem EvS.sortedKey {p pos p3 : Pos} {ke : Expr} {e : Expr} {q : Addr} {ss : List Str} (hf : EvS w (n + 2) sc r (.Name "sorted" p) (.raw (.builtin "sorted"))) (he : EvS w (n + 2) sc r e (.list (ss.map .str))) (hk : EvS w (n + 2) sc r ke (.raw (.ref q)))
    (hq : ∀ x : Str, CallS w n (.ref q) [.str x] (.str x)) (h64 : ss.length < 64) (hst : ∀ env, starEach [e] env = [(false, eval e env)] := by intro _; rfl) :
    EvS w (n + 2) sc r (.Call (.Name "sorted" p) [e] [⟨some (Str.ofString "key"), ke, p3⟩] pos) (.list ((srt ss).map .str)) := fun A s env X hs R I V => by
  refine wpAny_Call_Name_kw (wpAny_mono (hf A s env X hs R I V) (fun v s₁ g => ?_) fun _ _ z => z)
  obtain ⟨q1, I₁, q3⟩ := g
  cases (show v = _ from q3)
  have V₁ := V.eff q1 I
  have e1 : backTo pos (starEach [e] env) = [(false, eval e env)] := by rw [hst env]; rfl
  have e2 : backToKw pos (keywordEach [⟨some (Str.ofString "key"), ke, p3⟩] env) = [(some (Str.ofString "key"), do let v ← eval ke env; standAt pos; pure v)] := rfl
  rw [e1, e2]
  refine callWith_of (P := Inv) rfl KeepOk.bui (evalArgs_kw rfl (Calls.spliced_cons (wpAny_mono (he A s₁ env X hs R I₁ V₁) (fun x s₂ g2 => Calls.spliced_nil ?_) fun _ _ z => z)))
  refine wpAny_evalAll_cons (wpAny_bind (wpAny_mono (hk A s₂ env X hs R g2.2.1 (V₁.eff g2.1 I₁)) (fun y s₃ g3 => ?_) fun _ _ z => z))
  obtain ⟨E3, I₃, g3'⟩ := g3
  cases (show y = _ from g3')
  refine wpAny_bind (wpAny_standAt (wpAny_pure (wpAny_evalAll_nil ⟨I₃, ?_⟩)))
  have g4 := g2.2.2.keep (E3.sk g2.2.1)
  unfold Rp at g4
  obtain ⟨l, vs, k0, rfl, hx, hl, hr⟩ := g4
  have hlen := hr.length
  refine wpAny_mono (sorted_key (vs := vs.toList) ⟨q, rfl⟩ hq R I₃ ((V₁.bnd.eff g2.1).eff E3) (by simpa using hl) (strs_of hr) (by rw [hlen]; simpa using h64)) (fun v s₄ z => (z.trans ((q1.trans g2.1).trans E3) : EvP X s _ v s₄)) fun _ _ z => z
end
noncomputable def runA (l : List Str) : Nat → Int
  | 0 => 0
  | i + 1 => if sgn (l.getD i Str.empty) (l.getD (i + 1) Str.empty) = 0 then runA l i + 1 else 0
noncomputable def runP (l : List Str) (i : Nat) : Int := ((List.range i).map fun m => runA l (m + 1)).sum
noncomputable def alikeN (col : Nat → List Str) (P : Nat) : Int := ((List.range P).map fun j => runP (srt (col j)) ((col j).length - 1)).sum
theorem sgn_le {a b : Str} (h : leS a b = true) : sgn a b ≤ 0 := by
  rw [leS_iff] at h
  unfold sgn
  rw [decide_eq_false h]
  cases decide (a.cps.toList < b.cps.toList) <;> decide
theorem EvS.ifeI {n : Nat} {sc : Scope} {r : VL} {c x y : Expr} {pos : Pos} {t : Bool} {a b : Int} (hc : TstS w n sc r c t) (hx : EvS w n sc r x (.int a)) (hy : EvS w n sc r y (.int b)) : EvS w n sc r (.IfExp c x y pos) (.int (if t then a else b)) :=
  EvS.ife hc (fun h => by rw [h]; exact hx) (fun h => by rw [h]; exact hy)
theorem EvS.ifeP {n : Nat} {sc : Scope} {r : VL} {c x y : Expr} {pos : Pos} {P : Prop} [Decidable P] {a b : Int} (hc : TstS w n sc r c (decide P)) (hx : EvS w n sc r x (.int a)) (hy : EvS w n sc r y (.int b)) : EvS w n sc r (.IfExp c x y pos) (.int (if P then a else b)) :=
  EvS.ife hc (fun h => by rw [if_pos (of_decide_eq_true h)]; exact hx) (fun h => by rw [if_neg (of_decide_eq_false h)]; exact hy)
theorem law_alike_S {n : Nat} {rows : List (List D)} {col : Nat → List Str} {P : Nat} (hr0 : 0 < rows.length) (hr1 : rows.length < 60) (hlen : ∀ row ∈ rows, row.length = 2 + P) (hP : P < 100)
    (hcol : ∀ j, j < P → rows.map (fun row => row.getD (2 + j) .none) = (col j).map .str) : CallS w (n + 4) (.ref 178) [.list (rows.map .list)] (.int (alikeN col P)) := by
  have hcl : ∀ j, j < P → (col j).length = rows.length := fun j hj => by have := congrArg List.length (hcol j hj); simpa using this.symm
  let S : Nat → Int := fun i => ((List.range i).map fun j => runP (srt (col j)) ((col j).length - 1)).sum
  let rs : Nat → VL := fun i => [("pairs", .int (S i)), ("table", .list (rows.map .list))]
  refine CallS.fn (p := (178, fdT 19 "_law_alike" pmW 177, 177)) (xs := ["table"]) (by walk_at "mem") (by walk_at "fnok") rfl (out := .ret (.int (alikeN col P))) rfl
    (Blk.cons (Stm.assign (d := .int 0) (.pure EvS.int) (by walk_at "st") (by walk_at "sw"))
    (Blk.cons (r' := rs P) (o' := []) (Stm.forRng rs (fun _ => []) P (a := 2) (b := 2 + (P : Int)) (c := 1) ?hs ?hN ?hi (by walk_at "sub") rfl (fun _ => by walk_at "st") ?bd)
    (Blk.last (Stm.ret (by walk_at "ev"))))) rfl
  case hs => exact small_one (by decide) (by decide) (by omega) (by omega)
  case hN => rw [rangeSize_one]; split <;> omega
  case hi =>
    refine EvS.call (fv := .type "range") (by walk_at "name") KeepOk.typ (EvL.cons EvS.int (EvL.cons (EvS.call (fv := .builtin "len") (ds := [.list (rows.getD 0 [])]) (by walk_at "name") KeepOk.bui (EvL.cons (EvS.item (ds := rows.map .list) (k := 0) (by walk_at "name") EvS.int (by omega) ?_ (by simp; omega)) EvL.nil (by intro _; rfl)) (CallS.len ?_)) EvL.nil (by intro _; rfl)) (by intro _; rfl)) ?_
    · obtain ⟨row, rest, rfl⟩ : ∃ a b, rows = a :: b := by
        cases rows with
        | nil => simp at hr0
        | cons a b => exact ⟨a, b, rfl⟩
      rfl
    · have : (rows.getD 0 []).length = 2 + P := by
        obtain ⟨row, rest, rfl⟩ : ∃ a b, rows = a :: b := by
          cases rows with
          | nil => simp at hr0
          | cons a b => exact ⟨a, b, rfl⟩
        exact hlen row (.head _)
      rw [this]; omega
    · have : (rows.getD 0 []).length = 2 + P := by
        obtain ⟨row, rest, rfl⟩ : ∃ a b, rows = a :: b := by
          cases rows with
          | nil => simp at hr0
          | cons a b => exact ⟨a, b, rfl⟩
        exact hlen row (.head _)
      rw [this]
      have := CallS.range2 (w := w) (n := n + 3) (a := 2) (b := ((2 + P : Nat) : Int))
      rw [show (2 : Int) + (P : Int) = ((2 + P : Nat) : Int) by push_cast; rfl]
      exact this
  case bd =>
    intro i hi
    have hc := hcol i hi
    have hcli := hcl i hi
    obtain ⟨ws, hws⟩ : ∃ ws, srt (col i) = ws := ⟨_, rfl⟩
    have hwl : ws.length = rows.length := by rw [← hws, srt_len, hcli]
    let rj : Nat → VL := fun j => [("alike", .int (runA ws j)), ("pairs", .int (S i + runP ws j)), ("words", .list (ws.map .str)), ("table", .list (rows.map .list))]
    refine Blk.weak (Blk.cons (r' := ("words", .list (ws.map .str)) :: ("place", .int (2 + 1 * (i : Int))) :: rs i) (o' := []) (Stm.assign (.pure ?e1) (by walk_at "st") (by walk_at "sw"))
      (Blk.cons (Stm.assign (d := .int 0) (.pure EvS.int) (by walk_at "st") (by walk_at "sw"))
      (Blk.cons (r' := rj (rows.length - 1)) (o' := []) (Stm.forRng rj (fun _ => []) (rows.length - 1) (a := 1) (b := (rows.length : Int)) (c := 1) ?hs2 ?hN2 ?hi2 ?sb2 rfl (fun _ => by walk_at "st") ?bd2) Blk.nil))) ?w
    case e1 =>
      rw [← hws]
      refine EvS.sortedKey (q := 35) (by walk_at "name") ?_ (by walk_at "name") (fun x => strxfrm_S) (by rw [hcli]; omega)
      rw [← hc]
      refine EvS.compT [("place", .int (2 + 1 * (i : Int)))] D.list toL (fun _ => rfl) rows _ (by walk_at "name") .list (by walk_at "capt") (by omega) fun row hrow => ?_
      have hrl := hlen row hrow
      refine EvS.item (ds := row) (k := 2 + 1 * (i : Int)) (by walk_at "name") (by walk_at "name") (by omega) ?_ (by omega)
      rw [show (2 + 1 * (i : Int)).toNat = 2 + i by omega, List.getD_eq_getElem?_getD, List.getElem?_eq_getElem (by omega)]
      rfl
    case hs2 => exact small_one (by decide) (by decide) (by omega) (by omega)
    case hN2 => rw [rangeSize_one]; split <;> omega
    case hi2 =>
      refine EvS.call (fv := .type "range") (by walk_at "name") KeepOk.typ (EvL.cons EvS.int (EvL.cons (EvS.call (fv := .builtin "len") (ds := [.list (ws.map .str)]) (by walk_at "name") KeepOk.bui (by walk_at "evl") (CallS.len (by simp; omega))) EvL.nil (by intro _; rfl)) (by intro _; rfl)) ?_
      rw [List.length_map, hwl]
      exact CallS.range2
    case sb2 =>
      have e : rj 0 = ([("alike", .int 0), ("pairs", .int (S i)), ("words", .list (ws.map .str)), ("table", .list (rows.map .list))] : VL) := by
        show ([("alike", .int 0), ("pairs", .int (S i + 0)), _, _] : VL) = _
        rw [Int.add_zero]
      rw [e]
      walk_at "sub"
    case bd2 =>
      intro j hj
      have hsorted : ws.Pairwise fun a b => leS a b = true := by rw [← hws]; exact List.pairwise_mergeSort leS_trans leS_total _
      obtain ⟨a, ha⟩ : ∃ a, ws.getD j Str.empty = a := ⟨_, rfl⟩
      obtain ⟨b, hb⟩ : ∃ b, ws.getD (j + 1) Str.empty = b := ⟨_, rfl⟩
      have ha' : ws[j]? = some a := by rw [← ha, List.getD_eq_getElem?_getD, List.getElem?_eq_getElem (by omega)]; rfl
      have hb' : ws[j + 1]? = some b := by rw [← hb, List.getD_eq_getElem?_getD, List.getElem?_eq_getElem (by omega)]; rfl
      have hab : leS a b = true := by
        rw [List.pairwise_iff_getElem] at hsorted
        have := hsorted j (j + 1) (by omega) (by omega) (by omega)
        rw [List.getElem?_eq_some_iff] at ha' hb'
        obtain ⟨_, e1⟩ := ha'; obtain ⟨_, e2⟩ := hb'
        rw [e1, e2] at this; exact this
      have hra : runA ws (j + 1) = if sgn a b = 0 then runA ws j + 1 else 0 := by show (if sgn (ws.getD j Str.empty) (ws.getD (j + 1) Str.empty) = 0 then _ else _) = _; rw [ha, hb]
      have hrp : S i + runP ws (j + 1) = S i + runP ws j + runA ws (j + 1) := by
        have : runP ws (j + 1) = runP ws j + runA ws (j + 1) := sum_range_succ (fun m => runA ws (m + 1)) j
        rw [this]; omega
      show Blk w (n + 3) _ [("k", .int (1 + 1 * (j : Int))), ("alike", .int (runA ws j)), ("pairs", .int (S i + runP ws j)), ("words", .list (ws.map .str)), ("table", .list (rows.map .list))] [] _ (.next [("alike", .int (runA ws (j + 1))), ("pairs", .int (S i + runP ws (j + 1))), ("words", .list (ws.map .str)), ("table", .list (rows.map .list))] [])
      rw [hrp]
      refine Blk.weak (Blk.cons (Stm.assign (d := .int (sgn a b)) (.pure ?c1) (by walk_at "st") (by walk_at "sw"))
        (Blk.cons (Stm.skipIf ?c2)
        (Blk.cons (Stm.assign (d := .int (runA ws (j + 1))) (.pure ?c3) (by walk_at "st") (by walk_at "sw"))
        (Blk.cons (Stm.aug (a := S i + runP ws j) (b := runA ws (j + 1)) (by rfl) (by walk_at "name") (by walk_at "st")) Blk.nil)))) (by walk_at "sub")
      case c1 =>
        refine EvS.call (fv := .ref 28) (ds := [.str a, .str b]) (by walk_at "name") (KeepOk.fn (p := (28, fdT 2 "_strcoll" pmL 27, 27)) (by walk_at "mem")) (EvL.cons (EvS.item (ds := ws.map .str) (k := 1 + 1 * (j : Int) - 1) (by walk_at "name") (by walk_at "ev") (by omega) ?_ (by simp; omega)) (EvL.cons (EvS.item (ds := ws.map .str) (k := 1 + 1 * (j : Int)) (by walk_at "name") (by walk_at "ev") (by omega) ?_ (by simp; omega)) EvL.nil (by intro _; rfl)) (by intro _; rfl)) strcoll_S
        · rw [List.getElem?_map, show (1 + 1 * (j : Int) - 1).toNat = j by omega, ha']; rfl
        · rw [List.getElem?_map, show (1 + 1 * (j : Int)).toNat = j + 1 by omega, hb']; rfl
      case c2 =>
        have h1 := sgn_le hab
        refine TstS.cmp (a := .int (sgn a b)) (b := .int 0) (by walk_at "name") EvS.int ?_
        have := CmpS.gtI (w := w) (n := n + 3) (a := sgn a b) (b := 0)
        rw [decide_eq_false (show ¬ (0 : Int) < sgn a b by omega)] at this
        exact this
      case c3 =>
        rw [hra]
        refine EvS.ifeP ?_ ?_ ?_
        · refine TstS.cmp (a := .int (sgn a b)) (b := .int 0) (by walk_at "name") EvS.int ?_
          have := CmpS.eqI (w := w) (n := n + 3) (a := sgn a b) (b := 0)
          rw [show (sgn a b == 0) = decide (sgn a b = 0) from by by_cases h : sgn a b = 0 <;> simp [h]] at this
          exact this
        · walk_at "ev"
        · exact EvS.int
    case w =>
      have e : S (i + 1) = S i + runP ws (rows.length - 1) := by
        have := sum_range_succ (fun j => runP (srt (col j)) ((col j).length - 1)) i
        simp only [hws, hcli] at this
        exact this
      show Sub _ [("pairs", .int (S (i + 1))), ("table", .list (rows.map .list))]
      rw [e]
      walk_at "sub"
end
section
-- G0
variable {w : World}
/-! defs within a def -/
theorem fnTab_tabs : ∀ p ∈ fnTab, p.1 ∉ tabs ∧ p.2.2 ∉ tabs := by
  intro p hp
  simp only [fnTab, List.mem_cons, List.not_mem_nil, or_false] at hp
  rcases hp with rfl | rfl | rfl | rfl | rfl | rfl | rfl | rfl | rfl | rfl | rfl | rfl | rfl | rfl | rfl | rfl | rfl | rfl | rfl | rfl <;> exact ⟨by decide, by decide⟩
theorem codTab_apart : ∀ p ∈ codTab, ∀ q ∈ codTab, (q = p ∨ q.2.1 ≠ p.2.1) ∧ q.1 ≠ p.2.1 := by
  intro p hp q hq
  simp only [codTab, List.mem_cons, List.not_mem_nil, or_false] at hp hq
  rcases hp with rfl | rfl | rfl | rfl <;> rcases hq with rfl | rfl | rfl | rfl <;> first | exact ⟨.inl rfl, by decide⟩ | exact ⟨.inr (by decide), by decide⟩
theorem triples_notCod {ps : Array Value} (h : TriplesOk ps.toList) : ¬ codish (tabObj ps) := fun ⟨vs, q, t, e, e2⟩ => by
  have e : Data.fields ps = .fields vs := e
  cases e
  have : ps.toList[1]? = some (.str q t) := by simpa using e2
  generalize ps.toList = l at h this
  cases l with
  | nil => cases this
  | cons x l => cases l with
    | nil => cases this
    | cons y l =>
      cases this
      cases x <;> exact (h : False).elim
theorem Inv.grown {h h' : Heap} (I : Inv h) {p : Addr × Addr × Pos × Str} (hp : p ∈ codTab) (k : ∀ b o, b ≠ p.2.1 → h.get? b = some o → h'.get? b = some o) (hn : CodOk h' p) : Inv h' := by
  have hT := (codTab_low p hp).2.2
  have kt : ∀ b o, b ∉ tabs → h.get? b = some o → h'.get? b = some o := fun b o t e => k b o (fun z => t (z ▸ hT)) e
  obtain ⟨ps, e1, e2, _⟩ := (I.cod p hp).tb
  refine ⟨fun q hq => ?_, fun q hq => ?_, ?_, fun t ht => ?_, ?_, ?_, ?_, ?_, fun c hc => ?_⟩
  · rcases (codTab_apart p hp q hq).1 with e | ne
    · rw [e]; exact hn
    · have C := I.cod q hq
      refine ⟨?_, ?_⟩
      · obtain ⟨o, vs, file, tf, flags, tg, inF, text, tt, e, r⟩ := C.hd
        exact ⟨o, vs, file, tf, flags, tg, inF, text, tt, k _ _ (codTab_apart p hp q hq).2 e, r⟩
      · obtain ⟨ps', g1, g2, g3⟩ := C.tb
        refine ⟨ps', k _ _ ne g1, g2, g3.imp id ?_⟩
        rintro ⟨c', f1, c, o, vs, t', f2, f3, f4, f5⟩
        refine ⟨c', f1, c, o, vs, t', f2, k c o (fun z => ?_) f3, f4, f5⟩
        rw [z, e1] at f3; cases f3
        exact triples_notCod e2 ⟨vs, _, _, f4, f5⟩
  · obtain ⟨o, oc, vs, t, a, b, c, d, e, f⟩ := I.fns q hq
    exact ⟨o, oc, vs, t, kt _ _ (fnTab_tabs q hq).1 a, b, c, d, kt _ _ (fnTab_tabs q hq).2 e, f⟩
  · obtain ⟨o, e⟩ := I.top; exact ⟨o, kt _ _ (by decide) e⟩
  · by_cases z : t = p.2.1
    · obtain ⟨ps', g1, _⟩ := hn.tb
      exact ⟨ps', z ▸ g1⟩
    · obtain ⟨ps', g1⟩ := I.tab t ht
      exact ⟨ps', k _ _ z g1⟩
  · obtain ⟨mg, a, ⟨bm, ob, b1, b2, b3, b4, b5, b6, b7⟩, b⟩ := I.glo
    exact ⟨mg, a.at' fun o e => kt _ o (by decide) e, ⟨bm, ob, b1, b2, b3, b4, b5, kt _ _ b3 b6, b7⟩, b⟩
  · obtain ⟨mg, a, b⟩ := I.bui; exact ⟨mg, a.at' fun o e => kt _ o (by decide) e, b⟩
  · obtain ⟨mc, a, b⟩ := I.nolimit; exact ⟨mc, a.at' fun o e => kt _ o (by decide) e, b⟩
  · obtain ⟨P, x⟩ := I.kls; exact ⟨P, fun a o e => kt _ _ (Kc_low e).2 (x a o e)⟩
  · obtain ⟨o, vs, t, e, r⟩ := I.fil c hc
    exact ⟨o, vs, t, kt _ _ (by simp only [filTab, List.mem_cons, List.not_mem_nil, or_false] at hc; rcases hc with rfl | rfl | rfl <;> decide) e, r⟩
noncomputable def FnObj (h : Heap) (fa : Addr) (fd : FuncData) : Prop := ∃ o, h.get? fa = some o ∧ o.cls = .type "function" ∧ o.data = .func fd ∧ h.CodeRec fd.code fd.qualname
theorem FnObj.eff {s s' : Shared} {fa : Addr} {fd : FuncData} (x : FnObj s.heap fa fd) (I : Inv s.heap) {Mu' : Addr → Prop} (E : EffM Mu' s s') (hm : ¬ Mu' fa) (hc : ∀ o a, codish o → s.heap.get? a = some o → ¬ Mu' a) : FnObj s'.heap fa fd := by
  obtain ⟨o, e, cl, dt, c, oc, vs, t, e2, e3, e4, e5⟩ := x
  refine ⟨o, E.keep _ _ e (I.notTab e (.inl (by rw [cl]; nofun))) hm, cl, dt, c, oc, vs, t, e2, E.keep _ _ e3 (fun tt => ?_) (hc oc c ⟨vs, _, _, e4, e5⟩ e3), e4, e5⟩
  obtain ⟨ps, q⟩ := I.tab c tt
  have : c ∈ codTab.map (·.2.1) := by
    simp only [tabs, List.mem_cons, List.not_mem_nil, or_false] at tt
    simp only [codTab, List.map_cons, List.map_nil, List.mem_cons, List.not_mem_nil, or_false]; exact tt
  obtain ⟨p, hp, rfl⟩ := List.mem_map.mp this
  obtain ⟨ps', g1, g2, _⟩ := (I.cod p hp).tb
  rw [e3] at g1; cases g1
  exact triples_notCod g2 ⟨vs, _, _, e4, e5⟩
section
variable {n : Nat} {sc : Scope} {r o : VL} {n₀ : Nat} {X₀ Wb : Addr → Prop} {sb : Shared} {env : Env} {s : Shared} {A : Around} {ad : Str → Addr}
theorem closFor (S : StA n₀ X₀ Wb sb env r o s ad) {scope : Scope} (h : ∀ m, (m, NameKind.free) ∈ scope.names → env.kindOf m = some .cell) : closureFor scope env = pure (closOf env.cells scope.names []) :=
  closureFor_eq fun m hm => by obtain ⟨c, v, e, _⟩ := S.cells m (h m hm); exact ⟨c, e⟩
theorem def_inner {p : Addr × Addr × Pos × Str} (hp : p ∈ codTab) {name : Str} {params : Arguments} {body : List Stmt} {scope : Scope} (hs : env.scope = sc) (hco : env.code = .ref p.1) (S : StA n₀ X₀ Wb sb env r o s ad)
    (hd0 : params.defaults = []) (hk0 : params.kw_defaults = []) (ha : annTrees params none env = []) (hq : qualnameIn env name name = p.2.2.2) (hfree : ∀ m, (m, NameKind.free) ∈ scope.names → env.kindOf m = some .cell) (k : StoreOk sc o name) :
    wpAny (model PRG w) A (exec (.FunctionDef name params body [] none [] scope none name p.2.2.1) env) (fun f s' => f = .next ∧ ∃ fa doc pm c' ctv, n₀ ≤ fa ∧ StA n₀ X₀ Wb sb env ((name, .raw (.ref fa)) :: r) o s' ad ∧
      FnObj s'.heap fa (fnX name p.2.2.2 params body scope (closOf env.cells scope.names []) .none .none doc pm none c' ctv)) (fun _ _ => False) s := by
  have I := S.inv
  obtain ⟨mg, g1, ⟨bm, ob, b1, b2, b3, b4, b5, b6, b7⟩, _⟩ := I.glo
  have C := I.cod p hp
  obtain ⟨ps, t1, t2, t3⟩ := C.tb
  have hT := (codTab_low p hp).2.2
  have hbn : s.heap.BuiltinsAt mg p.2.1 := ⟨bm, ob, b1, b4, b5, fun z => b3 (z ▸ hT), b6, b7⟩
  have hcl := closFor S hfree
  -- the object is made, the name stored
  have fin : ∀ (fa : Addr) (fd : FuncData) (s₁ : Shared), Eff s s₁ → Inv s₁.heap → FnObj s₁.heap fa fd → s.heap.objs.size ≤ fa → wpAny (model PRG w) A (storeName env name (.ref fa)) (fun _ s' => n₀ ≤ fa ∧ StA n₀ X₀ Wb sb env ((name, .raw (.ref fa)) :: r) o s' ad ∧ FnObj s'.heap fa fd) (fun _ _ => False) s₁ := fun fa fd s₁ E₁ I₁ x hfa => by
    have S₁ := S.step E₁ I₁
    have hn : n₀ ≤ fa := by
      obtain ⟨m, nm, _⟩ := S.vars.ns
      exact Nat.le_trans S.lowL (Nat.le_trans (Nat.le_of_lt nm.lt) hfa)
    refine wpAny_mono (S₁.rebase.store (d := .raw (.ref fa)) (x := name) rfl hs k.k k.i k.o) (fun _ s₂ S₂ => ⟨hn, S₁.back S₂, x.eff I₁ S₂.eff (fun m => ?_) fun oc a hc e m => ?_⟩) fun _ _ z => z
    · obtain ⟨o', e, cl, dt, _⟩ := x
      rcases m with m | ⟨y, m1, m2⟩ | ⟨q, hq', e'⟩
      · obtain ⟨m', ⟨o'', es, ep, q1, q2, _⟩, _⟩ := S₁.vars.ns
        rw [← m, e] at q1; cases q1; rw [dt] at q2; cases q2
      · obtain ⟨c, v, q1, o'', q2, q3⟩ := S₁.cells y m1
        rw [m2] at q1; cases q1
        rw [e] at q2; cases q2; rw [dt] at q3; cases q3
      · obtain ⟨o'', vs, kk, q1, q2, _⟩ := (S₁.own q hq').2.1.get
        rw [e', e] at q1; cases q1; rw [dt] at q2; cases q2
    · rcases m with m | ⟨y, m1, m2⟩ | ⟨q, hq', e'⟩
      · obtain ⟨m', nm, _⟩ := S₁.vars.ns
        exact ns_notCod (m ▸ nm) oc e hc
      · obtain ⟨c, v, q1, q2⟩ := S₁.cells y m1
        rw [m2] at q1; cases q1
        exact cell_notCod q2 oc e hc
      · obtain ⟨o'', vs, kk, q1, q2, _⟩ := (S₁.own q hq').2.1.get
        exact seq_notCod (e' ▸ q1) q2 oc e hc
  refine nestDef_K hd0 hk0 ha ?_
  rw [hq]
  rcases t3 with t3 | ⟨c', t3, t4⟩
  · refine makeFunction_K hcl S.vars.glo g1 hco C.hd t1 t2 t3 (fun z => absurd hT (by rw [← z]; decide)) hbn fun c' ctv doc h' tk hx hge hlt hrec htb => ?_
    have hnew : CodOk h' p := by
      refine ⟨?_, ps ++ #[rawInt p.2.2.1.line, rawInt p.2.2.1.col, .ref c'], htb, ?_, .inr ⟨c', ?_, hrec⟩⟩
      · obtain ⟨o', vs, file, tf, flags, tg, inF, text, tt, e, r'⟩ := C.hd
        exact ⟨o', vs, file, tf, flags, tg, inF, text, tt, hx _ _ (codTab_apart p hp p hp).2 e, r'⟩
      · rw [show (ps ++ #[rawInt p.2.2.1.line, rawInt p.2.2.1.col, Value.ref c']).toList = ps.toList ++ [rawInt p.2.2.1.line, rawInt p.2.2.1.col, .ref c'] by simp]
        exact TriplesOk_snoc _ _ _ _ t2
      · rw [show (ps ++ #[rawInt p.2.2.1.line, rawInt p.2.2.1.col, Value.ref c']).toList = ps.toList ++ [rawInt p.2.2.1.line, rawInt p.2.2.1.col, .ref c'] by simp]
        exact codeAmong_snoc _ t2 t3
    have I1 : Inv h' := I.grown hp hx hnew
    have E1 : Eff s { s with heap := h'.push (fnMade name p.2.2.2 params body scope (closOf env.cells scope.names []) doc ((mg "__name__").getD .none) c' ctv), toks := tk } :=
      ⟨rfl, fun _ _ e => e, id, fun a o' e t _ => Heap.get?_push_of_some _ (hx a o' (fun z => t (z ▸ hT)) e)⟩
    obtain ⟨c2, oc, vs, t', f2, f3, f4, f5⟩ := hrec
    refine wpAny_mono (fin h'.objs.size _ _ E1 (I1.push _) ⟨_, Heap.get?_push_size _ rfl, rfl, rfl, c2, oc, vs, t', f2, Heap.get?_push_of_some _ f3, f4, f5⟩ (Nat.le_trans hge (Nat.le_of_lt hlt))) (fun _ s' q => ⟨rfl, _, _, _, _, _, q⟩) fun _ _ z => z
  · refine makeFunction_hit hcl S.vars.glo g1 hco C.hd t1 t2 t3 hbn fun ctv doc h' tk hk hsz => ?_
    have E1 : Eff s { s with heap := h'.push { cls := .type "function", data := .func (fnX name p.2.2.2 params body scope (closOf env.cells scope.names []) .none .none doc ((mg "__name__").getD .none) none (.ref c') ctv) }, toks := tk } :=
      ⟨rfl, fun _ _ e => e, id, fun a o' e t _ => Heap.get?_push_of_some _ (hk a o' e)⟩
    obtain ⟨c2, oc, vs, t', f2, f3, f4, f5⟩ := t4
    refine wpAny_mono (fin h'.objs.size _ _ E1 ((I.keeps hk).push _) ⟨_, Heap.get?_push_size _ rfl, rfl, rfl, c2, oc, vs, t', f2, Heap.get?_push_of_some _ (hk _ _ f3), f4, f5⟩ hsz) (fun _ s' q => ⟨rfl, _, _, _, _, _, q⟩) fun _ _ z => z
end
end
section
-- G1
variable {w : World}
theorem len2 {vs : List Value} (h : vs.length = 2) : ∃ a b, vs = [a, b] := by
  cases vs with
  | nil => cases h
  | cons a r => cases r with
    | nil => cases h
    | cons b t => cases t with
      | nil => exact ⟨_, _, rfl⟩
      | cons c t => cases h
theorem len3 {vs : List Value} (h : vs.length = 3) : ∃ a b c, vs = [a, b, c] := by
  cases vs with
  | nil => cases h
  | cons a r => obtain ⟨b, c, rfl⟩ := len2 (Nat.succ.inj h); exact ⟨_, _, _, rfl⟩
structure CloOk (fd : FuncData) (body : List Stmt) (xs : List Str) : Prop where
  hb : fd.body = .stmts body
  gl : fd.globals = mainGlobals
  bu : fd.builtins = builtinsNs
  bind : ∀ vs : List Value, vs.length = xs.length → bindArgs fd ⟨vs, []⟩ = pure (xs.zip vs)
  nd : xs.Nodup
  ini : iniS ∉ xs
  k : ∀ x ∈ xs, fd.scope.names.lookup x = some .local
  nc : ∀ x ∈ fd.scope.names, x.2 ≠ .cell
  co : fd.scope.isCoroutine = false
  gen : fd.scope.isGenerator = false
  kind : fd.scope.kind = .function
theorem rev_lookup {x : Str} {v : Value} {xs : List Str} {vs : List Value} (hl : vs.length = xs.length) (hn : xs.Nodup) (hm : (x, v) ∈ xs.zip vs) : (xs.zip vs).reverse.lookup x = some v := by
  have key : ∀ (l : List (Str × Value)), (l.map (·.1)).Nodup → (x, v) ∈ l → l.lookup x = some v := by
    intro l
    induction l with
    | nil => intro _ h; cases h
    | cons p l ih =>
      intro hn hm
      obtain ⟨y, u⟩ := p
      rw [List.map_cons, List.nodup_cons] at hn
      rcases List.mem_cons.mp hm with e | hm2
      · cases e; rw [List.lookup_cons, beq_self_eq_true]
      · have : (x == y) = false := by
          cases h : (x == y) with
          | false => rfl
          | true =>
            have : x = y := by simpa using h
            subst this
            exact absurd (List.mem_map.mpr ⟨(x, v), hm2, rfl⟩ : x ∈ l.map (·.1)) hn.1
        rw [List.lookup_cons, this]; exact ih hn.2 hm2
  refine key _ ?_ (List.mem_reverse.mpr hm)
  have h1 : ((xs.zip vs).map (·.1)).Nodup := by rw [zip_names hl]; exact hn
  rw [List.map_reverse]
  exact List.pairwise_reverse.mpr (h1.imp fun h => Ne.symm h)
theorem call_clo {n : Nat} {fa : Addr} {fd : FuncData} {body : List Stmt} {xs : List Str} {ds : List D} {rf : VL} {A : Around} {s : Shared} {X Wb : Addr → Prop} {vs : List Value} {Q : Value → Shared → Prop} (x : FnObj s.heap fa fd)
    (F : CloOk fd body xs) (hl : ds.length = xs.length) (R : Rm (n + 1) A) (I : Inv s.heap) (B : XB X s.heap) (hd : RpL X s.heap ds vs)
    (hap : ∀ y z c, fd.closure.lookup y = some c → fd.closure.lookup z = some c → y = z)
    (hrf : ∀ y d, rf.lookup y = some d → fd.scope.names.lookup y = some .free ∧ ∃ c v, fd.closure.lookup y = some c ∧ s.heap.IsCell c (some v) ∧ Rp X s.heap d v)
    (hk : ∀ (env : Env) (s₁ : Shared), env.scope = fd.scope → env.locals = s.heap.objs.size → env.cells = fd.closure → Rm n (A.deeper env) → Eff s s₁ → StA s.heap.objs.size X Wb s env (xs.zip ds ++ rf) [] s₁ (fun _ => 0) →
      wpAny (model PRG w) (A.deeper env) (execs body env) (fun f s' => Q (fval f) s') (fun _ _ => False) s₁) :
    wpAny (model PRG w) A (call (.ref fa) vs) Q (fun _ _ => False) s := by
  have hvl : vs.length = xs.length := by rw [hd.length, hl]
  obtain ⟨ob, a, _, c, hcr⟩ := x
  refine wpAny_call ?_
  refine codeAny_call_def (fd := fd) (body := body) (binds := xs.zip vs) (by have := R.depth; omega) a c I.nolimit hcr F.hb (BindsTo.of_eq (F.bind vs hvl)) F.nc (fun x hx => ?_) (fun h₀ hns keep => ?_) F.co F.gen F.kind
  · have hx' : x.1 ∈ xs := by rw [← zip_names hvl]; exact List.mem_map.mpr ⟨x, hx, rfl⟩
    exact F.k _ hx'
  · generalize hE : callEnv fd s.heap.objs.size fa = env at *
    have hsc : env.scope = fd.scope := by rw [← hE]; rfl
    have hL : env.locals = s.heap.objs.size := by rw [← hE]; rfl
    have hC : env.cells = fd.closure := by rw [← hE]; rfl
    have E0 : Eff s { s with heap := h₀, toks := s.toks + (xs.zip vs).length } := Eff.of_keeps keep
    have sk : SK X s.heap h₀ := fun b o e _ _ => keep b o e
    have I' : Inv h₀ := I.keeps keep
    have oxe : ∀ ad a, OX X [] ad a → X a := fun ad a y => y.elim id fun ⟨p, hp, _⟩ => nomatch hp
    have B' : XB X h₀ := B.keeps fun a _ o e => keep a o e
    have hz := zip_names hvl
    have nCell : ∀ y, env.kindOf y ≠ some .cell := fun y k => by
      have : fd.scope.names.lookup y = some .cell := by rw [← hsc]; exact k
      exact F.nc _ (PySem.mem_of_lookup this) rfl
    have hzd : (xs.zip ds).map (·.1) = xs := zip_names hl
    have S : StA s.heap.objs.size X Wb s env (xs.zip ds ++ rf) [] { s with heap := h₀, toks := s.toks + (xs.zip vs).length } (fun _ => 0) := by
      refine ⟨E0.toM, (fun p hp => nomatch hp), I', ⟨fun a y => B' a (oxe _ a y), by rw [hsc]; exact F.kind, by rw [← hE]; exact F.gl, by rw [← hE]; exact F.bu, ⟨_, by rw [hL]; exact hns, ?_, fun y d e k => ?_⟩, fun y d e k => ?_⟩, I.big, fun a y => ?_, ?_, fun y c k e => absurd k (nCell y), fun y k => absurd k (nCell y), fun y z c e e' => hap y z c (by rw [← hC]; exact e) (by rw [← hC]; exact e'), (fun p hp => nomatch hp), List.Pairwise.nil⟩
      · show (xs.zip vs).reverse.lookup iniS = none
        rw [List.lookup_eq_none_iff]
        intro q hq
        simp only [bne_iff_ne, ne_eq]
        intro z
        refine F.ini ?_
        rw [← hz]
        have hm : q.1 ∈ (xs.zip vs).map (·.1) := List.mem_map.mpr ⟨q, List.mem_reverse.mp hq, rfl⟩
        have z' : q.1 = iniS := by first | exact z.symm | exact z | simpa using z.symm | simpa using z
        rw [z'] at hm; exact hm
      · rw [List.lookup_append] at e
        cases h : (xs.zip ds).lookup y with
        | none =>
          rw [h] at e
          obtain ⟨q, _⟩ := hrf y d (by simpa using e)
          have : fd.scope.names.lookup y = some .local := by rw [← hsc]; exact k
          rw [q] at this; cases this
        | some d' =>
          rw [h] at e; simp at e; subst e
          obtain ⟨v, h1, h2⟩ := zip_get hd hl h
          exact ⟨v, rev_lookup hvl F.nd h1, h2.mono (fun a y => .inl (oxe _ a y)) sk⟩
      · rw [List.lookup_append] at e
        cases h : (xs.zip ds).lookup y with
        | none =>
          rw [h] at e
          obtain ⟨q, c, v, q1, q2, q3⟩ := hrf y d (by simpa using e)
          exact ⟨c, v, by rw [hC]; exact q1, q2.keeps keep, q3.mono (fun a y => .inl (oxe _ a y)) sk⟩
        | some d' =>
          exfalso
          have hy : y ∈ xs := by rw [← hzd]; exact List.mem_map.mpr ⟨_, PySem.mem_of_lookup h, rfl⟩
          have h1 : fd.scope.names.lookup y = some .local := F.k y hy
          rw [← hsc] at h1
          have h2 : env.kindOf y = some .local := h1
          rcases k with k | k <;> rw [h2] at k <;> cases k
      · obtain ⟨_, o, e⟩ := B a y; exact Heap.lt_size e
      · rw [hL]; exact Nat.le_refl _
    refine wpAny_mono (hk env _ hsc hL hC R.deeper E0 S) (fun f s' q => ?_) fun _ _ z => z.elim
    cases f <;> exact q
end
section
-- G2
variable {w : World}
theorem FnObj.at' {h : Heap} {fa : Addr} {fd : FuncData} (x : FnObj h fa fd) : FnAt fa h := by
  obtain ⟨⟨oc, od, dt, sl⟩, e, _, d, _⟩ := x
  simp only at d
  subst d
  exact ⟨oc, od, fd, sl, e⟩
theorem eval_callF {n : Nat} {sc : Scope} {r : VL} {id : Str} {p pos : Pos} {e : Expr} {es : List Expr} {q : Addr} {ds : List D} (hf : EvS w n sc r (.Name id p) (.raw (.ref q))) (ha : EvL w n sc r (e :: es) ds)
    (hst : ∀ env, starEach (e :: es) env = (false, eval e env) :: starEach es env := by intro _; rfl) {A : Around} {s : Shared} {env : Env} {X : Addr → Prop} {Q : Value → Shared → Prop} (hs : env.scope = sc) (R : Rm n A) (I : Inv s.heap) (V : Vars X env r s.heap)
    (hF : ∀ s', Eff s s' → FnAt q s'.heap)
    (hc : ∀ vs s₂, Eff s s₂ → Inv s₂.heap → RpL X s₂.heap ds vs → wpAny (model PRG w) A (PySem.call (.ref q) vs) Q (fun _ _ => False) s₂) : wpAny (model PRG w) A (eval (.Call (.Name id p) (e :: es) [] pos) env) Q (fun _ _ => False) s := by
  refine wpAny_Call_NameR (wpAny_mono (hf A s env X hs R I V) (fun v s₁ g => ?_) fun _ _ z => z.elim)
  obtain ⟨q1, I₁, q3⟩ := g
  cases (show v = _ from q3)
  have V₁ := V.eff q1 I
  obtain ⟨a1, a2⟩ := ha A s₁ env X pos hs R I₁ V₁
  have hpl : (backTo pos (starEach es env)).any (·.1) = false := by
    have e' : backTo pos (starEach (e :: es) env) = (false, eval e env) :: backTo pos (starEach es env) := by rw [hst env]; rfl
    rw [e'] at a2
    simpa using a2
  refine callWith_F (hF s₁ q1) (wpAny_mono a1 (fun vs s₂ g => ?_) fun _ _ z => z.elim) (hst env) hpl
  exact ⟨hF s₂ (q1.trans g.1), hc vs s₂ (q1.trans g.1) g.2.1 g.2.2⟩
structure CI (X : Addr → Prop) (fa : Addr) (fd : FuncData) (rf : VL) (s : Shared) : Prop where
  fn : FnObj s.heap fa fd
  inv : Inv s.heap
  bnd : XB X s.heap
  rf : ∀ y d, rf.lookup y = some d → fd.scope.names.lookup y = some .free ∧ ∃ c v, fd.closure.lookup y = some c ∧ s.heap.IsCell c (some v) ∧ Rp X s.heap d v
theorem CI.eff {X : Addr → Prop} {fa : Addr} {fd : FuncData} {rf : VL} {s s' : Shared} (x : CI X fa fd rf s) (E : Eff s s') (I : Inv s'.heap) : CI X fa fd rf s' :=
  ⟨x.fn.eff x.inv E (fun z => z) fun _ _ _ _ z => z, I, x.bnd.eff E, fun y d e => by
    obtain ⟨a, c, v, b1, b2, b3⟩ := x.rf y d e
    exact ⟨a, c, v, b1, E.cell x.inv b2, b3.keep (E.sk x.inv)⟩⟩
noncomputable def slc (ds : List Int) (a b : Nat) : List Int := (ds.drop a).take (b - a)
theorem slc_len {ds : List Int} {a b : Nat} (h : b ≤ ds.length) : (slc ds a b).length = b - a := by
  unfold slc; rw [List.length_take, List.length_drop]; omega
theorem slc_split {ds : List Int} {a m b : Nat} (h1 : a ≤ m) (h2 : m ≤ b) : slc ds a b = slc ds a m ++ slc ds m b := by
  unfold slc
  have e : b - a = (m - a) + (b - m) := by omega
  rw [e, List.take_add, List.drop_drop]
  congr 3
  omega
theorem slc_one {ds : List Int} {a : Nat} {x : Int} (h : ds[a]? = some x) : slc ds a (a + 1) = [x] := by
  unfold slc
  have hlt : a < ds.length := by rw [List.getElem?_eq_some_iff] at h; exact h.1
  rw [List.drop_eq_getElem_cons hlt]
  rw [List.getElem?_eq_getElem hlt] at h; cases h
  have : a + 1 - a = 1 := by omega
  rw [this]; rfl
theorem slc_all {ds : List Int} : slc ds 0 ds.length = ds := by unfold slc; simp
theorem valI_bound {k : Nat} (hk : k ≤ 250) : ∀ l : List Int, (∀ d ∈ l, 0 ≤ d ∧ d < 2 ^ 250) → 0 ≤ valI k l ∧ valI k l < 2 ^ (251 * l.length + 250)
  | [], _ => ⟨Int.le_refl _, Int.pow_pos (by decide)⟩
  | d :: l, h => by
    obtain ⟨i1, i2⟩ := valI_bound hk l fun x hx => h x (.tail _ hx)
    obtain ⟨d1, d2⟩ := h d (.head _)
    have hp : (0 : Int) < 2 ^ k := Int.pow_pos (by decide)
    show 0 ≤ d + 2 ^ k * valI k l ∧ d + 2 ^ k * valI k l < 2 ^ (251 * (l.length + 1) + 250)
    refine ⟨Int.add_nonneg d1 (Int.mul_nonneg (Int.le_of_lt hp) i1), ?_⟩
    have hk2 : (2 : Int) ^ k ≤ 2 ^ 250 := by
      have h : (2 : Nat) ^ k ≤ 2 ^ 250 := Nat.pow_le_pow_right (by decide) hk
      have h2 : ((2 ^ k : Nat) : Int) ≤ ((2 ^ 250 : Nat) : Int) := Int.ofNat_le.mpr h
      rw [Int.natCast_pow, Int.natCast_pow] at h2
      exact h2
    have h3 : 2 ^ k * valI k l ≤ 2 ^ 250 * (2 ^ (251 * l.length + 250) - 1) := Int.mul_le_mul hk2 (by omega) i1 (Int.le_of_lt (Int.pow_pos (by decide)))
    have e1 : (2 : Int) ^ (251 * (l.length + 1) + 250) = 2 * (2 ^ 250 * 2 ^ (251 * l.length + 250)) := by
      rw [← Int.pow_add, ← Int.pow_succ']
      congr 1; omega
    rw [e1]
    have h4 : (2 : Int) ^ 250 * (2 ^ (251 * l.length + 250) - 1) = 2 ^ 250 * 2 ^ (251 * l.length + 250) - 2 ^ 250 := by
      rw [Int.mul_sub, Int.mul_one]
    rw [h4] at h3
    generalize (2 : Int) ^ 250 * 2 ^ (251 * l.length + 250) = Z at *
    have h5 : (0 : Int) < 2 ^ 250 := Int.pow_pos (by decide)
    have : (0 : Int) ≤ 2 ^ k * valI k l := Int.mul_nonneg (Int.le_of_lt hp) i1
    omega
end
section
-- G3
variable {w : World}
noncomputable abbrev inV : Stmt := (dB (stAt 11)).getD 0 (.Pass default)
noncomputable abbrev fdV (cl : List (Str × Addr)) (doc pm c' ctv : Value) : FuncData := fnX "inner" "_digits2int.<locals>.inner" (dP inV) (dB inV) (dS inV) cl .none .none doc pm none c' ctv
theorem cloV (cl : List (Str × Addr)) (doc pm c' ctv : Value) : CloOk (fdV cl doc pm c' ctv) (dB inV) ["L", "R"] where
  hb := rfl
  gl := rfl
  bu := rfl
  bind := fun vs h => by
    obtain ⟨a, b, rfl⟩ := len2 h
    rfl
  nd := by decide +kernel
  ini := by decide +kernel
  k := by show ∀ x ∈ (["L", "R"] : List Str), (dS inV).names.lookup x = some .local; decide +kernel
  nc := by show ∀ x ∈ (dS inV).names, x.2 ≠ .cell; decide +kernel
  co := rfl
  gen := rfl
  kind := rfl
theorem Stm.seq {n : Nat} {sc : Scope} {r o r' o' : VL} {n₀ : Nat} {X₀ Wb : Addr → Prop} {sb : Shared} {env : Env} {s : Shared} {A : Around} {ad : Str → Addr} {st : Stmt} {rest : List Stmt} {Q : Flow → Shared → Prop} (h : Stm w n sc r o st (.next r' o')) (hs : env.scope = sc) (R : Rm n A) (S : StA n₀ X₀ Wb sb env r o s ad)
    (k : ∀ s' ad', StA n₀ X₀ Wb sb env r' o' s' ad' → wpAny (model PRG w) A (execs rest env) Q (fun _ _ => False) s') : wpAny (model PRG w) A (execs (st :: rest) env) Q (fun _ _ => False) s :=
  wpAny_execs_cons (wpAny_mono (h A n₀ X₀ Wb sb env s hs R ⟨ad, S⟩) (fun f s' p => by
    cases f with
    | next => obtain ⟨ad', S'⟩ := p; exact k s' ad' S'
    | brk => exact p.elim
    | cont => exact p.elim
    | ret v => exact p.elim) fun _ _ z => z.elim)
theorem StA.plain {r o : VL} {X : Addr → Prop} {env : Env} {s s' : Shared} (E : EffM (Mu env fun _ => False) s s') (hL : env.locals = s.heap.objs.size) (nc : ∀ y, env.kindOf y ≠ some .cell) : Eff s s' := E.toEff fun x mm => by
  rcases mm with mm | ⟨y, m1, m2⟩ | mm
  · rw [mm, hL]; exact Nat.le_refl _
  · exact absurd m1 (nc y)
  · exact mm.elim
theorem inner_one {n : Nat} {X : Addr → Prop} {fa : Addr} {cl : List (Str × Addr)} {doc pm c' ctv : Value} {ds : List Int} {k : Nat} (hl : ds.length ≤ 250) (hap : ∀ y z c, cl.lookup y = some c → cl.lookup z = some c → y = z) {a b : Nat} {A : Around} {s : Shared} (h1 : a + 1 = b) (hb : b ≤ ds.length) (R : Rm (n + 1) A)
    (C : CI X fa (fdV cl doc pm c' ctv) [("digits", .list (ds.map .int)), ("n", .int k), ("inner", .raw (.ref fa))] s) (vs : List Value) (hvs : RpL X s.heap [.int a, .int b] vs) : wpAny (model PRG w) A (call (.ref fa) vs) (fun v s' => EvP X s (.int (valI k (slc ds a b))) v s') (fun _ _ => False) s := by
  refine call_clo (n := n) (xs := ["L", "R"]) (Wb := fun _ => False) C.fn (cloV cl doc pm c' ctv) rfl R C.inv C.bnd hvs hap C.rf fun env s₁ hs hL hC R' E₁ S => ?_
  have hs' : env.scope = dS inV := hs
  have nc : ∀ y, env.kindOf y ≠ some .cell := fun y m1 => by
    have : (dS inV).names.lookup y = some .cell := by rw [← hs']; exact m1
    exact (cloV cl doc pm c' ctv).nc _ (PySem.mem_of_lookup this) rfl
  obtain ⟨x, hx1⟩ : ∃ x, ds[a]? = some x := ⟨_, List.getElem?_eq_getElem (by omega)⟩
  have hblk : Blk w n (dS inV) (([("L", .int a), ("R", .int b)] : VL) ++ ([("digits", .list (ds.map .int)), ("n", .int k), ("inner", .raw (.ref fa))] : VL)) [] (dB inV) (.ret (.int x)) := by
    refine Blk.last (Stm.ite (b := true) ?_ (fun _ => Blk.last (Stm.ret (EvS.item (ds := ds.map .int) (k := (a : Int)) (by walk_at "name") (by walk_at "name") (by omega) ?_ (by simp; omega)))) (fun q => by cases q))
    · refine TstS.cmp (a := .int ((a : Int) + 1)) (b := .int b) (by walk_at "ev") (by walk_at "name") ?_
      have := CmpS.eqI (w := w) (n := n) (a := (a : Int) + 1) (b := (b : Int))
      rw [show ((a : Int) + 1 == (b : Int)) = true by simp; omega] at this
      exact this
    · rw [Int.toNat_natCast, List.getElem?_map, hx1]; rfl
  refine wpAny_mono (hblk _ _ X (fun _ => False) s env s₁ hs' R' ⟨_, S⟩) (fun f s' q => ?_) fun _ _ z => z
  cases f with
  | ret v =>
    obtain ⟨q1, q2, q3⟩ := q
    refine ⟨StA.plain (r := []) (o := []) (X := X) q1 hL nc, q2, ?_⟩
    rw [← h1, slc_one hx1]
    have : valI k [x] = x := by simp [valI]
    rw [this]
    exact q3
  | next => exact q.elim
  | brk => exact q.elim
  | cont => exact q.elim
theorem inner_val {X : Addr → Prop} {fa : Addr} {cl : List (Str × Addr)} {doc pm c' ctv : Value} {ds : List Int} {k : Nat} (hk1 : 1 ≤ k) (hk : k ≤ 250) (hl : ds.length ≤ 250) (hdd : ∀ d ∈ ds, 0 ≤ d ∧ d < 2 ^ 250)
    (hap : ∀ y z c, cl.lookup y = some c → cl.lookup z = some c → y = z) : ∀ (m : Nat) (a b : Nat) (A : Around) (s : Shared), a < b → b ≤ ds.length → b - a ≤ 2 ^ m → Rm (m + 1) A → CI X fa (fdV cl doc pm c' ctv) [("digits", .list (ds.map .int)), ("n", .int k), ("inner", .raw (.ref fa))] s →
      ∀ vs, RpL X s.heap [.int a, .int b] vs → wpAny (model PRG w) A (call (.ref fa) vs) (fun v s' => EvP X s (.int (valI k (slc ds a b))) v s') (fun _ _ => False) s := by
  intro m
  induction m with
  | zero =>
    intro a b A s hab hb hm R C vs hvs
    exact inner_one (n := 0) hl hap (by simp at hm; omega) hb R C vs hvs
  | succ m ih =>
    intro a b A s hab hb hm R C vs hvs
    by_cases h1 : a + 1 = b
    · exact inner_one (n := m + 1) hl hap h1 hb R C vs hvs
    refine call_clo (n := m + 1) (xs := ["L", "R"]) (Wb := fun _ => False) C.fn (cloV cl doc pm c' ctv) rfl R C.inv C.bnd hvs hap C.rf fun env s₁ hs hL hC R' E₁ S => ?_
    have hs' : env.scope = dS inV := hs
    have nc : ∀ y, env.kindOf y ≠ some .cell := fun y m1 => by
      have : (dS inV).names.lookup y = some .cell := by rw [← hs']; exact m1
      exact (cloV cl doc pm c' ctv).nc _ (PySem.mem_of_lookup this) rfl
    obtain ⟨mid, hmid⟩ : ∃ mid, (a + b) / 2 = mid := ⟨_, rfl⟩
    have hmi : ((a : Int) + (b : Int)).fdiv (2 ^ (1 : Int).toNat) = (mid : Int) := by
      rw [show (2 : Int) ^ (1 : Int).toNat = 2 from rfl, Int.fdiv_eq_ediv_of_nonneg _ (by decide)]; omega
    have hma : a < mid := by omega
    have hmb : mid < b := by omega
    have hp2 : 2 ^ (m + 1) = 2 * 2 ^ m := by rw [Nat.pow_succ]; omega
    refine Stm.seq (Stm.skipIf ?c1) hs' R' S fun s₂ ad₂ S₂ => Stm.seq (Stm.assign (d := .int (mid : Int)) (.pure ?c2) (by walk_at "st") (by walk_at "sw")) hs' R' S₂ fun s₃ ad₃ S₃ =>
      Stm.seq (Stm.assign (d := .int (((mid : Int) - a) * k)) (.pure ?c3) (by walk_at "st") (by walk_at "sw")) hs' R' S₃ fun s₄ ad₄ S₄ => ?_
    case c1 =>
      refine TstS.cmp (a := .int ((a : Int) + 1)) (b := .int b) (by walk_at "ev") (by walk_at "name") ?_
      have := CmpS.eqI (w := w) (n := m + 1) (a := (a : Int) + 1) (b := (b : Int))
      rw [show ((a : Int) + 1 == (b : Int)) = false by simp; omega] at this
      exact this
    case c2 =>
      rw [← hmi]
      exact EvS.bin (EvS.bin (by walk_at "name") (by walk_at "name") BinS.add) EvS.int (BinS.shr (by decide))
    case c3 => exact EvS.bin (EvS.bin (by walk_at "name") (by walk_at "name") BinS.sub) (by walk_at "name") (BinS.mul (.inl (by omega)))
    have E₄ : Eff s s₄ := StA.plain (r := []) (o := []) (X := X) S₄.eff hL nc
    have C₄ := C.eff E₄ S₄.inv
    have V₄ : Vars X env _ s₄.heap := S₄.frz
    have hF : ∀ s', Eff s₄ s' → FnAt fa s'.heap := fun s' E => (C₄.fn.eff C₄.inv E (fun z => z) fun _ _ _ _ z => z).at'
    have hsp := slc_split (ds := ds) (Nat.le_of_lt hma) (Nat.le_of_lt hmb)
    have hlm := slc_len (ds := ds) (a := a) (b := mid) (by omega)
    have hlb := slc_len (ds := ds) (a := mid) (b := b) (by omega)
    have bd := valI_bound hk (slc ds mid b) fun d hd => hdd d (List.mem_of_mem_drop (List.mem_of_mem_take hd))
    have hval : valI k (slc ds mid b) * 2 ^ (((mid : Int) - a) * k).toNat + valI k (slc ds a mid) = valI k (slc ds a b) := by
      rw [hsp, valI_append, hlm]
      have : (((mid : Int) - a) * k).toNat = k * (mid - a) := by
        have : ((mid : Int) - a) * k = ((k * (mid - a) : Nat) : Int) := by
          push_cast [Int.ofNat_sub (Nat.le_of_lt hma)]
          rw [Int.mul_comm]
        rw [this, Int.toNat_natCast]
      rw [this, Int.mul_comm]; omega
    refine wpAny_execs_cons (wpAny_Return_some (wpAny_BinOp (wpAny_BinOp ?_)))
    refine eval_callF (ds := [.int mid, .int b]) (by walk_at "name") (by walk_at "evl") (by intro _; rfl) hs' R' C₄.inv V₄ hF fun vs₁ s₅ E₅ I₅ r₅ => ?_
    refine wpAny_mono (ih mid b _ s₅ hmb hb (by omega) (R'.less (by omega)) (C₄.eff E₅ I₅) vs₁ r₅) (fun v s₆ g => ?_) fun _ _ z => z
    obtain ⟨E₆, I₆, t, rfl⟩ := g
    have V₆ := V₄.eff (E₅.trans E₆) C₄.inv
    refine wpAny_mono ((show EvS w (m + 1) (dS inV) _ _ (.int (((mid : Int) - a) * k)) from by walk_at "name") _ s₆ env X hs' R' I₆ V₆) (fun v s₇ g => ?_) fun _ _ z => z
    obtain ⟨E₇, I₇, g3⟩ := g
    have hsh : 0 ≤ ((mid : Int) - a) * k := Int.mul_nonneg (by omega) (by omega)
    have hsh2 : ((mid : Int) - a) * k ≤ 250 * 250 := Int.mul_le_mul (by omega) (by omega) (by omega) (by decide)
    have hib : Builtin.Int.intBits (valI k (slc ds mid b)) ≤ 251 * 250 + 250 := by
      refine Nat.le_trans (intBits_le (k := 251 * (slc ds mid b).length + 250) ?_) (by omega)
      have : ((2 ^ (251 * (slc ds mid b).length + 250) : Nat) : Int) = (2 : Int) ^ (251 * (slc ds mid b).length + 250) := by rw [Int.natCast_pow]; rfl
      omega
    have X₇ := (V₆.eff E₇ I₆).bnd
    refine wpAny_mono (BinS.shlB (w := w) (n := m + 1) hsh (by omega) _ s₇ X _ _ R' I₇ X₇ ⟨t, rfl⟩ g3) (fun v s₈ g => ?_) fun _ _ z => z
    obtain ⟨E₈, I₈, t₈, rfl⟩ := g
    have E48 := (E₅.trans E₆).trans (E₇.trans E₈)
    have V₈ := V₄.eff E48 C₄.inv
    have hF8 : ∀ s', Eff s₈ s' → FnAt fa s'.heap := fun s' E => hF s' (E48.trans E)
    refine eval_callF (ds := [.int a, .int mid]) (by walk_at "name") (by walk_at "evl") (by intro _; rfl) hs' R' I₈ V₈ hF8 fun vs₂ s₉ E₉ I₉ r₉ => ?_
    refine wpAny_mono (ih a mid _ s₉ hma (by omega) (by omega) (R'.less (by omega)) (C₄.eff (E48.trans E₉) I₉) vs₂ r₉) (fun v s₁₀ g => ?_) fun _ _ z => z
    obtain ⟨E₁₀, I₁₀, t₁₀, rfl⟩ := g
    refine add_int ?_
    rw [hval]
    exact ⟨((E₄.trans E48).trans (E₉.trans E₁₀)).trans (Eff.tok s₁₀ _), I₁₀, _, rfl⟩
end
section
-- G4
variable {w : World}
theorem closOf_inv {cells : List (Str × Addr)} {x : Str} {c : Addr} : ∀ (l : List (Str × NameKind)) (acc : List (Str × Addr)), (closOf cells l acc).lookup x = some c → acc.lookup x = some c ∨ ((x, NameKind.free) ∈ l ∧ c = (cells.lookup x).getD 0)
  | [], acc, h => .inl h
  | (y, kd) :: l, acc, h => by
    unfold closOf at h
    cases hk : (kd == NameKind.free) with
    | true =>
      have hk' : kd = .free := by simpa using hk
      subst hk'
      simp only [if_true, hk] at h
      rcases closOf_inv l _ h with q | q
      · rw [List.lookup_cons] at q
        cases hx : (x == y) with
        | true =>
          have : x = y := by simpa using hx
          subst this
          rw [hx] at q; cases q
          exact .inr ⟨.head _, rfl⟩
        | false => rw [hx] at q; exact .inl q
      · exact .inr ⟨.tail _ q.1, q.2⟩
    | false =>
      simp only [hk, Bool.false_eq_true, if_false] at h
      exact (closOf_inv l _ h).imp id fun q => ⟨.tail _ q.1, q.2⟩
theorem clos_apart {n₀ : Nat} {X₀ Wb : Addr → Prop} {sb : Shared} {env : Env} {r o : VL} {s : Shared} {ad : Str → Addr} (S : StA n₀ X₀ Wb sb env r o s ad) {scope : Scope} (hfree : ∀ m, (m, NameKind.free) ∈ scope.names → env.kindOf m = some .cell) :
    ∀ y z c, (closOf env.cells scope.names []).lookup y = some c → (closOf env.cells scope.names []).lookup z = some c → y = z := fun y z c h1 h2 => by
  have key : ∀ x, (closOf env.cells scope.names []).lookup x = some c → env.cells.lookup x = some c := fun x h => by
    rcases closOf_inv _ _ h with q | ⟨q1, q2⟩
    · cases q
    · obtain ⟨c', v, e, _⟩ := S.cells x (hfree x q1)
      rw [e] at q2; rw [e, q2]; rfl
  exact S.apart y z c (key y h1) (key z h2)
theorem digits2int_S {n : Nat} : ValOk w (n + 10) := by
  intro k ds hk1 hk hl hdd A s X vs R I B hd
  obtain ⟨ob, oc, cvs, t, a, b, c, e, f, g, h⟩ := I.fns (70, fdT 11 "_digits2int" pmP 69, 69) (by walk_at "mem")
  refine call_core (n := n + 9) (fd := fdT 11 "_digits2int" pmP 69) (body := dB (stAt 11)) (xs := ["digits", "n"]) a c ⟨_, oc, cvs, t, e, f, g, h⟩ (by walk_at "fnok") rfl rfl R I B hd fun env s₁ hsc hco hL hq hMu R' S => ?_
  have hs : env.scope = dS (stAt 11) := hsc
  have hfree : ∀ m, (m, NameKind.free) ∈ (dS inV).names → env.kindOf m = some .cell := fun m hm => by
    have : m = "digits" ∨ m = "n" ∨ m = "inner" := by
      have key : ∀ p ∈ (dS inV).names, p.2 = .free → p.1 = "digits" ∨ p.1 = "n" ∨ p.1 = "inner" := by decide +kernel
      exact key _ hm rfl
    unfold Env.kindOf; rw [hs]
    rcases this with rfl | rfl | rfl <;> rfl
  have hqn : qualnameIn env "inner" "inner" = "_digits2int.<locals>.inner" := by
    unfold qualnameIn
    have : (env.kindOf "inner" == some .globalExplicit) = false := by unfold Env.kindOf; rw [hs]; rfl
    rw [this, hq]; rfl
  refine wpAny_execs_cons (wpAny_mono (def_inner (w := w) (sc := dS (stAt 11)) (p := (69, 65, dPos ((dB (stAt 11)).getD 0 (.Pass default)), "_digits2int.<locals>.inner")) (by simp [codTab]) (scope := dS inV) (name := "inner") (params := dP inV) (body := dB inV) hs hco S rfl rfl rfl hqn hfree (by walk_at "st")) (fun f s₂ q => ?_) fun _ _ z => z)
  obtain ⟨rfl, fa, doc, pm, c', ctv, hfa, S₂, hfn⟩ := q
  have V₂ : Vars X env _ s₂.heap := S₂.frz
  have toE : ∀ {s'}, EffM (Mu env fun _ => False) s s' → Eff s s' := fun E => E.toEff hMu
  have E₂ : Eff s s₂ := toE S₂.eff
  have hap := clos_apart S₂ hfree
  have B₂ : XB X s₂.heap := V₂.bnd
  have C₂ : CI X fa (fdV (closOf env.cells (dS inV).names []) doc pm c' ctv) [("digits", .list (ds.map .int)), ("n", .int k), ("inner", .raw (.ref fa))] s₂ := by
    refine ⟨hfn, S₂.inv, B₂, fun y d e => ?_⟩
    have key : ∀ (y : Str) (d : D), ([("inner", .raw (.ref fa)), ("digits", .list (ds.map .int)), ("n", .int k)] : VL).lookup y = some d → (dS inV).names.lookup y = some .free → env.kindOf y = some .cell → (y, NameKind.free) ∈ (dS inV).names →
        (dS inV).names.lookup y = some .free ∧ ∃ c v, (closOf env.cells (dS inV).names []).lookup y = some c ∧ s₂.heap.IsCell c (some v) ∧ Rp X s₂.heap d v := fun y d e h1 h2 h3 => by
      obtain ⟨c, v, q1, q2, q3⟩ := V₂.cel y d e (.inl h2)
      exact ⟨h1, c, v, closOf_lookup q1 _ _ (.inl h3), q2, q3⟩
    have hm : (y, d) ∈ ([("digits", .list (ds.map .int)), ("n", .int k), ("inner", .raw (.ref fa))] : VL) := mem_of_lookup e
    simp only [List.mem_cons, List.not_mem_nil, or_false, Prod.mk.injEq] at hm
    rcases hm with ⟨rfl, rfl⟩ | ⟨rfl, rfl⟩ | ⟨rfl, rfl⟩
    · exact key _ _ (by rfl) (by rfl) (hfree _ (mem_of_lookup (by rfl))) (mem_of_lookup (by rfl))
    · exact key _ _ (by rfl) (by rfl) (hfree _ (mem_of_lookup (by rfl))) (mem_of_lookup (by rfl))
    · exact key _ _ (by rfl) (by rfl) (hfree _ (mem_of_lookup (by rfl))) (mem_of_lookup (by rfl))
  have hF : ∀ s', Eff s₂ s' → FnAt fa s'.heap := fun s' E => (C₂.fn.eff C₂.inv E (fun z => z) fun _ _ _ _ z => z).at'
  refine wpAny_execs_cons (wpAny_Return_some (wpAny_IfExp (wpAny_mono ((TstS.val (w := w) (n := n + 9) (sc := dS (stAt 11)) (d := .list (ds.map .int)) (b := !(ds.map D.int).isEmpty) (by walk_at "name") (TruS.list (by simp; omega)) (by intro _ _; rfl)) _ s₂ env X hs R' S₂.inv V₂) (fun b' s₃ g => ?_) fun _ _ z => z)))
  obtain ⟨rfl, E₃, I₃⟩ := g
  have V₃ := V₂.eff E₃ S₂.inv
  by_cases hds : ds = []
  · subst hds
    refine wpAny_mono ((EvS.int (w := w) (n := n + 9) (sc := dS (stAt 11)) (r := _)) _ s₃ env X hs R' I₃ V₃) (fun v s₄ g => ?_) fun _ _ z => z
    exact (EvP.trans (E₂.trans E₃) g : EvP X s (.int 0) v s₄)
  · have hne : (!(ds.map D.int).isEmpty) = true := by
      cases ds with
      | nil => exact absurd rfl hds
      | cons a b => rfl
    rw [hne]
    have hpos : 0 < ds.length := List.length_pos_iff.mpr hds
    refine eval_callF (n := n + 9) (sc := dS (stAt 11)) (ds := [.int 0, .int ds.length]) (by walk_at "name") (EvL.cons EvS.int (EvL.cons ?ln EvL.nil (by intro _; rfl)) (by intro _; rfl)) (by intro _; rfl) hs R' I₃ V₃ (fun s' E => hF s' (E₃.trans E)) fun vs₁ s₄ E₄ I₄ r₄ => ?_
    case ln =>
      have := CallS.len (w := w) (n := n + 9) (ds := ds.map D.int) (by simp; omega)
      rw [List.length_map] at this
      exact EvS.call (fv := .builtin "len") (by walk_at "name") KeepOk.bui (by walk_at "evl") this
    refine wpAny_mono (inner_val hk1 hk hl hdd hap 8 0 ds.length _ s₄ hpos (Nat.le_refl _) (by simp; omega) (R'.less (by omega)) (C₂.eff (E₃.trans E₄) I₄) vs₁ r₄) (fun v s₅ g => ?_) fun _ _ z => z
    rw [slc_all] at g
    exact (EvP.trans (E₂.trans (E₃.trans E₄)) g : EvP X s (.int (valI k ds)) v s₅)
end
section
-- G5
variable {w : World}
section
variable {n : Nat} {sc : Scope} {r o r' o' : VL} {out : Out} {n₀ : Nat} {X₀ Wb : Addr → Prop} {sb : Shared} {env : Env} {s : Shared} {A : Around} {ad : Str → Addr}
theorem StA.newOwnC {x : Str} {vs : Array Value} {ds : List D} {tk : Nat} (S : StA n₀ X₀ Wb sb env r o s ad) (hs : env.scope = sc) (hd : RpL (OX X₀ o ad) s.heap ds vs.toList) (hk : sc.names.lookup x = some .cell) (hxo : ∀ p ∈ o, p.1 ≠ x) (hr : r.lookup x = none) :
    wpAny (model PRG w) A (storeName env x (.ref s.heap.objs.size)) (fun _ s' => St n₀ X₀ Wb sb env r ((x, .list ds) :: o) s') (fun _ _ => False) { s with heap := s.heap.push (LObj vs 0), toks := tk } := by
  have k := kindOf_eq hs hk
  have E : Eff s { s with heap := s.heap.push (LObj vs 0), toks := tk } := Eff.push s _ tk
  have S₁ := (S.rebase).step E (S.inv.push _)
  obtain ⟨m, nm, mi, hm⟩ := S₁.vars.ns
  obtain ⟨c, v₀, ec, hc⟩ := S₁.cells x k
  generalize hag : s.heap.objs.size = a at *
  have ha : (s.heap.push (LObj vs 0)).get? a = some (LObj vs 0) := by rw [← hag]; exact Heap.get?_push_size _ rfl
  have hn : s.heap.get? a = none := by rw [← hag]; exact Heap.get?_none_of_le (Nat.le_refl _)
  have haC : a ≠ c := fun z => by
    obtain ⟨o', e, d⟩ := hc
    rw [← z] at e
    have e' : (s.heap.push (LObj vs 0)).get? a = some o' := e
    rw [ha] at e'; cases e'; cases d
  have hna : n₀ ≤ a := by
    obtain ⟨m', nm', _⟩ := S.vars.ns
    exact Nat.le_trans S.lowL (Nat.le_of_lt (hag ▸ nm'.lt))
  have haT : a ∉ tabs := fun t => by
    have : a < 196 := by
      simp only [tabs, List.mem_cons, List.not_mem_nil, or_false] at t
      rcases t with t | t | t | t <;> rw [t] <;> decide
    exact absurd (Nat.le_trans S.n0 hna) (Nat.not_le.mpr this)
  refine wpAny_storeName_cell S.vars.kind k ec hc fun h' hc' hsb => ?_
  have hl : 196 ≤ c := Nat.le_trans S.n0 (S.lowC x c k ec)
  have nS := cell_notSeq hc
  have cL : c ≠ env.locals := fun z => ns_notCell nm (z ▸ hc)
  have sk : SK (OX X₀ o ad) (s.heap.push (LObj vs 0)) h' := fun b ob e c' _ => (hsb.2 b fun z => nS ob (z ▸ e) c').trans e
  have ha' : h'.get? a = some (LObj vs 0) := (hsb.2 a haC).trans ha
  let ad' : Str → Addr := fun y => if y = x then a else ad y
  have adx : ad' x = a := if_pos rfl
  have ado : ∀ p ∈ o, ad' p.1 = ad p.1 := fun p hp => if_neg (hxo p hp)
  have owx : ∀ b, OX X₀ ((x, .list ds) :: o) ad' b ↔ OX X₀ o ad b ∨ b = a := fun b => by
    constructor
    · rintro (y | ⟨p, hp, e⟩)
      · exact .inl (.inl y)
      · rcases List.mem_cons.mp hp with q | q
        · subst q; exact .inr (by rw [← e]; exact adx)
        · exact .inl (.inr ⟨p, q, by rw [← ado p q]; exact e⟩)
    · rintro ((y | ⟨p, hp, e⟩) | y)
      · exact .inl y
      · exact .inr ⟨p, .tail _ hp, by rw [ado p hp]; exact e⟩
      · exact .inr ⟨(x, .list ds), .head _, by rw [y]; exact adx⟩
  have hY : ∀ b, OX X₀ ((x, .list ds) :: o) ad' b → OX X₀ o ad b ∨ s.heap.get? b = none := fun b y => ((owx b).mp y).imp id fun z => by rw [z]; exact hn
  have sk0 : SK (OX X₀ o ad) s.heap h' := fun b ob e c hx => sk b ob (Heap.get?_push_of_some _ e) c hx
  have XB' : XB (OX X₀ ((x, .list ds) :: o) ad') h' := fun b y => by
    rcases (owx b).mp y with y | y
    · obtain ⟨t, ob, e⟩ := S₁.vars.bnd b y
      exact ⟨t, ob, (hsb.2 b fun z => S₁.nXC k ec (z ▸ y)).trans e⟩
    · subst y; exact ⟨haT, _, ha'⟩
  have cellKeep : ∀ y c' v, env.cells.lookup y = some c' → y ≠ x → s.heap.IsCell c' v → h'.IsCell c' v := fun y c' v e hy ⟨ob, e2, e4⟩ => by
    have : c' ≠ c := fun z => hy (S.apart y x c (z ▸ e) ec)
    exact ⟨ob, (hsb.2 c' this).trans (Heap.get?_push_of_some _ e2), e4⟩
  refine ⟨ad', S.back (r' := r) ⟨E.toM.trans ⟨rfl, fun _ _ e => e, id, fun b ob e _ q => (hsb.2 b fun z => q (.inr (.inl ⟨x, k, z ▸ ec⟩))).trans e⟩, fun p hp => ?_, S₁.inv.same hl hsb (cell_notCod hc), ⟨XB', S.vars.kind, S.vars.glo, S.vars.bui, ?_, fun y d e q => ?_⟩, S.n0, S.xlow, S.lowL, S.lowC, fun y ky => ?_, S.apart, fun p hp => ?_, ?_⟩⟩
  · rcases List.mem_cons.mp hp with q | q
    · subst q; exact .inr (by rw [show ad' x = a from adx]; exact hn)
    · exact .inl ⟨p, q, (ado p q).symm⟩
  · obtain ⟨m0, nm0, mi0, hm0⟩ := S.vars.ns
    refine ⟨m0, nm0.at' fun ob e => (hsb.2 _ (Ne.symm cL)).trans (Heap.get?_push_of_some _ e), mi0, fun y d e q => ?_⟩
    obtain ⟨v, e1, e2⟩ := hm0 y d e q
    exact ⟨v, e1, e2.mono hY sk0⟩
  · have hy : y ≠ x := fun z => by rw [z, hr] at e; cases e
    obtain ⟨c', v, e1, e2, e3⟩ := S.vars.cel y d e q
    exact ⟨c', v, e1, cellKeep y c' _ e1 hy e2, e3.mono hY sk0⟩
  · by_cases hy : y = x
    · subst hy; exact ⟨c, _, ec, hc'⟩
    · obtain ⟨c', v, e, h⟩ := S.cells y ky
      exact ⟨c', v, e, cellKeep y c' _ e hy h⟩
  · rcases List.mem_cons.mp hp with q | q
    · subst q
      rw [show ad' x = a from adx]
      exact ⟨hna, ⟨vs, 0, ha', hd.mono hY sk0⟩, .inr ⟨k, c, ec, hc'⟩⟩
    · obtain ⟨h1, h2, h3⟩ := S.own p q
      rw [ado p q]
      refine ⟨h1, h2.keep (fun ob e => (hsb.2 _ fun z => ?_).trans (Heap.get?_push_of_some _ e)) hY sk0, ?_⟩
      · have e2 : (s.heap.push (LObj vs 0)).get? (ad p.1) = some ob := Heap.get?_push_of_some _ e
        exact S₁.cellOwn q hc z
      · rcases h3 with ⟨h3, m', h4, h5⟩ | ⟨h3, c', h4, h5⟩
        · exact .inl ⟨h3, m', h4.at' fun ob e => (hsb.2 _ (Ne.symm cL)).trans (Heap.get?_push_of_some _ e), h5⟩
        · exact .inr ⟨h3, c', h4, cellKeep p.1 c' _ h4 (hxo p q) h5⟩
  · refine List.pairwise_cons.mpr ⟨fun p hp => ⟨Ne.symm (hxo p hp), ?_⟩, ?_⟩
    · rw [show ad' x = a from adx, ado p hp]
      intro z
      obtain ⟨ob, vs, k, e1, _⟩ := (S.own p hp).2.1.get
      rw [← z, hn] at e1; cases e1
    · refine List.Pairwise.imp_of_mem (fun {p q} hp hq h => ?_) S.dist
      rw [ado p hp, ado q hq]; exact h
theorem StA.changeE {x : Str} {d d' : D} {s' : Shared} (S : StA n₀ X₀ Wb sb env r o s ad) (hx : (x, d) ∈ o) (E : EffM (fun a => a = ad x) s s') (I : Inv s'.heap) (hd : OwnC (OX X₀ o ad) s'.heap (ad x) d') :
    StA n₀ X₀ Wb sb env r (setO x d' o) s' ad := by
  have hn := (S.own _ hx).1
  have h196 : 196 ≤ ad x := Nat.le_trans S.n0 hn
  have xX : OX X₀ o ad (ad x) := .inr ⟨_, hx, rfl⟩
  have sk : SK (OX X₀ o ad) s.heap s'.heap := E.sk S.inv fun a e => .inl (e ▸ xX)
  have hT : ad x ∉ tabs := fun t => by
    have : ad x < 196 := by
      simp only [tabs, List.mem_cons, List.not_mem_nil, or_false] at t
      rcases t with t | t | t | t <;> rw [t] <;> decide
    exact absurd h196 (Nat.not_le.mpr this)
  have k : ∀ b ob, b ≠ ad x → b ∉ tabs → s.heap.get? b = some ob → s'.heap.get? b = some ob := fun b ob hb t e => E.keep b ob e t hb
  have hL : env.locals ≠ ad x := Ne.symm (S.nsOwn hx)
  have hLt : env.locals ∉ tabs := by obtain ⟨m, nm, _⟩ := S.vars.ns; exact S.inv.ns_notTab nm
  have kL : ∀ ob, s.heap.get? env.locals = some ob → s'.heap.get? env.locals = some ob := fun ob e => k _ _ hL hLt e
  have kC : ∀ c v, s.heap.IsCell c v → ∀ ob, s.heap.get? c = some ob → s'.heap.get? c = some ob := fun c v hc ob e => k c ob (fun z => S.cellOwn hx hc z.symm) (S.inv.cell_notTab hc) e
  have XB' : XB (OX X₀ (setO x d' o) ad) s'.heap := fun b y => by
    rw [OX_setO] at y
    by_cases hb : b = ad x
    · subst hb
      obtain ⟨ob, vs, kk, e, _⟩ := hd.get
      exact ⟨hT, ob, e⟩
    · obtain ⟨t, ob, e⟩ := S.vars.bnd b y
      exact ⟨t, ob, k b ob hb t e⟩
  have mem : ∀ p ∈ setO x d' o, ∃ q ∈ o, q.1 = p.1 ∧ (p.1 ≠ x → p = q) ∧ (p.1 = x → p.2 = d') := fun p hp => by
    unfold setO at hp
    obtain ⟨q, hq, e⟩ := List.mem_map.mp hp
    by_cases h : q.1 = x
    · rw [if_pos h] at e; subst e; exact ⟨q, hq, h, fun z => absurd rfl z, fun _ => rfl⟩
    · rw [if_neg h] at e; subst e; exact ⟨q, hq, rfl, fun _ => rfl, fun z => absurd z h⟩
  refine ⟨?_, fun p hp => ?_, I, ?_, S.n0, S.xlow, S.lowL, S.lowC, fun y ky => ?_, S.apart, fun p hp => ?_, ?_⟩
  · refine ⟨E.os.trans S.eff.os, fun g gs e => E.gens g gs (S.eff.gens g gs e), fun q => E.bare (S.eff.bare q), fun a ob e t m => k a ob (fun z => ?_) t (S.eff.keep a ob e t m)⟩
    rcases S.ownB _ hx with y | y
    · exact m (.inr (.inr (z ▸ y)))
    · rw [← z, e] at y; cases y
  · obtain ⟨q, hq, e, _⟩ := mem p hp
    rw [← e]; exact S.ownB q hq
  · have V := S.vars.step (h' := s'.heap) (X := OX X₀ o ad) (by rw [OX_setO] at XB'; exact XB') kL kC sk
    rw [OX_setO]; exact V
  · obtain ⟨c, v, e, h⟩ := S.cells y ky
    obtain ⟨ob, e2, e4⟩ := id h
    exact ⟨c, v, e, ⟨ob, kC c v h ob e2, e4⟩⟩
  · obtain ⟨q, hq, e, h1, h2⟩ := mem p hp
    obtain ⟨g1, g2, g3⟩ := S.own q hq
    rw [OX_setO]
    refine ⟨e ▸ g1, ?_, e ▸ g3.keep kL kC⟩
    by_cases hpx : p.1 = x
    · rw [hpx, h2 hpx]; exact hd
    · rw [h1 hpx]
      obtain ⟨ob1, vs1, k1, e1, d1, _⟩ := g2.get
      refine g2.keep (fun ob e' => k _ _ (fun z => ?_) (S.inv.notTab e' (.inr (by rw [e1] at e'; cases e'; rw [d1]; nofun))) e') (fun _ y => .inl y) sk
      have hqx : q.1 ≠ x := e ▸ hpx
      have key : ∀ {l : VL}, (l.Pairwise fun p q => p.1 ≠ q.1 ∧ ad p.1 ≠ ad q.1) → q ∈ l → (x, d) ∈ l → ad q.1 ≠ ad x := fun {l} hl => by
        induction l with
        | nil => intro h; cases h
        | cons a l ih =>
          obtain ⟨l1, l2⟩ := List.pairwise_cons.mp hl
          intro h h'
          rcases List.mem_cons.mp h with h | h <;> rcases List.mem_cons.mp h' with h' | h'
          · rw [← h'] at h; exact absurd (by rw [h]) hqx
          · rw [h]; exact (l1 _ h').2
          · have := (l1 _ h).2; rw [← h'] at this; exact fun z => this z.symm
          · exact ih l2 h h'
      exact key S.dist hq hx z
  · have hp : ∀ (l : VL), (l.Pairwise fun p q => p.1 ≠ q.1 ∧ ad p.1 ≠ ad q.1) ↔ ((l.map (·.1)).Pairwise fun x y => x ≠ y ∧ ad x ≠ ad y) := fun l => by rw [List.pairwise_map]
    rw [hp, setO_names, ← hp]; exact S.dist
end
theorem mulL_core {n : Nat} {a : List D} {b : Int} (hlo : -(2 ^ 63 : Int) ≤ b) (hhi : b < 2 ^ 63) (h : a.length * b.toNat ≤ 2 ^ 24) {A : Around} {s : Shared} {X : Addr → Prop} {va vb : Value} (p : Rp X s.heap (.list a) va) (q : Rp X s.heap (.int b) vb) {Q : Value → Shared → Prop}
    (hQ : ∀ arr : Array Value, RpL X s.heap (List.replicate b.toNat a).flatten arr.toList → Q (.ref s.heap.objs.size) { s with heap := s.heap.push (LObj arr 0), toks := s.toks }) : wpAny (model PRG w) A (binaryOp .Mult va vb) Q (fun _ _ => False) s := by
  unfold Rp at p
  obtain ⟨l, vs, k, rfl, hx, hl, hr⟩ := p
  obtain ⟨u, rfl⟩ := q
  have e1 := hr.length
  simp only [Array.length_toList] at e1
  have hsz : vs.size * b.toNat ≤ 2 ^ 24 := by rw [e1]; exact h
  refine wpAny_binaryOp_repeat_ref (T := "list") (U := "int") (by decide) ⟨_, hl, rfl⟩ (fun s' => typeIs_int s' b u) noFill_list_mul F.fills_int_mul F.slot_int_rmul repeat_list F.slot_int_index.lookup
    (call_meets F.slot_int_rmul (typeIs_int s b u) F.entry_int_rmul (F.args_int_rmul_2 _ _) (int___rmul___int_list b u l vs k)
      ⟨hl, rfl, ⟨_, hl, rfl⟩, call_meets F.slot_list_mul ⟨_, hl, rfl⟩ F.entry_list_mul (F.args_list_mul_2 _ _)
        (AutoListH.list___mul___list_int_3 l vs k b u (by simp [Builtin.List.listFitsIndex]; omega) (by omega) (by simp [Builtin.List.listTooLong, sizeLine]; omega))
        ⟨hl, hQ _ ?_⟩⟩)
  rw [foldl_flat]
  cases hv : vs.isEmpty with
  | true =>
    have : vs = #[] := by simpa using hv
    subst this
    have : a = [] := by simpa using e1.symm
    subst this
    simpa using RpL.nil
  | false =>
    simp only [Bool.false_eq_true, if_false, List.map_replicate]
    simpa using hr.rep b.toNat
end
section
-- G6
variable {w : World}
noncomputable abbrev inD : Stmt := (dB (stAt 10)).getD 1 (.Pass default)
noncomputable abbrev fdD (cl : List (Str × Addr)) (doc pm c' ctv : Value) : FuncData := fnX "inner" "_int2digits.<locals>.inner" (dP inD) (dB inD) (dS inD) cl .none .none doc pm none c' ctv
theorem cloD (cl : List (Str × Addr)) (doc pm c' ctv : Value) : CloOk (fdD cl doc pm c' ctv) (dB inD) ["x", "L", "R"] where
  hb := rfl
  gl := rfl
  bu := rfl
  bind := fun vs h => by
    obtain ⟨a, b, c, rfl⟩ := len3 h
    rfl
  nd := by decide +kernel
  ini := by decide +kernel
  k := by show ∀ x ∈ (["x", "L", "R"] : List Str), (dS inD).names.lookup x = some .local; decide +kernel
  nc := by show ∀ x ∈ (dS inD).names, x.2 ≠ .cell; decide +kernel
  co := rfl
  gen := rfl
  kind := rfl
theorem EffM.swap {Mu Mu' : Addr → Prop} {s s' : Shared} (a : EffM Mu s s') (h : ∀ x, Mu x → Mu' x ∨ s.heap.objs.size ≤ x) : EffM Mu' s s' :=
  ⟨a.os, a.gens, a.bare, fun x o e t m => a.keep x o e t fun q => (h x q).elim m fun z => absurd (Heap.lt_size e) (Nat.not_lt.mpr z)⟩
theorem listNe {h : Heap} {la b : Addr} {vs : Array Value} {k : Nat} {o : Obj} (e : h.get? la = some (LObj vs k)) (e' : h.get? b = some o) (hd : ∀ vs k, o.data ≠ .seq vs k) : b ≠ la := fun z => by
  rw [z, e] at e'; cases e'; exact hd vs k rfl
theorem Vars.effW {X : Addr → Prop} {env : Env} {r : VL} {s s' : Shared} {la : Addr} {vs vs' : Array Value} {k k' : Nat} (V : Vars X env r s.heap) (I : Inv s.heap) (hX : X la) (e : s.heap.get? la = some (LObj vs k)) (e' : s'.heap.get? la = some (LObj vs' k')) (E : EffM (fun a => a = la) s s') : Vars X env r s'.heap := by
  refine V.step (fun b y => ?_) (fun o q => ?_) (fun c v hc o q => ?_) (E.sk I fun x m => .inl (m ▸ hX))
  · obtain ⟨t, o, q⟩ := V.bnd b y
    by_cases hb : b = la
    · subst hb; exact ⟨t, _, e'⟩
    · exact ⟨t, o, E.keep b o q t hb⟩
  · obtain ⟨m, nm, _⟩ := V.ns
    refine E.keep _ _ q (I.ns_notTab nm) (listNe e q fun vs k h => ?_)
    obtain ⟨o', es, ep, q1, q2, _⟩ := nm
    rw [q] at q1; cases q1; rw [h] at q2; cases q2
  · obtain ⟨o', q1, q2⟩ := id hc
    rw [q] at q1; cases q1
    exact E.keep _ _ q (I.cell_notTab hc) (listNe e q fun vs k h => by rw [h] at q2; cases q2)
theorem CI.effW {X : Addr → Prop} {fa : Addr} {fd : FuncData} {rf : VL} {s s' : Shared} {la : Addr} {vs vs' : Array Value} {k k' : Nat} (x : CI X fa fd rf s) (hX : X la) (e : s.heap.get? la = some (LObj vs k)) (e' : s'.heap.get? la = some (LObj vs' k')) (E : EffM (fun a => a = la) s s') (I : Inv s'.heap) : CI X fa fd rf s' :=
  ⟨x.fn.eff x.inv E (fun z => by
      obtain ⟨o, q, cl, dt, _⟩ := x.fn
      exact listNe e q (fun vs k h => by rw [h] at dt; cases dt) z) fun o a hc q => by
        obtain ⟨vs, q', t, e1, e2⟩ := hc
        exact listNe e q (fun vs k h => by rw [h] at e1; cases e1), I, fun b y => by
      obtain ⟨t, o, q⟩ := x.bnd b y
      by_cases hb : b = la
      · subst hb; exact ⟨t, _, e'⟩
      · exact ⟨t, o, E.keep b o q t hb⟩, fun y d q => by
    obtain ⟨a, c, v, b1, b2, b3⟩ := x.rf y d q
    refine ⟨a, c, v, b1, ?_, b3.keep (E.sk x.inv fun x m => .inl (m ▸ hX))⟩
    obtain ⟨o, q1, q2⟩ := id b2
    exact ⟨o, E.keep _ _ q1 (x.inv.cell_notTab b2) (listNe e q1 fun vs k h => by rw [h] at q2; cases q2), q2⟩⟩
noncomputable def dg (k m x : Nat) : List Int := (List.range m).map fun j => ((x / 2 ^ (k * j) % 2 ^ k : Nat) : Int)
theorem dg_len {k m x : Nat} : (dg k m x).length = m := by simp [dg]
theorem dg_one {k x : Nat} (h : x < 2 ^ k) : dg k 1 x = [(x : Int)] := by
  have : x % 2 ^ k = x := Nat.mod_eq_of_lt h
  unfold dg
  simp only [List.range_succ, List.range_zero, List.nil_append, List.map_cons, List.map_nil, Nat.mul_zero, Nat.pow_zero, Nat.div_one, this]
theorem dg_split {k a b x : Nat} : dg k (a + b) x = dg k a (x % 2 ^ (k * a)) ++ dg k b (x / 2 ^ (k * a)) := by
  unfold dg
  rw [List.range_add, List.map_append, List.map_map]
  congr 1
  · refine List.map_congr_left fun j hj => ?_
    have hj := List.mem_range.mp hj
    congr 1
    have e : k * a = k * j + k + k * (a - j - 1) := by
      obtain ⟨t, rfl⟩ : ∃ t, a = j + 1 + t := ⟨a - j - 1, by omega⟩
      have : j + 1 + t - j - 1 = t := by omega
      rw [this, Nat.mul_add, Nat.mul_add, Nat.mul_one]
    rw [e, Nat.pow_add, Nat.pow_add, Nat.mul_assoc, Nat.mod_mul_right_div_self, Nat.mod_mul_right_mod]
  · refine List.map_congr_left fun j hj => ?_
    simp only [Function.comp]
    rw [Nat.mul_add, Nat.pow_add, Nat.div_div_eq_div_mul]
theorem xor_mod (x s : Nat) : Builtin.bitXor (x : Int) (((x / 2 ^ s : Nat) : Int) * 2 ^ s) = ((x % 2 ^ s : Nat) : Int) := by
  have e : ((x / 2 ^ s : Nat) : Int) * 2 ^ s = ((x / 2 ^ s * 2 ^ s : Nat) : Int) := by
    rw [Int.natCast_mul, Int.natCast_pow]; rfl
  rw [e, bitXor_and, bitAnd_pp (by omega) (by omega), Int.toNat_natCast, Int.toNat_natCast]
  have h : x &&& (x / 2 ^ s * 2 ^ s) = x / 2 ^ s * 2 ^ s := by
    apply Nat.eq_of_testBit_eq
    intro i
    rw [Nat.testBit_and, Nat.testBit_mul_two_pow, Nat.testBit_div_two_pow]
    by_cases hi : s ≤ i
    · simp [hi]
    · simp [hi]
  rw [h]
  have := Nat.div_add_mod' x (2 ^ s)
  omega
noncomputable def putAt (cur : List Int) (a : Nat) (l : List Int) : List Int := cur.take a ++ l ++ cur.drop (a + l.length)
theorem putAt_len {cur l : List Int} {a : Nat} (h : a + l.length ≤ cur.length) : (putAt cur a l).length = cur.length := by
  unfold putAt; simp; omega
theorem putAt_one {cur : List Int} {a : Nat} {x : Int} (h : a < cur.length) : putAt cur a [x] = cur.set a x := by
  unfold putAt
  rw [List.set_eq_take_append_cons_drop, if_pos h]
  simp
theorem putAt_two {cur l l' : List Int} {a : Nat} (h : a + l.length ≤ cur.length) : putAt (putAt cur a l) (a + l.length) l' = putAt cur a (l ++ l') := by
  unfold putAt
  have e1 : (cur.take a ++ l).length = a + l.length := by simp; omega
  have e2 : ((cur.take a ++ l) ++ cur.drop (a + l.length)).take (a + l.length) = cur.take a ++ l := by
    rw [← e1, List.take_left]
  have e3 : ((cur.take a ++ l) ++ cur.drop (a + l.length)).drop (a + l.length + l'.length) = cur.drop (a + (l.length + l'.length)) := by
    rw [← List.drop_drop, ← e1, List.drop_left, e1, List.drop_drop, Nat.add_assoc]
  rw [e2, e3]
  simp only [List.append_assoc, List.length_append]
theorem putAt_all {cur l : List Int} (h : l.length = cur.length) : putAt cur 0 l = l := by
  unfold putAt; simp [h]
theorem rplI {X Y : Addr → Prop} {h h' : Heap} : ∀ {l : List Int} {vs : List Value}, RpL X h (l.map .int) vs → RpL Y h' (l.map .int) vs
  | [], _, x => x.nil_inv ▸ RpL.nil
  | d :: ds, _, x => by
    obtain ⟨v, r, rfl, a, b⟩ := x.cons_inv
    exact RpL.cons a (rplI b)
noncomputable abbrev LsI (h : Heap) (la : Addr) (l : List Int) : Prop := ∃ vs k, h.get? la = some (LObj vs k) ∧ RpL (fun _ => False) h (l.map .int) vs.toList
theorem LsI.eff {s s' : Shared} {la : Addr} {l : List Int} (x : LsI s.heap la l) (E : Eff s s') (I : Inv s.heap) : LsI s'.heap la l := by
  obtain ⟨vs, k, e, r⟩ := x
  exact ⟨vs, k, E.keep _ _ e (I.notTab e (.inl (by nofun))) (fun z => z), rplI r⟩
theorem setItem_ownI {prog : Program} {E : Value → Shared → Prop} {A : Around} {s : Shared} {l : Addr} {vs : Array Value} {n : Nat} {k : Int} {t : Tok} {v : Value} {Q : Unit → Shared → Prop} (e : s.heap.get? l = some (LObj vs n)) (h0 : 0 ≤ k) (hfit : k < 2 ^ 63) (hn : k < vs.size)
    (hQ : ∀ h', h'.get? l = some (LObj (vs.setIfInBounds k.toNat v) n) → (∀ b o, b ≠ l → s.heap.get? b = some o → h'.get? b = some o) → Q () { s with heap := h' }) : wpAny (model prog w) A (setItem (.ref l) (.int k t) v) Q E s := by
  have hl : s.heap.IsList l vs := LObj.isList e
  unfold setItem
  try with_reducible refine wpAny_holding ?_
  refine wpAny_bind (wpAny_sequenceKey hl.typeIs (by decide) ?_)
  refine wpAny_bind (wpAny_callSpecial?_slot (name := Str.ofString "__setitem__") hl.typeIs slot_list_setitem
    (wpAny_call_entry slot_list_setitem hl.typeIs entry_list_setitem ?_ (args_list_setitem _ _ _)))
  show wpAny _ _ (Builtin.List.listSubscript? (.int k t) >>= _) _ _ s
  refine wpAny_bind (wpAny_listSubscript_int (fitsIndex_of h0 hfit) ?_)
  clear hfit
  obtain ⟨j, rfl⟩ := Int.eq_ofNat_of_zero_le h0
  have hj : j < vs.size := by omega
  show wpAny _ _ ((seqItemAt l j >>= fun r => pure (r.map (j, ·))) >>= _) _ _ s
  refine wpAny_bind (wpAny_bind (wpAny_seqItemAt e rfl (wpAny_pure ?_)))
  rw [show vs[j]? = some vs[j] from Array.getElem?_eq_getElem hj]
  show wpAny _ _ (setSeqItemAt l j v >>= _) _ _ s
  have hm : Obj.mapSeq (·.setIfInBounds j v) (LObj vs n) = LObj (vs.setIfInBounds j v) n := by simp [Obj.mapSeq]
  have fin : (s.heap.update l (Obj.mapSeq (·.setIfInBounds j v))).get? l = some (LObj (vs.setIfInBounds j v) n) := by
    rw [Heap.get?_update_self _ e (by rw [hm]; rfl), hm]
  have sb : Heap.SameBut l s.heap (s.heap.update l (Obj.mapSeq (·.setIfInBounds j v))) := Heap.SameBut.update ..
  refine wpAny_bind (wpAny_setSeqItemAt e rfl ?_)
  first
    | exact wpAny_bind (wpAny_pure (wpAny_pure ⟨.none, rfl, wpAny_pure (hQ _ fin fun b o hb q => (sb.2 b hb).trans q)⟩))
    | exact wpAny_pure ⟨.none, rfl, wpAny_pure (hQ _ fin fun b o hb q => (sb.2 b hb).trans q)⟩
theorem setItem_own {prog : Program} {E : Value → Shared → Prop} {A : Around} {s : Shared} {l : Addr} {vs : Array Value} {n : Nat} {k : Nat} {t : Tok} {v : Value} {Q : Unit → Shared → Prop} (e : s.heap.get? l = some (LObj vs n)) (hn : k < vs.size) (hfit : (k : Int) < 2 ^ 63)
    (hQ : ∀ h', h'.get? l = some (LObj (vs.setIfInBounds k v) n) → (∀ b o, b ≠ l → s.heap.get? b = some o → h'.get? b = some o) → Q () { s with heap := h' }) : wpAny (model prog w) A (setItem (.ref l) (.int k t) v) Q E s :=
  setItem_ownI e (by omega) hfit (by omega) (by rw [Int.toNat_natCast]; exact hQ)
theorem rpl_setI {X : Addr → Prop} {h : Heap} {x : Int} {t : Tok} : ∀ {l : List Int} {vs : List Value} {a : Nat}, RpL X h (l.map .int) vs → RpL X h ((l.set a x).map .int) (vs.set a (.int x t))
  | [], vs, a, r => by have := r.nil_inv; subst this; exact RpL.nil
  | d :: ds, _, 0, r => by obtain ⟨v, vs', rfl, p, q⟩ := r.cons_inv; exact RpL.cons ⟨t, rfl⟩ q
  | d :: ds, _, a + 1, r => by obtain ⟨v, vs', rfl, p, q⟩ := r.cons_inv; exact RpL.cons p (rpl_setI q)
theorem digI_one {n : Nat} {X : Addr → Prop} {fa la : Addr} {cl : List (Str × Addr)} {doc pm c' ctv : Value} {k x : Nat} {cur : List Int} (hX : X la) (hla : 196 ≤ la) (hl : cur.length ≤ 250) (hap : ∀ y z c, cl.lookup y = some c → cl.lookup z = some c → y = z) {a b : Nat} {A : Around} {s : Shared} (h1 : a + 1 = b) (hb : b ≤ cur.length) (R : Rm (n + 1) A)
    (C : CI X fa (fdD cl doc pm c' ctv) [("a_digits", .raw (.ref la)), ("n", .int k), ("inner", .raw (.ref fa))] s) (hL : LsI s.heap la cur) (vs : List Value) (hvs : RpL X s.heap [.int x, .int a, .int b] vs) :
    wpAny (model PRG w) A (call (.ref fa) vs) (fun v s' => v = .none ∧ EffM (fun c => c = la) s s' ∧ Inv s'.heap ∧ LsI s'.heap la (cur.set a x)) (fun _ _ => False) s := by
  refine call_clo (n := n) (xs := ["x", "L", "R"]) (Wb := fun c => c = la) C.fn (cloD cl doc pm c' ctv) rfl R C.inv C.bnd hvs hap C.rf fun env s₁ hs hLo hC R' E₁ S => ?_
  have hs' : env.scope = dS inD := hs
  have nc : ∀ y, env.kindOf y ≠ some .cell := fun y m1 => by
    have : (dS inD).names.lookup y = some .cell := by rw [← hs']; exact m1
    exact (cloD cl doc pm c' ctv).nc _ (PySem.mem_of_lookup this) rfl
  have V₁ : Vars X env _ s₁.heap := S.frz
  refine wpAny_execs_cons (wpAny_If (wpAny_mono ((?t : TstS w n (dS inD) _ _ true) _ s₁ env X hs' R' S.inv V₁) (fun b' s₂ g => ?_) fun _ _ z => z))
  case t =>
    refine TstS.cmp (a := .int ((a : Int) + 1)) (b := .int b) (by walk_at "ev") (by walk_at "name") ?_
    have := CmpS.eqI (w := w) (n := n) (a := (a : Int) + 1) (b := (b : Int))
    rw [show ((a : Int) + 1 == (b : Int)) = true by simp; omega] at this
    exact this
  obtain ⟨rfl, E₂, I₂⟩ := g
  have V₂ := V₁.eff E₂ S.inv
  refine wpAny_execs_cons (wpAny_Assign_Subscript (wpAny_mono ((show EvS w n (dS inD) _ _ (.int x) from by walk_at "name") _ s₂ env X hs' R' I₂ V₂) (fun v s₃ g => ?_) fun _ _ z => z) (by rfl))
  obtain ⟨E₃, I₃, t, rfl⟩ := g
  have V₃ := V₂.eff E₃ I₂
  refine wpAny_mono ((show EvS w n (dS inD) _ _ (.raw (.ref la)) from by walk_at "name") _ s₃ env X hs' R' I₃ V₃) (fun v s₄ g => ?_) fun _ _ z => z
  obtain ⟨E₄, I₄, g3⟩ := g
  cases (show v = _ from g3)
  have V₄ := V₃.eff E₄ I₃
  refine wpAny_mono ((show EvS w n (dS inD) _ _ (.int a) from by walk_at "name") _ s₄ env X hs' R' I₄ V₄) (fun v s₅ g => ?_) fun _ _ z => z
  obtain ⟨E₅, I₅, t', rfl⟩ := g
  have E15 : Eff s s₅ := E₁.trans ((E₂.trans E₃).trans (E₄.trans E₅))
  obtain ⟨vs₁, kk, e1, r1⟩ := hL.eff E15 C.inv
  have hz := r1.length
  simp only [Array.length_toList, List.length_map] at hz
  refine setItem_own (k := a) e1 (by omega) (by omega) fun h' g1 g2 => ?_
  refine wpAny_execs_cons (wpAny_Return_none ?_)
  have sk : EffM (fun c => c = la) s₅ { s₅ with heap := h' } := ⟨rfl, fun _ _ e => e, id, fun b o e _ m => g2 b o m e⟩
  refine ⟨rfl, E15.toM.trans sk, I₅.low (fun b o hb e => g2 b o (fun z => by rw [z] at hb; exact absurd hla (Nat.not_le.mpr hb)) e) (fun b o hc e => g2 b o (fun z => seq_notCod (a := la) e1 rfl o (by rw [← z]; exact e) hc) e), _, _, g1, ?_⟩
  have := rpl_setI (x := x) (t := t) (a := a) r1
  rw [Array.toList_setIfInBounds]
  exact rplI this
end
section
-- G7
variable {w : World}
theorem LsI.get {h : Heap} {la : Addr} {l : List Int} (x : LsI h la l) : ∃ vs k, h.get? la = some (LObj vs k) := by
  obtain ⟨vs, k, e, _⟩ := x; exact ⟨vs, k, e⟩
theorem digI_all {X : Addr → Prop} {fa la : Addr} {cl : List (Str × Addr)} {doc pm c' ctv : Value} {k : Nat} (hk1 : 1 ≤ k) (hk : k ≤ 250) (hX : X la) (hla : 196 ≤ la)
    (hap : ∀ y z c, cl.lookup y = some c → cl.lookup z = some c → y = z) : ∀ (m : Nat) (x a b : Nat) (cur : List Int) (A : Around) (s : Shared), a < b → b ≤ cur.length → cur.length ≤ 250 → b - a ≤ 2 ^ m → x < 2 ^ (k * (b - a)) → x < 2 ^ 250 → Rm (m + 1) A → CI X fa (fdD cl doc pm c' ctv) [("a_digits", .raw (.ref la)), ("n", .int k), ("inner", .raw (.ref fa))] s → LsI s.heap la cur →
      ∀ vs, RpL X s.heap [.int x, .int a, .int b] vs → wpAny (model PRG w) A (call (.ref fa) vs) (fun v s' => v = .none ∧ EffM (fun c => c = la) s s' ∧ Inv s'.heap ∧ LsI s'.heap la (putAt cur a (dg k (b - a) x))) (fun _ _ => False) s := by
  have one : ∀ (n x a b : Nat) (cur : List Int) (A : Around) (s : Shared), a + 1 = b → b ≤ cur.length → cur.length ≤ 250 → x < 2 ^ (k * (b - a)) → Rm (n + 1) A → CI X fa (fdD cl doc pm c' ctv) [("a_digits", .raw (.ref la)), ("n", .int k), ("inner", .raw (.ref fa))] s → LsI s.heap la cur →
      ∀ vs, RpL X s.heap [.int x, .int a, .int b] vs → wpAny (model PRG w) A (call (.ref fa) vs) (fun v s' => v = .none ∧ EffM (fun c => c = la) s s' ∧ Inv s'.heap ∧ LsI s'.heap la (putAt cur a (dg k (b - a) x))) (fun _ _ => False) s := fun n x a b cur A s h1 hb hl hx R C hL vs hvs => by
    have e : b - a = 1 := by omega
    rw [e, Nat.mul_one] at hx
    rw [e, dg_one hx, putAt_one (by omega)]
    exact digI_one hX hla hl hap h1 hb R C hL vs hvs
  intro m
  induction m with
  | zero =>
    intro x a b cur A s hab hb hl hm hx hx2 R C hL vs hvs
    exact one 0 x a b cur A s (by simp at hm; omega) hb hl hx R C hL vs hvs
  | succ m ih =>
    intro x a b cur A s hab hb hl hm hx hx2 R C hL vs hvs
    by_cases h1 : a + 1 = b
    · exact one (m + 1) x a b cur A s h1 hb hl hx R C hL vs hvs
    refine call_clo (n := m + 1) (xs := ["x", "L", "R"]) (Wb := fun _ => False) C.fn (cloD cl doc pm c' ctv) rfl R C.inv C.bnd hvs hap C.rf fun env s₁ hs hLo hC R' E₁ S => ?_
    have hs' : env.scope = dS inD := hs
    have nc : ∀ y, env.kindOf y ≠ some .cell := fun y m1 => by
      have : (dS inD).names.lookup y = some .cell := by rw [← hs']; exact m1
      exact (cloD cl doc pm c' ctv).nc _ (PySem.mem_of_lookup this) rfl
    obtain ⟨mid, hmid⟩ : ∃ mid, (a + b) / 2 = mid := ⟨_, rfl⟩
    have hmi : ((a : Int) + (b : Int)).fdiv (2 ^ (1 : Int).toNat) = (mid : Int) := by
      rw [show (2 : Int) ^ (1 : Int).toNat = 2 from rfl, Int.fdiv_eq_ediv_of_nonneg _ (by decide)]; omega
    have hma : a < mid := by omega
    have hmb : mid < b := by omega
    have hp2 : 2 ^ (m + 1) = 2 * 2 ^ m := by rw [Nat.pow_succ]; omega
    obtain ⟨sh, hsh⟩ : ∃ sh, k * (mid - a) = sh := ⟨_, rfl⟩
    have hshI : ((mid : Int) - a) * k = (sh : Int) := by
      rw [← hsh]
      push_cast [Int.ofNat_sub (Nat.le_of_lt hma)]
      rw [Int.mul_comm]
    have hsh2 : sh ≤ 250 * 250 := by rw [← hsh]; exact Nat.mul_le_mul hk (by omega)
    have hup : ((x : Int)).fdiv (2 ^ (sh : Int).toNat) = ((x / 2 ^ sh : Nat) : Int) := by
      rw [Int.toNat_natCast, Int.fdiv_eq_ediv_of_nonneg _ (Int.le_of_lt (Int.pow_pos (by decide)))]
      rw [Int.natCast_ediv, Int.natCast_pow]; rfl
    have hupx : x / 2 ^ sh ≤ x := Nat.div_le_self _ _
    have hib : Builtin.Int.intBits ((x / 2 ^ sh : Nat) : Int) ≤ 250 := by
      refine intBits_le (k := 250) ?_
      have h : x / 2 ^ sh < 2 ^ 250 := by omega
      generalize x / 2 ^ sh = y at h
      have : ((2 ^ 250 : Nat) : Int) = (2 : Int) ^ 250 := by norm_cast
      omega
    refine Stm.seq (Stm.skipIf ?c1) hs' R' S fun s₂ ad₂ S₂ => Stm.seq (Stm.assign (d := .int (mid : Int)) (.pure ?c2) (by walk_at "st") (by walk_at "sw")) hs' R' S₂ fun s₃ ad₃ S₃ =>
      Stm.seq (Stm.assign (d := .int (sh : Int)) (.pure ?c3) (by walk_at "st") (by walk_at "sw")) hs' R' S₃ fun s₄ ad₄ S₄ =>
      Stm.seq (Stm.assign (d := .int ((x / 2 ^ sh : Nat) : Int)) (.pure ?c4) (by walk_at "st") (by walk_at "sw")) hs' R' S₄ fun s₅ ad₅ S₅ =>
      Stm.seq (Stm.assign (d := .int ((x % 2 ^ sh : Nat) : Int)) (.pure ?c5) (by walk_at "st") (by walk_at "sw")) hs' R' S₅ fun s₆ ad₆ S₆ => ?_
    case c1 =>
      refine TstS.cmp (a := .int ((a : Int) + 1)) (b := .int b) (by walk_at "ev") (by walk_at "name") ?_
      have := CmpS.eqI (w := w) (n := m + 1) (a := (a : Int) + 1) (b := (b : Int))
      rw [show ((a : Int) + 1 == (b : Int)) = false by simp; omega] at this
      exact this
    case c2 =>
      rw [← hmi]
      exact EvS.bin (EvS.bin (by walk_at "name") (by walk_at "name") BinS.add) EvS.int (BinS.shr (by decide))
    case c3 =>
      rw [← hshI]
      exact EvS.bin (EvS.bin (by walk_at "name") (by walk_at "name") BinS.sub) (by walk_at "name") (BinS.mul (.inl (by omega)))
    case c4 =>
      rw [← hup]
      exact EvS.bin (by walk_at "name") (by walk_at "name") (BinS.shr (by omega))
    case c5 =>
      rw [← xor_mod]
      have hb := BinS.shlB (w := w) (n := m + 1) (a := ((x / 2 ^ sh : Nat) : Int)) (b := (sh : Int)) (by omega) (by omega)
      rw [Int.toNat_natCast] at hb
      exact EvS.bin (by walk_at "name") (EvS.bin (by walk_at "name") (by walk_at "name") hb) BinS.xor
    have E₆ : Eff s s₆ := StA.plain (r := []) (o := []) (X := X) S₆.eff hLo nc
    have C₆ := C.eff E₆ S₆.inv
    have V₆ : Vars X env _ s₆.heap := S₆.frz
    have hL₆ := hL.eff E₆ C.inv
    have hi : interactive env = false := by unfold interactive; rw [V₆.kind]; rfl
    have hF : ∀ {s'}, CI X fa (fdD cl doc pm c' ctv) [("a_digits", .raw (.ref la)), ("n", .int k), ("inner", .raw (.ref fa))] s' → ∀ s'', Eff s' s'' → FnAt fa s''.heap := fun C' s'' E => (C'.fn.eff C'.inv E (fun z => z) fun _ _ _ _ z => z).at'
    have hlow : x % 2 ^ sh < 2 ^ (k * (mid - a)) := by rw [hsh]; exact Nat.mod_lt _ (Nat.pow_pos (by decide))
    have hhigh : x / 2 ^ sh < 2 ^ (k * (b - mid)) := by
      rw [Nat.div_lt_iff_lt_mul (Nat.pow_pos (by decide)), ← Nat.pow_add, ← hsh, ← Nat.mul_add]
      have : b - mid + (mid - a) = b - a := by omega
      rw [this]; exact hx
    have hlx : x % 2 ^ sh ≤ x := Nat.mod_le _ _
    have hres : putAt (putAt cur a (dg k (mid - a) (x % 2 ^ sh))) mid (dg k (b - mid) (x / 2 ^ sh)) = putAt cur a (dg k (b - a) x) := by
      have h2 := putAt_two (cur := cur) (a := a) (l := dg k (mid - a) (x % 2 ^ sh)) (l' := dg k (b - mid) (x / 2 ^ sh)) (by rw [dg_len]; omega)
      rw [dg_len, show a + (mid - a) = mid by omega] at h2
      rw [h2]
      have h3 := dg_split (k := k) (a := mid - a) (b := b - mid) (x := x)
      rw [show mid - a + (b - mid) = b - a by omega, hsh] at h3
      rw [h3]
    have hlen1 : (putAt cur a (dg k (mid - a) (x % 2 ^ sh))).length = cur.length := putAt_len (by rw [dg_len]; omega)
    refine wpAny_execs_cons (wpAny_Expr ?_ hi)
    refine eval_callF (ds := [.int ((x % 2 ^ sh : Nat) : Int), .int a, .int mid]) (by walk_at "name") (by walk_at "evl") (by intro _; rfl) hs' R' C₆.inv V₆ (hF C₆) fun vs₁ s₇ E₇ I₇ r₇ => ?_
    have C₇ := C₆.eff E₇ I₇
    have hL₇ := hL₆.eff E₇ C₆.inv
    have V₇ := V₆.eff E₇ C₆.inv
    refine wpAny_mono (ih (x % 2 ^ sh) a mid cur _ s₇ hma (by omega) hl (by omega) hlow (by omega) (R'.less (by omega)) C₇ hL₇ vs₁ r₇) (fun v s₈ g => ?_) fun _ _ z => z
    obtain ⟨rfl, E₈, I₈, hL₈⟩ := g
    obtain ⟨v7, k7, e7⟩ := hL₇.get
    obtain ⟨v8, k8, e8⟩ := hL₈.get
    have C₈ := C₇.effW hX e7 e8 E₈ I₈
    have V₈ := V₇.effW I₇ hX e7 e8 E₈
    refine wpAny_execs_cons (wpAny_Expr ?_ hi)
    refine eval_callF (ds := [.int ((x / 2 ^ sh : Nat) : Int), .int mid, .int b]) (by walk_at "name") (by walk_at "evl") (by intro _; rfl) hs' R' C₈.inv V₈ (hF C₈) fun vs₂ s₉ E₉ I₉ r₉ => ?_
    have C₉ := C₈.eff E₉ I₉
    have hL₉ := hL₈.eff E₉ C₈.inv
    refine wpAny_mono (ih (x / 2 ^ sh) mid b _ _ s₉ hmb (by omega) (by omega) (by omega) hhigh (by omega) (R'.less (by omega)) C₉ hL₉ vs₂ r₉) (fun v s₁₀ g => ?_) fun _ _ z => z
    obtain ⟨rfl, E₁₀, I₁₀, hL₁₀⟩ := g
    rw [hres] at hL₁₀
    refine wpAny_execs_nil ⟨rfl, ?_, I₁₀, hL₁₀⟩
    exact ((Eff.toM (E₆.trans E₇)).trans E₈).trans ((Eff.toM E₉).trans E₁₀)
theorem intBits_bitlen (a : Nat) : Builtin.Int.intBits (a : Int) = bitlen a := by
  unfold Builtin.Int.intBits bitlen
  by_cases h : a = 0
  · subst h; rfl
  · have : ((a : Int) == 0) = false := by simpa using h
    rw [this, if_neg h]; simp
theorem digs_dg (k a : Nat) : digs k a = dg k (digN k a) a := rfl
theorem int2digits_S {n : Nat} : DigOk w (n + 10) := by
  intro a k ha hk1 hk A s X vs R I B hd
  obtain ⟨ob, oc, cvs, t, a', b, c, e, f, g, h⟩ := I.fns (63, fdT 10 "_int2digits" pmP 62, 62) (by walk_at "mem")
  refine call_core (n := n + 9) (fd := fdT 10 "_int2digits" pmP 62) (body := dB (stAt 10)) (xs := ["a", "n"]) a' c ⟨_, oc, cvs, t, e, f, g, h⟩ (by walk_at "fnok") rfl rfl R I B hd fun env s₁ hsc hco hL hq hMu R' S => wpAny_gen fun QQ hQQ => ?_
  have hs : env.scope = dS (stAt 10) := hsc
  have hmn : digN k a ≤ 250 := digN_small hk1 ha
  obtain ⟨m, hm⟩ : ∃ m, digN k a = m := ⟨_, rfl⟩
  have hz : m ≤ 250 := by omega
  have hmI : ((Builtin.Int.intBits (a : Int) : Nat) + (k : Int) - 1).fdiv k = (m : Int) := by
    rw [← hm, intBits_bitlen, Int.fdiv_eq_ediv_of_nonneg _ (by omega)]
    unfold digN
    rw [Int.natCast_ediv]
    congr 1
    omega
  have hfree : ∀ y, (y, NameKind.free) ∈ (dS inD).names → env.kindOf y = some .cell := fun y hm => by
    have : y = "a_digits" ∨ y = "n" ∨ y = "inner" := by
      have key : ∀ p ∈ (dS inD).names, p.2 = .free → p.1 = "a_digits" ∨ p.1 = "n" ∨ p.1 = "inner" := by decide +kernel
      exact key _ hm rfl
    unfold Env.kindOf; rw [hs]
    rcases this with rfl | rfl | rfl <;> rfl
  have hqn : qualnameIn env "inner" "inner" = "_int2digits.<locals>.inner" := by
    unfold qualnameIn
    have : (env.kindOf "inner" == some .globalExplicit) = false := by unfold Env.kindOf; rw [hs]; rfl
    rw [this, hq]; rfl
  -- the list of zeros
  refine wpAny_execs_cons (wpAny_Assign_Name (wpAny_BinOp ?_) (by rfl))
  refine wpAny_mono ((EvS.listD (w := w) (n := n + 9) (sc := dS (stAt 10)) (r := (([] : VL) ++ ([("a", .int a), ("n", .int k)] : VL))) (ds := [.int 0]) (by walk_at "evl") (by decide)) _ s₁ env X hs R' S.inv S.frz) (fun v₀ s₂ q => ?_) fun _ _ z => z
  obtain ⟨E₂, I₂, p₂⟩ := q
  have S₂ := S.step E₂ I₂
  refine wpAny_mono ((?ln : EvS w (n + 9) (dS (stAt 10)) (([] : VL) ++ ([("a", .int a), ("n", .int k)] : VL)) _ (.int m)) _ s₂ env X hs R' I₂ S₂.frz) (fun v₁ s₃ q => ?_) fun _ _ z => z
  case ln =>
    rw [← hmI]
    exact EvS.bin (EvS.bin (EvS.bin (EvS.meth0 (by walk_at "name") rfl F.plainAttrs_int F.slot_int_bit_length F.type_int_bit_length CallS.bitLength) (by walk_at "name") BinS.add) EvS.int BinS.sub) (by walk_at "name") (BinS.fdiv (by omega) (by omega))
  obtain ⟨E₃, I₃, p₃⟩ := q
  have S₃ := S₂.step E₃ I₃
  have oe : OX X [] (fun _ : Str => (0 : Addr)) = X := by
    funext b; exact propext ⟨fun y => y.elim id fun ⟨p, hp, _⟩ => (nomatch hp), .inl⟩
  refine mulL_core (n := n) (b := (m : Int)) (by omega) (by omega) (by simp; omega) (X := X) (p₂.keep (E₃.sk I₂)) p₃ fun arr harr => ?_
  have hzero : (List.replicate (m : Int).toNat [D.int 0]).flatten = (List.replicate m (0 : Int)).map .int := by
    rw [Int.toNat_natCast, List.flatten_replicate_singleton, List.map_replicate]
  rw [hzero] at harr
  refine wpAny_mono (S₃.newOwnC (x := "a_digits") (tk := s₃.toks) hs (ds := (List.replicate m (0 : Int)).map .int) (by rw [oe]; exact harr) (by rfl) (fun _ h => nomatch h) (by rfl)) (fun _ s₄ q => ?_) fun _ _ z => z
  obtain ⟨ad, S₄⟩ := q
  -- the inner def
  refine wpAny_execs_cons (wpAny_mono (def_inner (w := w) (sc := dS (stAt 10)) (p := (62, 58, dPos inD, "_int2digits.<locals>.inner")) (by simp [codTab]) (scope := dS inD) (name := "inner") (params := dP inD) (body := dB inD) hs hco S₄ rfl rfl rfl hqn hfree (by walk_at "st")) (fun f s₅ q => ?_) fun _ _ z => z)
  obtain ⟨rfl, fa, doc, pm, c', ctv, hfa, S₅, hfn⟩ := q
  have hap := clos_apart S₅ hfree
  have V₅ : Vars X env _ s₅.heap := S₅.frz
  obtain ⟨la, hla⟩ : ∃ la, ad "a_digits" = la := ⟨_, rfl⟩
  have hX : OX X [("a_digits", .list ((List.replicate m (0 : Int)).map .int))] ad la := .inr ⟨_, .head _, hla⟩
  obtain ⟨o1, o2, o3⟩ := S₅.own _ (.head _)
  rw [show ad ("a_digits", D.list ((List.replicate m (0 : Int)).map D.int)).1 = la from hla] at o1 o2 o3
  have hla2 : 196 ≤ la := Nat.le_trans S₅.n0 o1
  have fin : ∀ s₆, StA s.heap.objs.size X (fun _ => False) s env [("inner", .raw (.ref fa)), ("a", .int a), ("n", .int k)] [("a_digits", .list ((digs k a).map .int))] s₆ ad → wpAny (model PRG w) (A.deeper env) (execs [(dB (stAt 10)).getD 3 (.Pass default)] env) QQ (fun _ _ => False) s₆ := fun s₆ S₆ => by
    refine wpAny_mono (Blk.last (w := w) (n := n + 9) (sc := dS (stAt 10)) (rest := []) (Stm.ret (d := .list ((digs k a).map .int)) (by walk_at "name")) _ _ X (fun _ => False) s env s₆ hs R' ⟨ad, S₆⟩) (fun f s' q => ?_) fun _ _ z => z
    cases f with
    | ret v =>
      obtain ⟨q1, q2, q3⟩ := q
      exact hQQ _ _ ⟨q1.toEff hMu, q2, q3⟩
    | next => exact q.elim
    | brk => exact q.elim
    | cont => exact q.elim
  refine wpAny_execs_cons (wpAny_If (wpAny_mono ((TstS.val (w := w) (n := n + 9) (sc := dS (stAt 10)) (d := .int a) (b := ((a : Int) != 0)) (by walk_at "name") TruS.int (by intro _ _; rfl)) _ s₅ env X hs R' S₅.inv V₅) (fun b' s₆ g => ?_) fun _ _ z => z))
  obtain ⟨rfl, E₆, I₆⟩ := g
  have S₆ := S₅.step E₆ I₆
  by_cases ha0 : a = 0
  · subst ha0
    have hm0 : m = 0 := by rw [← hm]; unfold digN bitlen; simp; omega
    subst hm0
    refine wpAny_execs_nil (fin s₆ ?_)
    have : digs k 0 = List.replicate 0 0 := by rw [digs_dg, hm]; rfl
    rw [this]; exact S₆
  · have hb : ((a : Int) != 0) = true := by simp; omega
    rw [hb]
    have hmpos : 0 < m := by
      rw [← hm]; unfold digN
      have : 1 ≤ bitlen a := by unfold bitlen; rw [if_neg ha0]; omega
      exact Nat.div_pos (by omega) (by omega)
    have hV : Vars X env _ s₆.heap := S₆.frz
    have hi : interactive env = false := by unfold interactive; rw [hV.kind]; rfl
    have hF : ∀ s', Eff s₅ s' → FnAt fa s'.heap := fun s' E => (hfn.eff S₅.inv E (fun z => z) fun _ _ _ _ z => z).at'
    refine wpAny_execs_cons (wpAny_Expr ?_ hi)
    refine eval_callF (n := n + 9) (sc := dS (stAt 10)) (ds := [.int (a : Nat), .int (0 : Nat), .int (m : Nat)]) (by walk_at "name") (EvL.cons (by walk_at "name") (EvL.cons EvS.int (EvL.cons ?ln2 EvL.nil (by intro _; rfl)) (by intro _; rfl)) (by intro _; rfl)) (by intro _; rfl) hs R' I₆ hV (fun s' E => hF s' (E₆.trans E)) fun vs₁ s₇ E₇ I₇ r₇ => ?_
    case ln2 =>
      have := CallS.len (w := w) (n := n + 9) (ds := (List.replicate m (0 : Int)).map D.int) (by simp; omega)
      rw [List.length_map, List.length_replicate] at this
      exact EvS.call (fv := .builtin "len") (by walk_at "name") KeepOk.bui (by walk_at "evl") this
    have S₇ := S₆.step E₇ I₇
    have hfn7 := hfn.eff S₅.inv (E₆.trans E₇) (fun z => z) fun _ _ _ _ z => z
    obtain ⟨u1, u2, u3⟩ := S₇.own _ (.head _)
    rw [show ad ("a_digits", D.list ((List.replicate m (0 : Int)).map D.int)).1 = la from hla] at u1 u2 u3
    have C₇ : CI (OX X [("a_digits", .list ((List.replicate m (0 : Int)).map .int))] ad) fa (fdD (closOf env.cells (dS inD).names []) doc pm c' ctv) [("a_digits", .raw (.ref la)), ("n", .int k), ("inner", .raw (.ref fa))] s₇ := by
      refine ⟨hfn7, I₇, S₇.vars.bnd, fun y d e => ?_⟩
      have hm : (y, d) ∈ ([("a_digits", .raw (.ref la)), ("n", .int k), ("inner", .raw (.ref fa))] : VL) := mem_of_lookup e
      simp only [List.mem_cons, List.not_mem_nil, or_false, Prod.mk.injEq] at hm
      have key : ∀ (y : Str) (c : Addr), (y, NameKind.free) ∈ (dS inD).names → env.cells.lookup y = some c → (closOf env.cells (dS inD).names []).lookup y = some c := fun y c h1 h2 => closOf_lookup h2 _ _ (.inl h1)
      rcases hm with ⟨rfl, rfl⟩ | ⟨rfl, rfl⟩ | ⟨rfl, rfl⟩
      · refine ⟨by rfl, ?_⟩
        rcases u3 with ⟨q1, _⟩ | ⟨q1, c, q2, q3⟩
        · rw [hfree "a_digits" (mem_of_lookup (by rfl))] at q1; cases q1
        · exact ⟨c, _, key _ _ (mem_of_lookup (by rfl)) q2, q3, rfl⟩
      · obtain ⟨c, v, q1, q2, q3⟩ := S₇.vars.cel "n" (.int k) (by rfl) (.inl (hfree _ (mem_of_lookup (by rfl))))
        exact ⟨by rfl, c, v, key _ _ (mem_of_lookup (by rfl)) q1, q2, q3⟩
      · obtain ⟨c, v, q1, q2, q3⟩ := S₇.vars.cel "inner" (.raw (.ref fa)) (by rfl) (.inl (hfree _ (mem_of_lookup (by rfl))))
        exact ⟨by rfl, c, v, key _ _ (mem_of_lookup (by rfl)) q1, q2, q3⟩
    obtain ⟨w1, w2, w3, w4⟩ := u2
    have hL7 : LsI s₇.heap la (List.replicate m 0) := ⟨w1, w2, w3, rplI w4⟩
    have r₇' : RpL (OX X [("a_digits", .list ((List.replicate m (0 : Int)).map .int))] ad) s₇.heap ([(a : Int), ((0 : Nat) : Int), (m : Int)].map .int) vs₁ := rplI (l := [(a : Int), ((0 : Nat) : Int), (m : Int)]) r₇
    refine wpAny_mono (digI_all (k := k) hk1 hk hX hla2 hap 8 a 0 m (List.replicate m 0) _ s₇ hmpos (by simp) (by simpa using hz) (by omega) (by rw [Nat.sub_zero, ← hm]; exact lt_digN (by omega)) ha (R'.less (by omega)) C₇ hL7 vs₁ r₇') (fun v s₈ g => ?_) fun _ _ z => z
    obtain ⟨rfl, E₈, I₈, x1, x2, x3, x4⟩ := g
    rw [putAt_all (by rw [dg_len]; simp), Nat.sub_zero] at x4
    have hdig : digs k a = dg k m a := by rw [digs_dg, hm]
    refine wpAny_execs_nil (fin s₈ ?_)
    rw [hdig]
    have := S₇.changeE (x := "a_digits") (d' := .list ((dg k m a).map .int)) (.head _) (by rw [hla]; exact E₈) I₈ (by rw [hla]; exact ⟨x1, x2, x3, rplI x4⟩)
    rw [setO_one] at this
    exact this
end
section
-- H0
open PySem PySem.W PyProof.Rows PySem.Calls Builtin Builtin.ObjectAttr
variable {w : World}
section
variable {P : Params}
theorem kc_cls : clsIn (Kc P) 157 = some { name := "_Accumulator", bases := [.type "list"], mro := [.ref 157, .type "list", .type "object"], ns := 156, qualname := "_Accumulator" } := by rfl
theorem kc_any : nsIn (Kc P) cStatics "thirdparty.any" = some none := by rfl
theorem kc_ga : findIn (Kc P) (.ref 157) "__getattribute__" = some (some (.builtin "list.__getattribute__")) := by kernel_rfl
theorem kc_gat : findIn (Kc P) (.ref 157) "__getattr__" = some none := by kernel_rfl
theorem kc_init : findIn (Kc P) (.ref 157) "__init__" = some (some (.ref 94)) := by kernel_rfl
theorem kc_push : findIn (Kc P) (.ref 157) "push" = some (some (.ref 101)) := by kernel_rfl
theorem kc_pop : findIn (Kc P) (.ref 157) "pop" = some (some (.ref 117)) := by kernel_rfl
theorem kc_len : findIn (Kc P) (.ref 157) "__len__" = some (some (.ref 124)) := by kernel_rfl
theorem kc_str : findIn (Kc P) (.ref 157) "__str__" = some (some (.ref 131)) := by kernel_rfl
theorem kc_ws : findIn (Kc P) (.ref 157) "is_onlyws" = some (some (.ref 146)) := by kernel_rfl
theorem kc_pc : findIn (Kc P) (.ref 157) "part_count" = some (some (.ref 154)) := by kernel_rfl
theorem kc_app : findIn (Kc P) (.ref 157) "append" = some (some (.builtin "list.append")) := by kernel_rfl
theorem kc_bool : findIn (Kc P) (.ref 157) "__bool__" = some none := by kernel_rfl
theorem kc_iter : findIn (Kc P) (.ref 157) "__iter__" = some (some (.builtin "list.__iter__")) := by kernel_rfl
theorem kc_ini : findIn (Kc P) (.ref 157) iniS = some none := by kernel_rfl
theorem kc_fn : ∀ a ∈ [94, 101, 117, 124, 131, 146, 154], typeIn (Kc P) (.ref a) = some (.type "function") := by
  intro a h
  simp only [List.mem_cons, List.not_mem_nil, or_false] at h
  rcases h with rfl | rfl | rfl | rfl | rfl | rfl | rfl <;> kernel_rfl
theorem kc_spop : alongIn (Kc P) "pop" [.type "list", .type "object"] = some (some (.builtin "list.pop")) := by kernel_rfl
theorem kc_sinit : alongIn (Kc P) "__init__" [.type "list", .type "object"] = some (some (.builtin "list.__init__")) := by kernel_rfl
theorem kc_slen : alongIn (Kc P) "__len__" [.type "list", .type "object"] = some (some (.builtin "list.__len__")) := by kernel_rfl
theorem kc_list : mroIn (Kc P) 157 (.type "list") = some true := by kernel_rfl
end
theorem can_lga : (Manifest.canonical "list.__getattribute__" != "object.__getattribute__") = false := by decide +kernel
theorem slot_lga : Slot "list" "__getattribute__" "list.__getattribute__" := .of (owner := "list") (n := "__getattribute__") (by rw [typeLookup_type, builtinLookup_eq_fast]; kernel_rfl) (by decide +kernel) (by decide +kernel) (by decide +kernel)
  (by first | exact .inl (by decide +kernel) | exact .inr (by decide +kernel)) (by rw [isSubtype_type]; kernel_rfl)
theorem entry_lga : entryFor table "list.__getattribute__" = some Builtin.«object.__getattribute__» :=
  entryFor_alias (id' := "object.__getattribute__") (by kernel_rfl) (by first | rfl | decide +kernel) (by decide +kernel) (by kernel_rfl)
theorem args_lga (a b : Value) : argsOk "list.__getattribute__" ⟨[a, b], []⟩ := by unfold argsOk; kernel_rfl
theorem kind_lga : builtinKind "list.__getattribute__" = some .slot := by decide +kernel
theorem split_lga : splitId "list.__getattribute__" = some ("list", "__getattribute__") := by decide +kernel
theorem plain_lga : plainId "list.__getattribute__" = true := by decide +kernel
structure AccAt (h : Heap) (x da : Addr) (vs : Array Value) (n : Nat) (i : Int) (t : Tok) : Prop where
  obj : h.get? x = some (AObj da vs n)
  ns : h.Ns da (accM i t)
theorem lookIn_ns {o : Obj} {es : Array DictEntry} {ep : Nat} {name : Str} (e : o.data = .dict es ep) (k : StrKeys es) : lookIn name o = some (nsFind es name) := by
  unfold lookIn nsFind findBy
  rw [e]
  simp only
  have nr : es.toList.any (·.refKey) = false := by
    rw [List.any_eq_false]
    intro e' he
    obtain ⟨n, t, q⟩ := k e' (by simpa using he)
    simp [DictEntry.refKey, q]
  have : es.find? (fun e => e.key.isStr name) = es.toList.find? (·.key.isStr name) := by rw [← Array.find?_toList]
  cases h : es.toList.find? (·.key.isStr name) with
  | none => simp [nr, this, h]
  | some e' => simp [this, h]
theorem AccAt.inst {h : Heap} {x da : Addr} {vs : Array Value} {n : Nat} {i : Int} {t : Tok} (a : AccAt h x da vs n i t) : ∃ o, InstAt h x (AObj da vs n) 157 (some o) ∧ ∀ name, lookIn name o = some (accM i t name) := by
  obtain ⟨o, es, ep, e, d, k, m⟩ := a.ns
  exact ⟨o, ⟨a.obj, rfl, rfl, e⟩, fun name => by rw [lookIn_ns d k, m]⟩
section
variable {P : Params} {A : Around} {s : Shared} {x da : Addr} {vs : Array Value} {n : Nat} {i : Int} {t : Tok} {prog : Program} {E : Value → Shared → Prop} {pl : Sem Bool}
theorem acc_getMethod {name : Str} {f : Value} {Q : Value × List Value → Shared → Prop} (X : (Kc P).In s.heap) (a : AccAt s.heap x da vs n i t) (hf : findIn (Kc P) (.ref 157) name = some (some f))
    (ht : typeIn (Kc P) f = some (.type "function") ∨ typeIn (Kc P) f = some (.type "method_descriptor")) (hn : name ≠ iniS) (h : Q (f, [.ref x]) s) : wpAny (model prog w) A (getMethod (.ref x) name pl) Q E s := by
  obtain ⟨o, I, L⟩ := a.inst
  have hcan := can_lga
  unfold getMethod specialOf
  refine wpAny_bind (wpAny_bind (I.type.here ((looks_findIn X kc_ga).here ?_)))
  dsimp only
  rw [hcan, if_neg (by decide)]
  refine wpAny_bind (wpAny_bind (I.type.here ((looks_findIn X kc_gat).here ?_)))
  have fin : ∀ tf, (tf = Value.type "function" ∨ tf = .type "method_descriptor") → typeIn (Kc P) f = some tf → wpAny (model prog w) A (getMethod (.ref x) name pl) Q E s → True := fun _ _ _ _ => trivial
  rcases ht with ht | ht
  all_goals
    refine wpAny_bind (wpAny_bind (I.type.here ((looks_findIn X hf).here (wpAny_bind ((looks_typeIn X ht).here ?_)))))
    rw [if_neg (by decide +kernel)]
    refine wpAny_bind (wpAny_loadPart I.at_ ?_)
    refine wpAny_bind (wpAny_bind (wpAny_loadPart I.dict ?_))
    rw [nsLook_of (L name)]
    refine wpAny_pure ?_
    have : accM i t name = none := if_neg hn
    rw [this]
    exact wpAny_bind (wpAny_rule (wpAny_pure h))
theorem acc_getAttr {expr : Bool} {Q : Value → Shared → Prop} (X : (Kc P).In s.heap) (a : AccAt s.heap x da vs n i t) (h : Q (.int i t) { s with toks := s.toks + 1 }) : wpAny (model prog w) A (getAttr (.ref x) iniS expr) Q E s := by
  obtain ⟨o, I, L⟩ := a.inst
  have hf : findObj (Kc P) 157 (some o) iniS = some (.value (.int i t)) := by
    unfold findObj PySem.W.ownOf
    rw [kc_cls, kc_ini]
    simp only [Option.bind_some, if_true, L iniS]
    simp [accM]
  have hli : Looks (model prog w) s.heap (isInstance (.ref x) (.type "list")) true := I.type.andThen (looks_mroIn X kc_list)
  unfold getAttr getAttrBy
  refine wpAny_bind (wpAny_mkText (wpAny_holding ?_))
  refine wpAny_bind (I.type _ _ _ _ (fun _ _ e => e) ?_)
  refine wpAny_bind ((looks_findIn X kc_ga) _ _ _ _ (fun _ _ e => e) ?_)
  show wpAny _ _ (getAttrByItsOwn (.ref x) (.str iniS s.toks) (.ref 157) (.builtin "list.__getattribute__") true expr) _ _ _
  unfold getAttrByItsOwn hookBefore callGetattribute boundAndCalled
  refine wpAny_bind ((looks_findIn X kc_gat) _ _ _ _ (fun _ _ e => e) ?_)
  refine wpAny_bind (wpAny_attempt (wpAny_holding ?_))
  have hex : (expr && onTheHeap (Value.builtin "list.__getattribute__")) = false := by cases expr <;> rfl
  rw [hex]
  refine wpAny_bind (m := bindSpecial (.builtin "list.__getattribute__") (.ref x)) (wpAny_of_eq (slot_lga.bind _) ?_)
  have body : codeAny (model prog w) A (.call (.builtin "list.__getattribute__") ⟨[.ref x, .str iniS s.toks], []⟩) (wants (fun v s' => v = .int i t ∧ s' = { s with toks := s.toks + 1 }) (fun _ _ => False)) { s with toks := s.toks + 1 } := by
    refine codeAny_call_builtin plain_lga entry_lga ?_
    refine @check_slot (model prog w) _ _ _ "list.__getattribute__" "list" "__getattribute__" (.ref x) [.str iniS s.toks] [] _ kind_lga split_lga hli (args_lga (.ref x) (.str iniS s.toks)) ?_
    unfold Builtin.«object.__getattribute__»
    refine wpAny_bind (m := slotArgs "__getattribute__" 1 _) (wpAny_pure ?_)
    refine wpAny_bind (m := attrName (.str iniS s.toks)) (wpAny_pure ?_)
    refine wpAny_bind (I.type _ _ _ _ (fun _ _ e => e) ?_)
    refine wpAny_bind ((looks_find X I hf) _ _ _ _ (fun _ _ e => e) ?_)
    exact wpAny_pure ⟨rfl, rfl⟩
  show wpAny _ _ (call (.builtin "list.__getattribute__") [.ref x, .str iniS s.toks]) _ _ _
  refine wpAny_mono (Q := fun v s' => v = .int i t ∧ s' = { s with toks := s.toks + 1 }) (E := fun _ _ => False) (wpAny_call (codeAny_mono body fun r s' z => z)) (fun v s' hv => ?_) fun _ _ z => z.elim
  obtain ⟨rfl, rfl⟩ := hv
  exact wpAny_pure h
end
end
section
-- H1
open PySem PySem.W PyProof.Rows PySem.Calls Builtin Builtin.ObjectAttr
variable {w : World}
theorem kc_set {P : Params} : findIn (Kc P) (.ref 157) "__setattr__" = some (some (.builtin "object.__setattr__")) := by kernel_rfl
theorem kc_obj {P : Params} : mroIn (Kc P) 157 (.type "object") = some true := by kernel_rfl
theorem refuse_acc (self : Value) : refuseLoop self "__setattr__" [.ref 157, .type "list", .type "object"] = pure () := by
  rw [refuseLoop_ref]
  kernel_rfl
section
variable {P : Params} {A : Around} {s : Shared} {x da : Addr} {vs : Array Value} {n : Nat} {i : Int} {t : Tok} {prog : Program} {E : Value → Shared → Prop} {pl : Sem Bool}
theorem acc_setAttr {Q : Unit → Shared → Prop} (X : (Kc P).In s.heap) (hx : s.heap.get? x = some (AObj da vs n)) (hd : s.heap.get? da = some { cls := .type "dict", data := .dict #[] })
    (h : ∀ h' tk, h'.Ns da (accM i t) → Heap.SameBut da s.heap h' → Q () { s with heap := h', toks := tk }) : wpAny (model prog w) A (setAttr (.ref x) iniS (.int i t)) Q E s := by
  have I : InstAt s.heap x (AObj da vs n) 157 (some { cls := .type "dict", data := .dict #[] }) := ⟨hx, rfl, rfl, hd⟩
  have SF := PySem.F.store_object
  have hli : Looks (model prog w) s.heap (isInstance (.ref x) (.type "object")) true := I.type.andThen (looks_mroIn X kc_obj)
  have hm : Looks (model prog w) s.heap (mroOf (.ref 157)) [.ref 157, .type "list", .type "object"] := (looks_clsIn X kc_cls).andThen .now
  have hns : s.heap.Ns da (fun _ => none) := ⟨_, #[], _, hd, rfl, fun e he => absurd he (by simp), fun _ => rfl⟩
  have body : codeAny (model prog w) A (.call (.builtin "object.__setattr__") ⟨[.ref x, .str iniS s.toks, .int i t], []⟩) (fun r s' => r = .ok (.ret .none) ∧ Q () s') { s with toks := s.toks + 1 } := by
    refine codeAny_call_builtin SF.slot.plain SF.entry ?_
    refine @check_slot (model prog w) _ _ _ "object.__setattr__" "object" "__setattr__" (.ref x) [.str iniS s.toks, .int i t] [] _ SF.kind SF.split hli (SF.args (.ref x) (.str iniS s.toks) (.int i t)) ?_
    rw [osa_eq, refuse_eq]
    refine wpAny_bind (wpAny_bind (I.type _ _ _ _ (fun _ _ e => e) (wpAny_bind (hm _ _ _ _ (fun _ _ e => e) ?_))))
    rw [refuse_acc]
    refine wpAny_pure (wpAny_bind (I.type _ _ _ _ (fun _ _ e => e) (wpAny_bind ((looks_findIn X kc_ini) _ _ _ _ (fun _ _ e => e) (wpAny_bind (wpAny_pure ?_))))))
    show wpAny _ _ (storeInOwnDict (.ref x) (.ref 157) (.str iniS s.toks) iniS (.int i t) false) _ _ _
    unfold storeInOwnDict
    refine wpAny_bind (wpAny_pure (wpAny_bind (wpAny_bind (wpAny_loadPart hx (wpAny_bind ((looks_clsIn X kc_cls) _ _ _ _ (fun _ _ e => e) (wpAny_pure ?_)))))))
    show wpAny _ _ (storeInDict da (.str iniS s.toks) iniS (.int i t)) _ _ _
    unfold storeInDict newKeyGuard
    refine wpAny_bind (wpAny_pure (wpAny_bind (wpAny_nsSet1 (Heap.Ns1.of_empty hns) fun h' hn' hs => ?_)))
    obtain ⟨oD, esD, epD, hoD, hdD, hcD⟩ := hn'.count (Within.cons iniS (.int i t) Within.nil)
    refine wpAny_bind (wpAny_lookBehind hoD (by rw [hdD]; exact pastItsLine_dict (Nat.le_trans hcD (by rw [List.length_cons, List.length_nil, sizeLine_eq]; omega))) ?_)
    exact wpAny_pure ⟨rfl, h h' _ hn'.ns hs⟩
  unfold setAttr
  refine wpAny_bind (wpAny_mkText ?_)
  refine wpAny_bind (m := callSpecial? (.ref x) "__setattr__" _) ?_
  unfold callSpecial? specialOf
  refine wpAny_bind (wpAny_bind (I.type _ _ _ _ (fun _ _ e => e) ((looks_findIn X kc_set) _ _ _ _ (fun _ _ e => e) (wpAny_holding ?_))))
  refine wpAny_bind (wpAny_of_eq (SF.slot.bind _) ?_)
  refine wpAny_bind (wpAny_call (codeAny_mono body fun r s' z => ?_))
  obtain ⟨rfl, z⟩ := z
  exact wpAny_pure (wpAny_pure z)
end
end
section
-- H2
open PySem PySem.W PyProof.Rows PySem.Calls Builtin Builtin.ObjectAttr
variable {w : World}
theorem kc_call {P : Params} : specialIn (Kc P) (.ref 157) "__call__" = some (some (.builtin "type.__call__")) := by kernel_rfl
theorem kc_type {P : Params} : instIn (Kc P) (.ref 157) (.type "type") = some true := by kernel_rfl
theorem kc_self {P : Params} : mroIn (Kc P) 157 (.ref 157) = some true := by kernel_rfl
theorem kc_new {P : Params} (r : List Value) : True := trivial
section
variable {prog : Program} {A : Around} {P : Params} {R : Result → Shared → Prop} {h : Heap} {g : Array GenState} {d : Drawn} {t : Nat} {os : OsState}
theorem kc_get {P : Params} {h : Heap} (X : (Kc P).In h) : h.get? 157 = some kCls := X _ _ rfl
theorem acc_madeBy {M : Model} (X : (Kc P).In h) : Looks M h (Bind.madeBy (.ref 157)) (some "list.__new__") := by
  have hm : Looks M h (mroOf (.ref 157)) [.ref 157, .type "list", .type "object"] := (looks_clsIn X kc_cls).andThen .now
  intro A Q E s k q
  unfold Bind.madeBy
  refine wpAny_bind (hm A _ E s k ?_)
  rw [List.forIn_cons]
  refine wpAny_bind (wpAny_bind (wpAny_bind (wpAny_bind (wpAny_loadPart (k _ _ (kc_get X)) (wpAny_pure ?_)))))
  exact wpAny_pure (wpAny_pure (wpAny_pure q))
theorem acc_base {M : Model} (X : (Kc P).In h) : Looks M h (Bind.staticBase (.ref 157)) (.ref 157) := by
  have hm : Looks M h (mroOf (.ref 157)) [.ref 157, .type "list", .type "object"] := (looks_clsIn X kc_cls).andThen .now
  intro A Q E s k q
  unfold Bind.staticBase
  refine wpAny_bind (hm A _ E s k ?_)
  rw [List.forIn_cons]
  exact wpAny_bind (wpAny_bind (wpAny_bind ((acc_madeBy X) A _ E s k (wpAny_pure (wpAny_pure (wpAny_pure q))))))
theorem kind_new : builtinKind "list.__new__" = some .builtinFn := by decide +kernel
theorem split_new : splitId "list.__new__" = some ("list", "__new__") := by decide +kernel
theorem row_new (a b : Value) : argsOk "list.__new__" ⟨[a, b], []⟩ := by unfold argsOk; kernel_rfl
theorem newCall_list {M : Model} {E : Value → Shared → Prop} {s : Shared} {v : Value} {Q : Unit → Shared → Prop} (X : (Kc P).In s.heap) (q : Q () s) : wpAny M A (checkBuiltinCall "list.__new__" ⟨[.ref 157, v], []⟩) Q E s := by
  obtain ⟨h, g, d, t, os⟩ := s
  have e1 : Looks M h (isType (.ref 157)) true := (Looks.ld (part := some headPart) (kc_get X)).andThen .now
  have e2 : Looks M h (isSubtype (.ref 157) (.type "list")) true := looks_mroIn X kc_list
  have e3 := acc_madeBy (M := M) X
  have e4 := acc_base (M := M) X
  have ha := row_new (.ref 157) v
  simp only [checkBuiltinCall, kind_new, split_new]
  repeat lk
  exact q
theorem new_acc {v : Value} (X : (Kc P).In h)
    (hq : R (.ok (.ret (.ref (h.objs.size + 1)))) ⟨(h.push emptyDict).push (AObj h.objs.size #[] 0), g, d, t, os⟩) :
    codeAny (model prog w) A (.call (.builtin "list.__new__") ⟨[.ref 157, v], []⟩) R ⟨h, g, d, t, os⟩ := by
  refine codeAny_of_tree ?_
  show wpAny _ A.in1 (do checkBuiltinCall "list.__new__" ⟨[.ref 157, v], []⟩; again (.builtin "list.__new__" ⟨[.ref 157, v], []⟩)) _ _ _
  refine wpAny_bind (newCall_list X (wpAny_pure ⟨plainId_quiet F.plain_list_new _, codeAny_builtin_stack F.entry_list_new rfl fun p st => ?_⟩))
  rw [Around.under_plainId F.plain_list_new _]
  have hown := owner_list_new
  simp only [hown]
  have e1 : Looks (model prog w) h (isType (.ref 157)) true := (Looks.ld (part := some headPart) (kc_get X)).andThen .now
  have e2 : Looks (model prog w) h (isSubtype (.ref 157) (.type "list")) true := looks_mroIn X kc_list
  repeat lk
  refine nd_load (Heap.get?_push_of_some _ (Heap.get?_push_of_some _ (kc_get X))) ?_
  refine wpAny_pure (wpAny_pure (wpAny_pure (wpAny_pure ?_)))
  have e : (h.push { cls := Value.type "dict", data := Data.dict #[] }).objs.size = h.objs.size + 1 := Heap.size_push ..
  rw [e]
  exact hq
theorem make_acc {v : Value} (X : (Kc P).In h)
    (hq : codeAny (model prog w) (A.under (.builtin "type.__call__" ⟨[.ref 157, v], []⟩)) (.call (.ref 94) ⟨[.ref (h.objs.size + 1), v], []⟩) (InitBack (h.objs.size + 1) R) ⟨(h.push emptyDict).push (AObj h.objs.size #[] 0), g, d, t, os⟩) :
    codeAny (model prog w) A (.call (.ref 157) ⟨[v], []⟩) R ⟨h, g, d, t, os⟩ := by
  have call : Looks (model prog w) h (specialOf (.ref 157) "__call__") (some (.builtin "type.__call__")) := looks_specialIn X kc_call
  have typ : Looks (model prog w) h (isInstance (.ref 157) (.type "type")) true := looks_instIn X kc_type
  have made := acc_madeBy (M := model prog w) X
  have hm : Looks (model prog w) h (mroOf (.ref 157)) [.ref 157, .type "list", .type "object"] := (looks_clsIn X kc_cls).andThen .now
  refine codeAny_of_tree ?_
  show wpAny _ _ (callAny (.ref 157) _) _ _ _
  refine nd_load (kc_get X) ?_
  show wpAny _ _ (callAny.viaDunder (.ref 157) _) _ _ _
  unfold callAny.viaDunder
  refine wpAny_bind (call.at ?_)
  dsimp only
  rw [tc_bind]
  refine wpAny_bind (wpAny_pure (wpAny_bind (wpAny_pure ?_)))
  refine wpAny_pure (a := Fin.again (.call (.builtin "type.__call__") ⟨[.ref 157, v], []⟩)) (And.intro rfl ?_)
  refine codeAny_call_builtin_at (Code.quiet_builtin _ (by decide +kernel)) entry_typeCall (check_slot tc_kind tc_split typ (tc_args _ _ _) ?_)
  unfold Builtin.«type.__call__»
  repeat (first | with_reducible refine wpAny_call ?_ | lk)
  refine new_acc X ?_
  have k : ∀ b o, h.get? b = some o → ((h.push emptyDict).push (AObj h.objs.size #[] 0)).get? b = some o := fun b o e => Heap.get?_push_of_some _ (Heap.get?_push_of_some _ e)
  have hx : ((h.push emptyDict).push (AObj h.objs.size #[] 0)).get? (h.objs.size + 1) = some (AObj h.objs.size #[] 0) := by heap_get
  have t1 : Looks (model prog w) ((h.push emptyDict).push (AObj h.objs.size #[] 0)) (typeOf (.ref (h.objs.size + 1))) (.ref 157) := (Looks.ld hx).andThen .now
  have s1 : Looks (model prog w) ((h.push emptyDict).push (AObj h.objs.size #[] 0)) (isSubtype (.ref 157) (.ref 157)) true := (looks_mroIn X kc_self).keeps k
  have i1 : Looks (model prog w) ((h.push emptyDict).push (AObj h.objs.size #[] 0)) (typeLookup (.ref 157) "__init__") (some (.ref 94)) := (looks_findIn X kc_init).keeps k
  have b1 : Looks (model prog w) ((h.push emptyDict).push (AObj h.objs.size #[] 0)) (bindSpecial (.ref 94) (.ref (h.objs.size + 1))) (.ref 94, [.ref (h.objs.size + 1)]) := (bind_fn X _ (kc_fn 94 (by simp))).keeps k
  unfold isInstance callSpecial? specialOf
  repeat (first | with_reducible refine wpAny_call ?_ | lk)
  refine codeAny_mono hq fun r s' z => ?_
  rcases r with e | (v | _ | _ | _) <;> first | exact z | exact z.elim | skip
  obtain ⟨rfl, z⟩ := z
  exact wpAny_pure (wpAny_pure z)
end
end
section
-- H3
open PySem PySem.W PyProof.Rows PySem.Calls Builtin Builtin.ObjectAttr
variable {w : World}
theorem slot_md_get : Slot "method_descriptor" "__get__" "method_descriptor.__get__" := .of (owner := "method_descriptor") (n := "__get__") (by rw [typeLookup_type, builtinLookup_eq_fast]; kernel_rfl) (by decide +kernel) (by decide +kernel) (by decide +kernel)
  (by first | exact .inl (by decide +kernel) | exact .inr (by decide +kernel)) (by rw [isSubtype_type]; kernel_rfl)
theorem slot_wd_get : Slot "wrapper_descriptor" "__get__" "wrapper_descriptor.__get__" := .of (owner := "wrapper_descriptor") (n := "__get__") (by rw [typeLookup_type, builtinLookup_eq_fast]; kernel_rfl) (by decide +kernel) (by decide +kernel) (by decide +kernel)
  (by first | exact .inl (by decide +kernel) | exact .inr (by decide +kernel)) (by rw [isSubtype_type]; kernel_rfl)
theorem entry_md_get : entryFor table "method_descriptor.__get__" = some Builtin.«method_descriptor.__get__» := entryFor_of_tree (by kernel_rfl)
theorem entry_wd_get : entryFor table "wrapper_descriptor.__get__" = some Builtin.«wrapper_descriptor.__get__» := entryFor_of_tree (by kernel_rfl)
theorem args_md_get (a b c : Value) : argsOk "method_descriptor.__get__" ⟨[a, b, c], []⟩ := by unfold argsOk; kernel_rfl
theorem args_wd_get (a b c : Value) : argsOk "wrapper_descriptor.__get__" ⟨[a, b, c], []⟩ := by unfold argsOk; kernel_rfl
theorem type_lpop : typeOf (.builtin "list.pop") = pure (.type "method_descriptor") := by kernel_rfl
theorem type_linit : typeOf (.builtin "list.__init__") = pure (.type "wrapper_descriptor") := by kernel_rfl
theorem type_llen : typeOf (.builtin "list.__len__") = pure (.type "wrapper_descriptor") := by kernel_rfl
theorem own_lpop : ".".intercalate ("list.pop".cutAt '.').dropLast = "list" := by decide +kernel
theorem own_linit : ".".intercalate ("list.__init__".cutAt '.').dropLast = "list" := by decide +kernel
theorem own_llen : ".".intercalate ("list.__len__".cutAt '.').dropLast = "list" := by decide +kernel
noncomputable abbrev bmObj (T : String) (id : String) (x : Addr) : Obj := { cls := .type T, data := .fields #[.builtin id, .ref x] }
section
variable {prog : Program} {A : Around} {P : Params} {E : Value → Shared → Prop} {h : Heap} {g : Array GenState} {d : Drawn} {t : Nat} {os : OsState} {x da : Addr} {vs : Array Value} {n : Nat} {i : Int} {t' : Tok}
theorem md_get {id : String} {Q : Fin → Shared → Prop} (hid : id = "list.pop") (X : (Kc P).In h) (a : h.get? x = some (AObj da vs n))
    (hq : Q (.done (.ret (.ref h.objs.size))) ⟨h.push (bmObj "builtin_function_or_method" id x), g, d, t, os⟩) :
    wpAny (model prog w) A (Builtin.«method_descriptor.__get__» ⟨[.builtin id, .ref x, .ref 157], []⟩) Q E ⟨h, g, d, t, os⟩ := by
  have t1 : Looks (model prog w) h (typeOf (.ref x)) (.ref 157) := (Looks.ld a).andThen .now
  have e2 : Looks (model prog w) h (isInstance (.ref x) (.type (".".intercalate (id.cutAt '.').dropLast))) true := by rw [hid, own_lpop]; exact t1.andThen (looks_mroIn X kc_list)
  have h1 : Manifest.toldItsClass.contains id = false := by rw [hid]; decide +kernel
  unfold Builtin.«method_descriptor.__get__»
  iterate 24 (first | simp only [h1, Bool.false_eq_true, if_false] | lk)
  refine Looks.at (r := true) ?a ?b
  case a => exact e2
  repeat lk
  exact hq
theorem wd_get {id : String} {Q : Fin → Shared → Prop} (hid : id = "list.__init__" ∨ id = "list.__len__") (X : (Kc P).In h) (a : h.get? x = some (AObj da vs n))
    (hq : Q (.done (.ret (.ref h.objs.size))) ⟨h.push (bmObj "method-wrapper" id x), g, d, t, os⟩) :
    wpAny (model prog w) A (Builtin.«wrapper_descriptor.__get__» ⟨[.builtin id, .ref x, .ref 157], []⟩) Q E ⟨h, g, d, t, os⟩ := by
  have t1 : Looks (model prog w) h (typeOf (.ref x)) (.ref 157) := (Looks.ld a).andThen .now
  have e2 : Looks (model prog w) h (isInstance (.ref x) (.type (".".intercalate (id.cutAt '.').dropLast))) true := by
    rcases hid with rfl | rfl
    · rw [own_linit]; exact t1.andThen (looks_mroIn X kc_list)
    · rw [own_llen]; exact t1.andThen (looks_mroIn X kc_list)
  unfold Builtin.«wrapper_descriptor.__get__»
  repeat (first | (with_reducible refine wpAny_bind ?_; refine Looks.at e2 ?_) | lk)
  exact hq
theorem super_ga {so : Addr} {nm : Str} {id D gid : String} {G : Builtin} {o' : Obj} {tk : Tok} {Q : Fin → Shared → Prop} (X : (Kc P).In h) (a : h.get? x = some (AObj da vs n))
    (hso : h.get? so = some { cls := .type "super", dict := none, data := .fields #[.ref 157, .ref x, .ref 157], slots := #[] })
    (hn : (nm == ("__class__" : Str)) = false) (hf : alongIn (Kc P) nm [.type "list", .type "object"] = some (some (.builtin id)))
    (hT : typeOf (.builtin id) = pure (.type D)) (S : Slot D "__get__" gid) (en : entryFor table gid = some G) (ar : argsOk gid ⟨[.builtin id, .ref x, .ref 157], []⟩)
    (hg : ∀ {A : Around} {E' : Value → Shared → Prop} {Q' : Fin → Shared → Prop}, Q' (.done (.ret (.ref h.objs.size))) ⟨h.push o', g, d, t, os⟩ → wpAny (model prog w) A (G ⟨[.builtin id, .ref x, .ref 157], []⟩) Q' E' ⟨h, g, d, t, os⟩)
    (hq : Q (.done (.ret (.ref h.objs.size))) ⟨h.push o', g, d, t, os⟩) :
    wpAny (model prog w) A (Builtin.«super.__getattribute__» ⟨[.ref so, .str nm tk], []⟩) Q E ⟨h, g, d, t, os⟩ := by
  have hno : Looks (model prog w) h (opaqueClassAbove (.ref 157)) none := looks_opaque X kc_any
  have hC : Looks (model prog w) h (mroOf (.ref 157)) [.ref 157, .type "list", .type "object"] := (looks_clsIn X kc_cls).andThen .now
  have hl : (([.ref 157, .type "list", .type "object"] : List Value).dropWhile (· != .ref 157)).drop 1 = [.type "list", .type "object"] := by rfl
  have hxC : x ≠ 157 := fun z => by rw [z, kc_get X] at a; cases a
  have hne : (Value.ref x == Value.ref 157) = false := by simp [hxC]
  have hlk := S.lookup
  have hTf : (⟨h, g, d, t, os⟩ : Shared).TypeIs (.builtin id) D := hT
  have hdt : ({ cls := .type "super", dict := none, data := .fields #[.ref 157, .ref x, .ref 157], slots := #[] } : Obj).data = .fields #[.ref 157, .ref x, .ref 157] := rfl
  have f0 : (#[.ref 157, .ref x, .ref 157] : Array Value)[0]? = some (.ref 157) := rfl
  have f1 : (#[.ref 157, .ref x, .ref 157] : Array Value)[1]? = some (.ref x) := rfl
  have f2 : (#[.ref 157, .ref x, .ref 157] : Array Value)[2]? = some (.ref 157) := rfl
  unfold Builtin.«super.__getattribute__»
  repeat (first
    | (with_reducible refine wpAny_field hso hdt f0 ?_) | (with_reducible refine wpAny_field hso hdt f1 ?_) | (with_reducible refine wpAny_field hso hdt f2 ?_)
    | (with_reducible refine ks_wpAny_notOpaque hno ?_)
    | (with_reducible refine Looks.at hC ?_; rw [hl])
    | (refine ks_forIn_along X (fun _ _ => rfl) rfl ?_ hf)
    | (with_reducible refine wpAny_typeOf hTf ?_)
    | (with_reducible refine wpAny_call_entry S hTf en ?_ ar)
    | (with_reducible refine ⟨_, rfl, ?_⟩)
    | (with_reducible refine hg ?_)
    | (simp only [hn, hne, Bool.or_false, Bool.false_eq_true, if_false])
    | wp_step
    | dsimp only)
  all_goals exact hq
theorem getMethod_super {so : Addr} {nm : Str} {id D gid : String} {G : Builtin} {o' : Obj} {pl : Sem Bool} {Q : Value × List Value → Shared → Prop} (X : (Kc P).In h) (a : h.get? x = some (AObj da vs n))
    (hso : h.get? so = some { cls := .type "super", dict := none, data := .fields #[.ref 157, .ref x, .ref 157], slots := #[] })
    (hn : (nm == ("__class__" : Str)) = false) (hf : alongIn (Kc P) nm [.type "list", .type "object"] = some (some (.builtin id)))
    (hT : typeOf (.builtin id) = pure (.type D)) (S : Slot D "__get__" gid) (en : entryFor table gid = some G) (ar : argsOk gid ⟨[.builtin id, .ref x, .ref 157], []⟩)
    (hg : ∀ {t' : Nat} {A : Around} {E' : Value → Shared → Prop} {Q' : Fin → Shared → Prop}, Q' (.done (.ret (.ref h.objs.size))) ⟨h.push o', g, d, t', os⟩ → wpAny (model prog w) A (G ⟨[.builtin id, .ref x, .ref 157], []⟩) Q' E' ⟨h, g, d, t', os⟩)
    (hq : Q (.ref h.objs.size, []) ⟨h.push o', g, d, t + 1, os⟩) : wpAny (model prog w) A (getMethod (.ref so) nm pl) Q E ⟨h, g, d, t, os⟩ := by
  have hlk := F.ks_slot_super_ga.lookup
  have hcan := F.ks_canon_super_ga
  have hTs : ∀ t', (⟨h, g, d, t', os⟩ : Shared).TypeIs (.ref so) "super" := fun _ => ⟨_, hso, rfl⟩
  unfold getMethod
  refine wpAny_bind (wpAny_specialOf (hTs _) hlk ?_)
  show wpAny _ _ (if (Manifest.canonical "super.__getattribute__" != "object.__getattribute__") = true then _ else _) _ _ _
  rw [if_pos hcan]
  unfold getAttr getAttrBy
  refine wpAny_bind (wpAny_bind (wpAny_mkText (wpAny_holding (wpAny_bind (wpAny_typeOf (hTs _) (wpAny_bind (wpAny_of_eq hlk ?_)))))))
  show wpAny _ _ (getAttrByItsOwn (.ref so) (.str nm t) (.type "super") (.builtin "super.__getattribute__") true false) _ _ _
  unfold getAttrByItsOwn hookBefore callGetattribute boundAndCalled
  refine wpAny_bind (wpAny_of_eq (show (if onTheHeap (.type "super") then typeLookup (.type "super") "__getattr__" else pure none) = pure none from rfl) ?_)
  refine wpAny_bind (wpAny_attempt (wpAny_holding ?_))
  show wpAny _ _ (bindSpecial (.builtin "super.__getattribute__") (.ref so) >>= _) _ _ _
  refine wpAny_bind (wpAny_of_eq (F.ks_slot_super_ga.bind _) ?_)
  refine wpAny_mono (Q := fun v s' => v = .ref h.objs.size ∧ s' = ⟨h.push o', g, d, t + 1, os⟩) (E := fun _ _ => False)
    (wpAny_call_entry F.ks_slot_super_ga (hTs _) F.ks_entry_super_ga (super_ga X a hso hn hf hT S en ar hg ⟨_, rfl, rfl, rfl⟩) (F.ks_gaArgs_super _ _)) (fun v s' hv => ?_) fun _ _ z => z.elim
  obtain ⟨rfl, rfl⟩ := hv
  exact wpAny_pure (wpAny_pure hq)
end
end
section
-- H4
open PySem PySem.W PyProof.Rows PySem.Calls Builtin Builtin.ObjectAttr
variable {w : World}
theorem entry_lpop : entryFor table "list.pop" = some Builtin.«list.pop» := entryFor_of_tree (by kernel_rfl)
theorem entry_linit : entryFor table "list.__init__" = some Builtin.«list.__init__» := entryFor_of_tree (by kernel_rfl)
theorem entry_llen : entryFor table "list.__len__" = some Builtin.«list.__len__» := entryFor_of_tree (by kernel_rfl)
theorem plain_lpop : plainId "list.pop" = true := by decide +kernel
theorem plain_linit : plainId "list.__init__" = true := by decide +kernel
theorem plain_llen : plainId "list.__len__" = true := by decide +kernel
theorem bound_linit {M : Model} {A : Around} {E : Value → Shared → Prop} {s : Shared} {x : Value} {Q : Unit → Shared → Prop} (q : Q () s) : wpAny M A (checkBoundCall "list.__init__" ⟨[x], []⟩) Q E s := by
  have e : checkBoundCall "list.__init__" ⟨[x], []⟩ = pure () := by kernel_rfl
  rw [e]; exact wpAny_pure q
theorem bound_llen {M : Model} {A : Around} {E : Value → Shared → Prop} {s : Shared} {x : Value} {Q : Unit → Shared → Prop} (q : Q () s) : wpAny M A (checkBoundCall "list.__len__" ⟨[x], []⟩) Q E s := by
  have e : checkBoundCall "list.__len__" ⟨[x], []⟩ = pure () := by kernel_rfl
  rw [e]; exact wpAny_pure q
theorem kc_mod {P : Params} : mroIn (Kc P) 157 (.type "module") = some false := by kernel_rfl
theorem kc_typ {P : Params} : typeIn (Kc P) (.ref 157) = some (.type "type") := by kernel_rfl
section
variable {prog : Program} {A : Around} {P : Params} {E : Value → Shared → Prop} {h : Heap} {g : Array GenState} {d : Drawn} {t : Nat} {os : OsState} {x da : Addr} {vs : Array Value} {n : Nat} {i : Int} {t' : Tok}
theorem bound_lpop {M : Model} {Q : Unit → Shared → Prop} (X : (Kc P).In h) (a : h.get? x = some (AObj da vs n)) (q : Q () ⟨h, g, d, t, os⟩) : wpAny M A (checkBoundCall "list.pop" ⟨[.ref x], []⟩) Q E ⟨h, g, d, t, os⟩ := by
  have t1 : Looks M h (typeOf (.ref x)) (.ref 157) := (Looks.ld a).andThen .now
  have e1 : Looks M h (isInstance (.ref x) (.type "module")) false := t1.andThen (looks_mroIn X kc_mod)
  have e2 : Looks M h (isType (.ref x)) false := (Looks.ld (part := some headPart) a).andThen .now
  have e3 : Looks M h (classData 157) { name := "_Accumulator", bases := [.type "list"], mro := [.ref 157, .type "list", .type "object"], ns := 156, qualname := "_Accumulator" } := looks_clsIn X kc_cls
  have e4 : Looks M h (typeOf (.ref 157)) (.type "type") := looks_typeIn X kc_typ
  have h1 : Manifest.varargsMethods.contains "list.pop" = false := by decide +kernel
  unfold checkBoundCall
  repeat (first | simp only [h1, Bool.false_or, Bool.false_eq_true, if_false] | lk)
  exact q
theorem sizeL (k : Nat) (h : k ≤ 1000) : k ≤ sizeLine := by rw [sizeLine_eq]; omega
theorem run_linit {R : Result → Shared → Prop} (a : h.get? x = some (AObj da #[] n))
    (hq : ∀ h', h'.get? x = some (AObj da #[] n) → Heap.SameBut x h h' → R (.ok (.ret .none)) ⟨h', g, d, t, os⟩) : codeAny (model prog w) A (.builtin "list.__init__" ⟨[.ref x], []⟩) R ⟨h, g, d, t, os⟩ := by
  refine codeAny_builtin entry_linit ?_
  unfold Builtin.«list.__init__»
  repeat (first | (with_reducible refine wpAny_updateSeq (xs := #[]) (n := n) a rfl ?_ (hz := sizeL _ (by simp)) (_hz' := Nat.le_succ_of_le (sizeL _ (by simp)))) | lk)
  have hm : Obj.mapSeq (fun _ => #[]) (AObj da #[] n) = AObj da #[] n := by simp [Obj.mapSeq]
  exact hq _ (by rw [Heap.get?_update_self _ a (by rw [hm]; rfl), hm]) (Heap.SameBut.update ..)
theorem run_llen {R : Result → Shared → Prop} (a : h.get? x = some (AObj da vs n)) (hq : R (.ok (.ret (.int vs.size t))) ⟨h, g, d, t + 1, os⟩) : codeAny (model prog w) A (.builtin "list.__len__" ⟨[.ref x], []⟩) R ⟨h, g, d, t, os⟩ := by
  refine codeAny_builtin entry_llen ?_
  unfold Builtin.«list.__len__»
  repeat lk
  exact hq
theorem run_lpop {R : Result → Shared → Prop} {v : Value} (a : h.get? x = some (AObj da vs n)) (hv : vs.toList.getLast? = some v) (hz : vs.size ≤ 1000)
    (hq : ∀ h' vs' n', vs'.toList = vs.toList.dropLast → h'.get? x = some (AObj da vs' n') → Heap.SameBut x h h' → R (.ok (.ret v)) ⟨h', g, d, t, os⟩) : codeAny (model prog w) A (.builtin "list.pop" ⟨[.ref x], []⟩) R ⟨h, g, d, t, os⟩ := by
  refine codeAny_builtin entry_lpop ?_
  have hlen : vs.toList ≠ [] := fun z => by rw [z] at hv; cases hv
  have hpos : 0 < vs.size := by rw [← Array.length_toList]; exact List.length_pos_iff.mpr hlen
  have hemp : vs.isEmpty = false := by simp; intro z; rw [z] at hpos; exact absurd hpos (by decide)
  have hidx : (seqIndex? (-1) vs.size).bind (fun k => Option.map (fun x => (k, x)) vs[k]?) = some (vs.size - 1, v) := by
    have e1 : seqIndex? (-1) vs.size = some (vs.size - 1) := by unfold seqIndex?; simp; omega
    have e2 : vs[vs.size - 1]? = some v := by
      rw [List.getLast?_eq_getElem?] at hv
      rw [← Array.getElem?_toList]; exact hv
    rw [e1, Option.bind_some, e2]; rfl
  unfold Builtin.«list.pop»
  repeat lk
  rw [hemp, if_neg (by decide), hidx]
  dsimp only
  refine wpAny_bind (wpAny_updateSeq (xs := vs) (n := n) a rfl ?_ (hz := sizeL _ hz) (_hz' := ?_))
  · refine wpAny_pure ?_
    have hm : Obj.mapSeq (·.eraseIdxIfInBounds (vs.size - 1)) (AObj da vs n) = AObj da (vs.eraseIdxIfInBounds (vs.size - 1)) (if (vs.eraseIdxIfInBounds (vs.size - 1)).size == vs.size then n else n + 1) := by simp only [Obj.mapSeq]
    refine hq _ (vs.eraseIdxIfInBounds (vs.size - 1)) _ ?_ (by rw [Heap.get?_update_self _ a (by rw [hm]; rfl), hm]) (Heap.SameBut.update ..)
    unfold Array.eraseIdxIfInBounds
    rw [dif_pos (by omega), Array.toList_eraseIdx, List.dropLast_eq_take, List.eraseIdx_eq_take_drop_succ, Array.length_toList]
    have : vs.size - 1 + 1 = vs.size := by omega
    rw [this, ← Array.length_toList, List.drop_length, List.append_nil]
  · unfold Array.eraseIdxIfInBounds
    rw [dif_pos (by omega), Array.size_eraseIdx]
    exact Nat.le_trans (Nat.sub_le _ _) (Nat.le_succ_of_le (sizeL _ hz))
theorem bm_call {id T : String} {bm : Addr} {R : Result → Shared → Prop} (hT : T = "builtin_function_or_method" ∨ T = "method-wrapper") (hb : h.get? bm = some (bmObj T id x)) (hp : plainId id = true)
    (hc : ∀ {A : Around} {E : Value → Shared → Prop} {Q : Unit → Shared → Prop}, Q () ⟨h, g, d, t, os⟩ → wpAny (model prog w) A (checkBoundCall id ⟨[.ref x], []⟩) Q E ⟨h, g, d, t, os⟩)
    (h' : codeAny (model prog w) A (.builtin id ⟨[.ref x], []⟩) R ⟨h, g, d, t, os⟩) : codeAny (model prog w) A (.call (.ref bm) ⟨[], []⟩) R ⟨h, g, d, t, os⟩ := by
  refine codeAny_of_tree ?_
  show wpAny _ _ (callAny (.ref bm) _) _ _ _
  refine nd_load hb ?_
  have hcls : (Value.type T == Value.type "method" || Value.type T == .type "builtin_function_or_method" || Value.type T == .type "method-wrapper") = true := by rcases hT with rfl | rfl <;> decide +kernel
  have hcl2 : (Value.type T != Value.type "method") = true := by rcases hT with rfl | rfl <;> decide +kernel
  refine wpAny_bind (wpAny_pure ?_)
  dsimp only
  rw [if_pos hcls]
  show wpAny _ _ (if (Value.type T != Value.type "method") = true then _ else _) _ _ _
  rw [if_pos hcl2]
  refine wpAny_bind (hc ?_)
  exact wpAny_pure ⟨plainId_quiet hp _, h'⟩
end
end
section
-- H5
open PySem PySem.W PyProof.Rows PySem.Calls Builtin Builtin.ObjectAttr
variable {w : World}
section
variable {prog : Program} {A : Around} {P : Params} {E : Value → Shared → Prop} {x da : Addr} {vs : Array Value} {n : Nat} {s : Shared}
theorem callWith_bm {pos : Pos} {id T : String} {bm : Addr} {Q : Value → Shared → Prop} (hT : T = "builtin_function_or_method" ∨ T = "method-wrapper") (hb : s.heap.get? bm = some (bmObj T id x))
    (h : wpAny (model prog w) A (call (.ref bm) []) Q E s) : wpAny (model prog w) A (callWith pos (.ref bm) [] (backTo pos []) []) Q E s := by
  have hcls : (Value.type T == .type "builtin_function_or_method" || Value.type T == .type "method-wrapper") = true := by rcases hT with rfl | rfl <;> decide +kernel
  have hcl2 : (Value.type T != Value.type "method") = true := by rcases hT with rfl | rfl <;> decide +kernel
  unfold callWith
  refine wpAny_bind (wpAny_holding (PySem.evalArgs_none (wpAny_bind (wpAny_standAt ?_))))
  unfold keeperOf
  refine wpAny_bind (wpAny_bind (wpAny_load hb ?_))
  dsimp only
  rw [if_pos hcl2, if_pos hcls]
  refine wpAny_pure ?_
  exact wpAny_bind (wpAny_mono h (fun r s₂ hr => wpAny_bind (wpAny_holding (wpAny_point (wpAny_pure hr)))) fun _ _ x => x)
theorem super_call {body : List Stmt} {env : Env} {p0 p1 apos pos : Pos} {nm : Str} {f cc : Addr} {of oc : Obj} {fd : FuncData} {cvs : Array Value} {tf : Tok} {id D T gid : String} {G : Builtin} {m : Str → Option Value} {Q : Value → Shared → Prop}
    (I : Inv s.heap) (X : (Kc P).In s.heap) (a : s.heap.get? x = some (AObj da vs n)) (hk : env.scope.kind = .function) (hglo : env.globals = mainGlobals) (hbui : env.builtins = builtinsNs)
    (hks : env.kindOf "super" = some .globalImplicit) (hkc : env.kindOf "__class__" = some .free) (hka : env.kindOf "self" = some .local) (hfu : env.func = some f) (hf : s.heap.get? f = some of) (hfd : of.data = .func fd)
    (hp : ((fd.params.posonlyargs ++ fd.params.args).head?).map (·.arg) = some ("self" : Str)) (hco : env.code = .ref cc) (hcc : s.heap.get? cc = some oc) (hoc : oc.data = .fields cvs) (hvs : cvs[2]? = some (.str PRG.main.file tf))
    (hce : env.cells.lookup ("__class__" : Str) = some 81) (hns : s.heap.Ns env.locals m) (hms : m "self" = some (.ref x))
    (hn : (nm == ("__class__" : Str)) = false) (hal : alongIn (Kc P) nm [.type "list", .type "object"] = some (some (.builtin id)))
    (hT : typeOf (.builtin id) = pure (.type D)) (S : Slot D "__get__" gid) (en : entryFor table gid = some G) (ar : argsOk gid ⟨[.builtin id, .ref x, .ref 157], []⟩) (hTT : T = "builtin_function_or_method" ∨ T = "method-wrapper") (hpl : plainId id = true)
    (hg : ∀ {h : Heap} {g d os} {t' : Nat} {A : Around} {E' : Value → Shared → Prop} {Q' : Fin → Shared → Prop}, (Kc P).In h → h.get? x = some (AObj da vs n) → Q' (.done (.ret (.ref h.objs.size))) ⟨h.push (bmObj T id x), g, d, t', os⟩ → wpAny (model PRG w) A (G ⟨[.builtin id, .ref x, .ref 157], []⟩) Q' E' ⟨h, g, d, t', os⟩)
    (hc : ∀ {h : Heap} {g d os t'} {A : Around} {E : Value → Shared → Prop} {Q : Unit → Shared → Prop}, (Kc P).In h → h.get? x = some (AObj da vs n) → Q () ⟨h, g, d, t', os⟩ → wpAny (model PRG w) A (checkBoundCall id ⟨[.ref x], []⟩) Q E ⟨h, g, d, t', os⟩)
    (h : ∀ h' tk, (∀ b o, s.heap.get? b = some o → h'.get? b = some o) → codeAny (model PRG w) A (.builtin id ⟨[.ref x], []⟩) (fun r s' => match r with | .ok (.ret v) => Q v s' | .ok _ => False | .error e => E e s') { s with heap := h', toks := tk })
    (he : ∃ pl : Sem Bool, eval (.Call (.Attribute (.Call (.Name "super" p0) [] [] p1) nm apos) [] [] pos) env = (do
      let ov ← attributeBase (.Call (.Name "super" p0) [] [] p1) nm env (eval (.Call (.Name "super" p0) [] [] p1) env)
      standAt apos.atName
      let (f, first) ← holding [ov] (getMethod ov nm pl)
      callWith pos f first (backTo pos (starEach [] env)) [])) :
    PySem.wpAt (model PRG w) A (.func body env) (eval (.Call (.Attribute (.Call (.Name "super" p0) [] [] p1) nm apos) [] [] pos) env) Q E s := by
  obtain ⟨pl, he⟩ := he
  refine ks_wpAt_MethodCall (pl := pl) ?_ he
  obtain ⟨ar', hp1, hp2⟩ := Option.map_eq_some_iff.mp hp
  refine ks_wpAt_super_base (ar := ar') hks hkc hn hfu hf hfd hp1 hco hcc hoc hvs (by simp) (by decide +kernel) ?_
  obtain ⟨mg, g1, _, _, g3, _⟩ := I.glo
  obtain ⟨mb, b1, b2⟩ := I.bui
  refine ks_loadName_global hk hks (loadGlobal_builtin (mg := mg) (mb := mb) (by rw [hglo]; exact g1) (g3 ("super", .type "super") (by simp [btab])) (by rw [hbui]; exact b1) (b2 ("super", .type "super") (by simp [btab])) ⟨rfl, ?_⟩)
  refine wpAny_loadName_free hk hkc hce ⟨_, X _ _ (show (Kc P).lookup 81 = some _ from rfl), rfl⟩ ?_
  rw [hp2]
  refine wpAny_loadName_local hk hka hns hms ?_
  obtain ⟨hh, g, d, t, os⟩ := s
  refine ks_wpAny_isType_cls (kc_get X) rfl ⟨rfl, ?_⟩
  refine ks_wpAny_call_super (kc_get X) rfl a rfl (fun c e => by cases e) (looks_mroIn X kc_self) fun h' e k => ?_
  have X' : (Kc P).In h' := X.keeps k
  have a' := k _ _ a
  refine getMethod_super X' a' e hn hal hT S en ar (fun {t' A E' Q'} q => hg X' a' q) ?_
  have up : ∀ b o, h'.get? b = some o → (h'.push (bmObj T id x)).get? b = some o := fun b o e => Heap.get?_push_of_some _ e
  have hb : (h'.push (bmObj T id x)).get? h'.objs.size = some (bmObj T id x) := Heap.get?_push_size _ rfl
  refine callWith_bm hTT hb (wpAny_call (bm_call hTT hb hpl (fun {A E Q} q => hc (X'.keeps up) (up _ _ a') q) ?_))
  exact h _ _ fun b o e => up _ _ (k _ _ e)
end
end
section
-- H6
variable {w : World}
open PySem.Calls Builtin Builtin.ObjectAttr
noncomputable abbrev fdPC : FuncData := fdM 8 "part_count" [("__class__", 81)] .none (.ref 147) 153
theorem mem_fil {c : Addr} (h : c = 93 ∨ c = 116 ∨ c = 153) : c ∈ filTab := by rcases h with rfl | rfl | rfl <;> simp [filTab]
theorem call_sup {n : Nat} {p : Addr × FuncData × Addr} (hp : p ∈ fnTab) {body : List Stmt} {xs : List Str} {A : Around} {s : Shared} {vs : List Value} {Q : Value → Shared → Prop} (I : Inv s.heap) (R : Rm (n + 1) A)
    (hb : p.2.1.body = .stmts body) (hbd : BindsTo s p.2.1 ⟨vs, []⟩ (xs.zip vs)) (hnc : ∀ x ∈ p.2.1.scope.names, x.2 ≠ .cell) (hl : vs.length = xs.length) (hloc : ∀ y ∈ xs, p.2.1.scope.names.lookup y = some .local) (hco : p.2.1.scope.isCoroutine = false) (hge : p.2.1.scope.isGenerator = false) (hki : p.2.1.scope.kind = .function)
    (hk : ∀ h₀ tk, h₀.Ns s.heap.objs.size (fun x => (xs.zip vs).reverse.lookup x) → (∀ b o, s.heap.get? b = some o → h₀.get? b = some o) →
      PySem.wpAt (model PRG w) (A.deeper (callEnv p.2.1 s.heap.objs.size p.1)) (.func body (callEnv p.2.1 s.heap.objs.size p.1)) (execs body (callEnv p.2.1 s.heap.objs.size p.1)) (fun f s' => Q (fval f) s') (fun _ _ => False) { s with heap := h₀, toks := tk }) :
    wpAny (model PRG w) A (call (.ref p.1) vs) Q (fun _ _ => False) s := by
  obtain ⟨ob, oc, cvs, t, a, b, c, e, f, g, h⟩ := I.fns p hp
  refine wpAny_call ?_
  refine ks_codeAny_call_defAt (fd := p.2.1) (body := body) (binds := xs.zip vs) (by have := R.depth; omega) a c I.nolimit ⟨_, oc, cvs, t, e, f, g, h⟩ hb hbd hnc (fun y hy => hloc _ (by rw [← zip_names hl]; exact List.mem_map.mpr ⟨y, hy, rfl⟩)) (fun h₀ hns keep => ?_) hco hge hki
  refine ks_wpAt_mono (hk h₀ _ hns keep) (fun fl s' q => ?_) fun _ _ z => z.elim
  cases fl <;> exact q
theorem part_count_S {n : Nat} {i : Int} {ds : List D} : CallS w (n + 1) (.ref 154) [.acc i ds] (.int ds.length) := fun A s X vs R I B hd => by
  obtain ⟨v, _, rfl, p, q⟩ := hd.cons_inv
  have := q.nil_inv; subst this
  unfold Rp at p
  obtain ⟨x, da, vs, k, t, rfl, hx, hxd, ha, hns, hr⟩ := p
  refine call_sup (p := (154, fdPC, 153)) (by walk_at "mem") (body := dB (clAt 8)) (xs := ["self"]) I R rfl (BindsTo.of_eq rfl) (by decide +kernel) rfl (by decide +kernel) rfl rfl rfl fun h₀ tk hN keep => ?_
  obtain ⟨P, XK⟩ := I.kls
  have I₀ : Inv h₀ := I.keeps keep
  obtain ⟨oc, cvs, tf, c1, c2, c3⟩ := I₀.fil 153 (mem_fil (.inr (.inr rfl)))
  obtain ⟨ob, oc', cvs', t'', a, b, c, e, f, g, hh⟩ := I₀.fns (154, fdPC, 153) (by walk_at "mem")
  refine ks_wpAt_execs_cons (ks_wpAt_Return_some ?_)
  refine super_call (s := { s with heap := h₀, toks := tk }) (nm := "__len__") (id := "list.__len__") (T := "method-wrapper") I₀ (XK.keeps keep) (keep _ _ ha) rfl rfl rfl rfl rfl rfl rfl a c rfl rfl c1 c2 c3 rfl hN rfl (by decide +kernel) kc_slen type_llen slot_wd_get entry_wd_get (args_wd_get _ _ _) (.inr rfl) plain_llen
    (fun X a q => wd_get (.inr rfl) X a q) (fun X a q => bound_llen q) (fun h' tk' k2 => ?_) ⟨_, rfl⟩
  refine run_llen (k2 _ _ (keep _ _ ha)) ?_
  have e1 := hr.length
  simp only [Array.length_toList] at e1
  have kk : ∀ b o, s.heap.get? b = some o → h'.get? b = some o := fun b o e => k2 _ _ (keep _ _ e)
  rw [e1]
  exact ⟨Eff.of_keeps kk, I.keeps kk, _, rfl⟩
end
section
-- H7
variable {w : World}
open PySem.Calls Builtin Builtin.ObjectAttr
noncomputable abbrev fdIN : FuncData := fdM 0 "__init__" [("__class__", 81)] (.ref 86) (.ref 87) 93
theorem code_sup {p : Addr × FuncData × Addr} (hp : p ∈ fnTab) {body : List Stmt} {xs : List Str} {A : Around} {s : Shared} {vs : List Value} {R : Result → Shared → Prop} (I : Inv s.heap) (hd : A.depth < recursionLimit)
    (hb : p.2.1.body = .stmts body) (hbd : BindsTo s p.2.1 ⟨vs, []⟩ (xs.zip vs)) (hnc : ∀ x ∈ p.2.1.scope.names, x.2 ≠ .cell) (hl : vs.length = xs.length) (hloc : ∀ y ∈ xs, p.2.1.scope.names.lookup y = some .local) (hco : p.2.1.scope.isCoroutine = false) (hge : p.2.1.scope.isGenerator = false) (hki : p.2.1.scope.kind = .function)
    (hk : ∀ h₀ tk, h₀.Ns s.heap.objs.size (fun x => (xs.zip vs).reverse.lookup x) → (∀ b o, s.heap.get? b = some o → h₀.get? b = some o) →
      PySem.wpAt (model PRG w) (A.deeper (callEnv p.2.1 s.heap.objs.size p.1)) (.func body (callEnv p.2.1 s.heap.objs.size p.1)) (execs body (callEnv p.2.1 s.heap.objs.size p.1)) (fun f s' => R (.ok (.ret (fval f))) s') (fun _ _ => False) { s with heap := h₀, toks := tk }) :
    codeAny (model PRG w) A (.call (.ref p.1) ⟨vs, []⟩) R s := by
  obtain ⟨ob, oc, cvs, t, a, b, c, e, f, g, h⟩ := I.fns p hp
  refine ks_codeAny_call_defAt (fd := p.2.1) (body := body) (binds := xs.zip vs) hd a c I.nolimit ⟨_, oc, cvs, t, e, f, g, h⟩ hb hbd hnc (fun y hy => hloc _ (by rw [← zip_names hl]; exact List.mem_map.mpr ⟨y, hy, rfl⟩)) (fun h₀ hns keep => ?_) hco hge hki
  refine ks_wpAt_mono (hk h₀ _ hns keep) (fun fl s' q => ?_) fun _ _ z => z.elim
  cases fl <;> exact q
theorem typeCall_w (i : Int) (t : Tok) : (Code.builtin "type.__call__" ⟨[.ref 157, .int i t], []⟩).weight = 1 := by first | rfl | decide +kernel
theorem typeCall_depth {A : Around} (i : Int) (t : Tok) : (A.under (Code.builtin "type.__call__" ⟨[.ref 157, .int i t], []⟩)).depth = A.depth + 1 := by
  show A.depth + (Code.builtin "type.__call__" ⟨[.ref 157, .int i t], []⟩).weight = _
  rw [typeCall_w]
theorem make_row {n : Nat} {i : Int} {t : Tok} {A : Around} {s : Shared} {Q : Value → Shared → Prop} (I : Inv s.heap) (R : Rm (n + 2) A)
    (h : ∀ x da k s', x = s.heap.objs.size + 1 → da = s.heap.objs.size → Eff s s' → Inv s'.heap → s'.heap.get? x = some (AObj da #[] k) → s'.heap.Ns da (accM i t) → Q (.ref x) s') :
    wpAny (model PRG w) A (call (.ref 157) [.int i t]) Q (fun _ _ => False) s := by
  obtain ⟨P, XK⟩ := I.kls
  refine wpAny_call ?_
  obtain ⟨hh, g, d, tk, os⟩ := s
  refine make_acc XK ?_
  have k0 : ∀ b o, hh.get? b = some o → ((hh.push emptyDict).push (AObj hh.objs.size #[] 0)).get? b = some o := fun b o e => Heap.get?_push_of_some _ (Heap.get?_push_of_some _ e)
  have hx : ((hh.push emptyDict).push (AObj hh.objs.size #[] 0)).get? (hh.objs.size + 1) = some (AObj hh.objs.size #[] 0) := by heap_get
  have hda : ((hh.push emptyDict).push (AObj hh.objs.size #[] 0)).get? hh.objs.size = some emptyDict := by heap_get
  have hsz : hh.objs.size < ((hh.push emptyDict).push (AObj hh.objs.size #[] 0)).objs.size := Heap.lt_size hda
  generalize hHH : (hh.push emptyDict).push (AObj hh.objs.size #[] 0) = HH at *
  clear hHH
  have I1 : Inv HH := I.keeps k0
  refine code_sup (p := (94, fdIN, 93)) (by walk_at "mem") (body := dB (clAt 0)) (xs := ["self", "initial_size"]) I1 (by have := R.depth; rw [typeCall_depth]; omega) rfl (BindsTo.of_defaults rfl ((XK.keeps k0) _ _ (show (Kc P).lookup 86 = some _ from rfl)) rfl rfl rfl) (by decide +kernel) rfl (by decide +kernel) rfl rfl rfl fun h₀ tk₀ hN keep => ?_
  have I₀ : Inv h₀ := I1.keeps keep
  have X₀ := (XK.keeps k0).keeps keep
  refine ks_wpAt_execs_cons (ks_wpAt_Assign_Attr (wpAt_of_wpAny (wpAny_Name (wpAny_loadName_local rfl rfl hN rfl ?_) (by rfl))) (by rfl))
  refine wpAny_Name (wpAny_loadName_local rfl rfl hN rfl ?_) (by rfl)
  refine acc_setAttr X₀ (keep _ _ hx) (keep _ _ hda) fun h₂ tk₂ ns₂ sb₂ => ?_
  have hxd : hh.objs.size + 1 ≠ hh.objs.size := Nat.succ_ne_self _
  have lN : HH.objs.size ≠ hh.objs.size := Nat.ne_of_gt hsz
  have k2 : ∀ b o, b ≠ hh.objs.size → h₀.get? b = some o → h₂.get? b = some o := fun b o hb e => (sb₂.2 b hb).trans e
  have kk2 : ∀ b o, hh.get? b = some o → h₂.get? b = some o := fun b o e => k2 b o (Nat.ne_of_lt (Heap.lt_size e)) (keep _ _ (k0 _ _ e))
  have I₂ : Inv h₂ := I.keeps kk2
  have X₂ := XK.keeps kk2
  have hx₂ : h₂.get? (hh.objs.size + 1) = some (AObj hh.objs.size #[] 0) := k2 _ _ hxd (keep _ _ hx)
  have hN₂ : h₂.Ns HH.objs.size _ := hN.at' fun o e => k2 _ _ lN e
  obtain ⟨oc₂, cvs₂, tf₂, d1, d2, d3⟩ := I₂.fil 93 (mem_fil (.inl rfl))
  obtain ⟨ob₂, oc₂', cvs₂', t₂'', a₂, b₂, e₂, f₂, g₂, q₂, hh₂'⟩ := I₂.fns (94, fdIN, 93) (by walk_at "mem")
  refine ks_wpAt_execs_cons (ks_wpAt_Expr_any ?_ (by rfl) (by rfl))
  refine super_call (s := { heap := h₂, gens := g, drawn := d, toks := tk₂, os := os }) (nm := "__init__") (id := "list.__init__") (T := "method-wrapper") I₂ X₂ hx₂ rfl rfl rfl rfl rfl rfl rfl a₂ e₂ rfl rfl d1 d2 d3 rfl hN₂ rfl (by decide +kernel) kc_sinit type_linit slot_wd_get entry_wd_get (args_wd_get _ _ _) (.inr rfl) plain_linit
    (fun X a q => wd_get (.inl rfl) X a q) (fun X a q => bound_linit q) (fun h' tk' k3 => ?_) ⟨_, rfl⟩
  refine run_linit (k3 _ _ hx₂) fun h₅ e5 sb₅ => ?_
  refine wpAt_of_wpAny (wpAny_execs_nil ⟨rfl, ?_⟩)
  have k5 : ∀ b o, b ≠ hh.objs.size + 1 → h₂.get? b = some o → h₅.get? b = some o := fun b o hb e => (sb₅.2 b hb).trans (k3 _ _ e)
  have kk5 : ∀ b o, hh.get? b = some o → h₅.get? b = some o := fun b o e => k5 b o (Nat.ne_of_lt (Nat.lt_succ_of_lt (Heap.lt_size e))) (kk2 _ _ e)
  exact h _ _ _ _ rfl rfl (Eff.of_keeps kk5) (I.keeps kk5) e5 (ns₂.at' fun o e => k5 _ _ hxd.symm e)
end
section
-- H8
variable {w : World}
open PySem.Calls Builtin Builtin.ObjectAttr
noncomputable abbrev fdPU : FuncData := fdM 1 "push" [] .none .none 100
theorem typ_lapp {P : Params} : typeIn (Kc P) (.builtin "list.append") = some (.type "method_descriptor") := by kernel_rfl
theorem entry_lapp : entryFor table "list.append" = some Builtin.«list.append» := entryFor_of_tree (by kernel_rfl)
theorem plain_lapp : plainId "list.append" = true := by decide +kernel
section
variable {prog : Program} {A : Around} {P : Params} {E : Value → Shared → Prop} {h : Heap} {g : Array GenState} {d : Drawn} {t : Nat} {os : OsState} {x da : Addr} {vs : Array Value} {n : Nat}
theorem bound_lapp {M : Model} {v : Value} {Q : Unit → Shared → Prop} (X : (Kc P).In h) (a : h.get? x = some (AObj da vs n)) (q : Q () ⟨h, g, d, t, os⟩) : wpAny M A (checkBuiltinCall "list.append" ⟨[.ref x, v], []⟩) Q E ⟨h, g, d, t, os⟩ := by
  have t1 : Looks M h (typeOf (.ref x)) (.ref 157) := (Looks.ld a).andThen .now
  have e1 : Looks M h (isInstance (.ref x) (.type "list")) true := t1.andThen (looks_mroIn X kc_list)
  have k1 : builtinKind "list.append" = some .method := by decide +kernel
  have k2 : splitId "list.append" = some ("list", "append") := by decide +kernel
  simp only [checkBuiltinCall, k1, k2]
  repeat lk
  exact q
theorem run_lapp {R : Result → Shared → Prop} {v : Value} (a : h.get? x = some (AObj da vs n)) (hz : vs.size ≤ 999)
    (hq : ∀ h' n', h'.get? x = some (AObj da (vs.push v) n') → Heap.SameBut x h h' → R (.ok (.ret .none)) ⟨h', g, d, t, os⟩) : codeAny (model prog w) A (.builtin "list.append" ⟨[.ref x, v], []⟩) R ⟨h, g, d, t, os⟩ := by
  refine codeAny_builtin entry_lapp ?_
  unfold Builtin.«list.append»
  repeat (first | (with_reducible refine wpAny_updateSeq (xs := vs) (n := n) a rfl ?_ (hz := sizeL _ (by omega)) (_hz' := Nat.le_succ_of_le (sizeL _ (by simp; omega)))) | lk)
  have hm : Obj.mapSeq (·.push v) (AObj da vs n) = AObj da (vs.push v) (n + 1) := by simp [Obj.mapSeq]
  exact hq _ _ (by rw [Heap.get?_update_self _ a (by rw [hm]; rfl), hm]) (Heap.SameBut.update ..)
end
theorem rpl_raw {X : Addr → Prop} {h : Heap} : ∀ vs : List Value, RpL X h (vs.map D.raw) vs
  | [] => RpL.nil
  | v :: vs => RpL.cons rfl (rpl_raw vs)
theorem rawVars {X : Addr → Prop} {env : Env} {h : Heap} {xs : List Str} {vs : List Value} (hk : env.scope.kind = .function) (hg : env.globals = mainGlobals) (hb : env.builtins = builtinsNs) (hN : h.Ns env.locals (fun y => (xs.zip vs).reverse.lookup y))
    (hl : vs.length = xs.length) (nd : xs.Nodup) (hi : iniS ∉ xs) (hloc : ∀ y ∈ xs, env.scope.names.lookup y = some .local) (B : XB X h) : Vars X env (xs.zip (vs.map D.raw)) h := by
  have hz := zip_names hl
  have hzd : (xs.zip (vs.map D.raw)).map (·.1) = xs := zip_names (by simpa using hl)
  refine ⟨B, hk, hg, hb, ⟨_, hN, ?_, fun y d e k => ?_⟩, fun y d e k => ?_⟩
  · show (xs.zip vs).reverse.lookup iniS = none
    rw [List.lookup_eq_none_iff]
    intro q hq
    simp only [bne_iff_ne, ne_eq]
    intro z
    refine hi ?_
    rw [← hz]
    have hm : q.1 ∈ (xs.zip vs).map (·.1) := List.mem_map.mpr ⟨q, List.mem_reverse.mp hq, rfl⟩
    have z' : q.1 = iniS := by first | exact z.symm | exact z | simpa using z.symm | simpa using z
    rw [z'] at hm; exact hm
  · obtain ⟨v, h1, h2⟩ := zip_get (rpl_raw vs) (by simpa using hl) e
    exact ⟨v, rev_lookup hl nd h1, h2⟩
  · exfalso
    have hy : y ∈ xs := by rw [← hzd]; exact List.mem_map.mpr ⟨_, PySem.mem_of_lookup e, rfl⟩
    have h1 : env.kindOf y = some .local := hloc y hy
    rcases k with k | k <;> rw [h1] at k <;> cases k
theorem methCall {o : Expr} {name : Str} {apos pos : Pos} {args : List Expr} {env : Env} {A : Around} {s : Shared} {E : Value → Shared → Prop} {Q : Value → Shared → Prop} (hbase : attributeBase o name env (eval o env) = eval o env)
    (h : ∀ pl : Sem Bool, wpAny (model PRG w) A (eval o env) (fun ov s₁ => wpAny (model PRG w) A (getMethod ov name pl) (fun fx s₂ => wpAny (model PRG w) A (callWith pos fx.1 fx.2 (backTo pos (starEach args env)) []) Q E s₂) E s₁) E s)
    (he : ∃ pl : Sem Bool, eval (.Call (.Attribute o name apos) args [] pos) env = (do
      let ov ← attributeBase o name env (eval o env)
      standAt apos.atName
      let (f, first) ← holding [ov] (getMethod ov name pl)
      callWith pos f first (backTo pos (starEach args env)) [])) : wpAny (model PRG w) A (eval (.Call (.Attribute o name apos) args [] pos) env) Q E s := by
  obtain ⟨pl, he⟩ := he
  rw [he, hbase]
  exact wpAny_bind (wpAny_mono (h pl) (fun ov s₁ h₁ => wpAny_bind (wpAny_standAt (wpAny_bind (wpAny_holding (wpAny_mono h₁ (fun fx s₂ h₂ => h₂) fun _ _ x => x))))) fun _ _ x => x)
theorem push_core {n : Nat} {A : Around} {s : Shared} {x da : Addr} {vs : Array Value} {k : Nat} {i : Int} {t : Tok} {v1 v2 : Value} {X : Addr → Prop} {Q : Value → Shared → Prop} (I : Inv s.heap) (B : XB X s.heap) (R : Rm (n + 1) A) (a : AccAt s.heap x da vs k i t) (hz : vs.size ≤ 999) (hx : 196 ≤ x)
    (h : ∀ s' T k' m, EffM (fun b => b = x) s s' → Inv s'.heap → T ≠ x → ¬ X T → s'.heap.get? T = some (TObj #[v1, v2] m) → s'.heap.get? x = some (AObj da (vs.push (.ref T)) k') → Q .none s') :
    wpAny (model PRG w) A (call (.ref 101) [.ref x, v1, v2]) Q (fun _ _ => False) s := by
  refine call_sup (p := (101, fdPU, 100)) (by walk_at "mem") (body := dB (clAt 1)) (xs := ["self", "fws", "string"]) I R rfl (BindsTo.of_eq rfl) (by decide +kernel) rfl (by decide +kernel) rfl rfl rfl fun h₀ tk hN keep => ?_
  obtain ⟨P, XK⟩ := I.kls
  have I₀ : Inv h₀ := I.keeps keep
  have X₀ := XK.keeps keep
  have a₀ : AccAt h₀ x da vs k i t := ⟨keep _ _ a.obj, a.ns.at' fun o e => keep _ _ e⟩
  refine wpAt_of_wpAny (wpAny_execs_cons (wpAny_Expr ?_ (by rfl) (by rfl)))
  have V : Vars X (callEnv fdPU s.heap.objs.size 101) ([("self", .raw (.ref x)), ("fws", .raw v1), ("string", .raw v2)] : VL) h₀ := rawVars (xs := ["self", "fws", "string"]) (vs := [.ref x, v1, v2]) rfl rfl rfl hN rfl (by decide +kernel) (by decide +kernel) (by show ∀ y ∈ (["self", "fws", "string"] : List Str), (dS (clAt 1)).names.lookup y = some .local; decide +kernel) (B.keeps fun a _ o e => keep a o e)
  have R' : Rm n (A.deeper (callEnv fdPU s.heap.objs.size 101)) := R.deeper
  refine methCall (by rfl) (fun pl => ?_) ⟨_, rfl⟩
  refine wpAny_mono ((show EvS w n (dS (clAt 1)) _ _ (.raw (.ref x)) from by walk_at "name") _ { s with heap := h₀, toks := tk } _ _ rfl R' I₀ V) (fun v s₁ q => ?_) fun _ _ z => z
  obtain ⟨E₁, I₁, q3⟩ := q
  cases (show v = _ from q3)
  have X₁ : (Kc P).In s₁.heap := fun b o e => E₁.keep _ _ (X₀ _ _ e) (Kc_low e).2 fun z => z
  have V₁ := V.eff E₁ I₀
  have keep1 : ∀ {s' : Shared}, Eff { s with heap := h₀, toks := tk } s' → AccAt s'.heap x da vs k i t := fun E => ⟨E.keep _ _ a₀.obj (I₀.notTab a₀.obj (.inl (by nofun))) (fun z => z), E.ns I₀ a₀.ns⟩
  refine acc_getMethod X₁ (keep1 E₁) kc_app (.inr typ_lapp) (by decide +kernel) ?_
  refine Calls.callWith_builtin rfl (Calls.evalArgs_plain (Calls.spliced_cons (wpAny_mono ((show EvS w n (dS (clAt 1)) _ _ (.tup [.raw v1, .raw v2]) from EvS.tupD (k := 0) (by walk_at "evl") (show 2 ≤ sizeLine by decide)) _ s₁ _ _ rfl R' I₁ V₁) (fun v s₂ q => Calls.spliced_nil ?_) fun _ _ z => z)))
  obtain ⟨E₂, I₂, q3⟩ := q
  unfold Rp at q3
  obtain ⟨T, tvs, m, rfl, hTX, hT, hTr⟩ := q3
  obtain ⟨u1, _, ht1, p1, r1⟩ := hTr.cons_inv
  obtain ⟨u2, _, ht2, p2, r2⟩ := r1.cons_inv
  have := r2.nil_inv; subst this
  cases (show u1 = _ from p1); cases (show u2 = _ from p2)
  have htv : tvs = #[v1, v2] := by
    apply Array.toList_inj.mp
    rw [ht1, ht2]
  subst htv
  have a₂ := keep1 (E₁.trans E₂)
  have X₂ : (Kc P).In s₂.heap := fun b o e => E₂.keep _ _ (X₁ _ _ e) (Kc_low e).2 fun z => z
  have hTx : T ≠ x := fun z => by rw [z, a₂.obj] at hT; cases hT
  refine wpAny_call ?_
  refine codeAny_call_builtin_code (plainId_quiet plain_lapp _) ?_
  obtain ⟨hh, g, d, tk₂, os⟩ := s₂
  refine bound_lapp X₂ a₂.obj ?_
  refine run_lapp a₂.obj hz fun h' n' e' sb => ?_
  refine wpAny_execs_nil ?_
  have E03 : Eff s ⟨hh, g, d, tk₂, os⟩ := (Eff.of_keeps keep).trans (E₁.trans E₂)
  refine h _ T _ _ (E03.toM.trans ⟨rfl, fun _ _ e => e, id, fun b o e _ hb => (sb.2 b hb).trans e⟩) (I₂.low (fun b o hb e => (sb.2 b fun z => by rw [z] at hb; exact absurd hx (Nat.not_le.mpr hb)).trans e) fun b o hc e => (sb.2 b fun z => seq_notCod (a := x) a₂.obj rfl o (by rw [← z]; exact e) hc).trans e) hTx hTX ((sb.2 T hTx).trans hT) e'
end
section
-- H9
variable {w : World}
open PySem.Calls Builtin Builtin.ObjectAttr
theorem Inv.effK {s s' : Shared} {P : Params} (X : (Kc P).In s.heap) (E : Eff s s') : (Kc P).In s'.heap := fun b o e => E.keep _ _ (X _ _ e) (Kc_low e).2 fun z => z
theorem EvS.accMeth {n : Nat} {sc : Scope} {r : VL} {o : Expr} {name : Str} {apos pos : Pos} {i : Int} {ds : List D} {f : Addr} {d : D} (ho : EvS w n sc r o (.acc i ds)) (hf : ∀ P, findIn (Kc P) (.ref 157) name = some (some (.ref f))) (hfn : f ∈ [94, 101, 117, 124, 131, 146, 154]) (hn : name ≠ iniS)
    (hc : CallS w n (.ref f) [.acc i ds] d) (hfa : ∀ h, Inv h → FnAt f h) (hbase : ∀ env, attributeBase o name env (eval o env) = eval o env := by intro _; rfl)
    (he : ∀ env, ∃ pl : Sem Bool, eval (.Call (.Attribute o name apos) [] [] pos) env = (do
      let ov ← attributeBase o name env (eval o env)
      standAt apos.atName
      let (f, first) ← holding [ov] (getMethod ov name pl)
      callWith pos f first (backTo pos (starEach [] env)) []) := by intro _; exact ⟨_, rfl⟩) : EvS w n sc r (.Call (.Attribute o name apos) [] [] pos) d := fun A s env X hs R I V => by
  refine methCall (hbase env) (fun pl => ?_) (he env)
  refine wpAny_mono (ho A s env X hs R I V) (fun v s₁ q => ?_) fun _ _ z => z
  obtain ⟨E₁, I₁, q3⟩ := q
  have q3' := q3
  unfold Rp at q3
  obtain ⟨x, da, vs, k, t, rfl, hx, hxd, ha, hns, hr⟩ := q3
  obtain ⟨P, XK⟩ := I₁.kls
  refine acc_getMethod XK ⟨ha, hns⟩ (hf P) (.inl (kc_fn f hfn)) hn ?_
  obtain ⟨oc, od, fd, sl, e⟩ := hfa _ I₁
  refine Calls.callWith_function (PySem.evalArgs_none ⟨⟨e, rfl⟩, ?_⟩)
  exact wpAny_mono (hc A s₁ X [.ref x] R I₁ (V.bnd.eff E₁) (RpL.cons q3' RpL.nil)) (fun v s₂ q => (q.trans E₁ : EvP X s d v s₂)) fun _ _ z => z
theorem fnAt_of {p : Addr × FuncData × Addr} (hp : p ∈ fnTab) {h : Heap} (I : Inv h) : FnAt p.1 h := by
  obtain ⟨⟨oc, od, dt, sl⟩, oc', cvs, t, a, b, c, _⟩ := I.fns p hp
  simp only at c
  subst c
  exact ⟨oc, od, _, sl, a⟩
noncomputable abbrev fdPO : FuncData := fdM 3 "pop" [("__class__", 81)] .none (.ref 110) 116
theorem pop_core {n : Nat} {A : Around} {s : Shared} {x da : Addr} {vs : Array Value} {k : Nat} {i : Int} {t : Tok} {ds : List D} {v : Value} {Q : Value → Shared → Prop} (I : Inv s.heap) (R : Rm (n + 2) A) (a : AccAt s.heap x da vs k i t) (hr : RpL (fun _ => False) s.heap ds vs.toList) (hv : vs.toList.getLast? = some v) (hz : vs.size ≤ 1000) (hx : 196 ≤ x)
    (h : ∀ s' vs' k', EffM (fun b => b = x) s s' → Inv s'.heap → vs'.toList = vs.toList.dropLast → s'.heap.get? x = some (AObj da vs' k') → Q v s') :
    wpAny (model PRG w) A (call (.ref 117) [.ref x]) Q (fun _ _ => False) s := by
  refine call_sup (n := n + 1) (p := (117, fdPO, 116)) (by walk_at "mem") (body := dB (clAt 3)) (xs := ["self"]) I R rfl (BindsTo.of_eq rfl) (by decide +kernel) rfl (by decide +kernel) rfl rfl rfl fun h₀ tk hN keep => ?_
  obtain ⟨P, XK⟩ := I.kls
  have I₀ : Inv h₀ := I.keeps keep
  have X₀ := XK.keeps keep
  have a₀ : AccAt h₀ x da vs k i t := ⟨keep _ _ a.obj, a.ns.at' fun o e => keep _ _ e⟩
  have R' : Rm (n + 1) (A.deeper (callEnv fdPO s.heap.objs.size 117)) := R.deeper
  have hr₀ : RpL (fun _ => False) h₀ ds vs.toList := hr.keep fun b o e _ _ => keep b o e
  have hlen := hr.length
  simp only [Array.length_toList] at hlen
  have hpos : 0 < ds.length := by
    rw [← hlen, ← Array.length_toList]
    exact List.length_pos_iff.mpr fun z => by rw [z] at hv; cases hv
  have V : Vars (fun _ => False) (callEnv fdPO s.heap.objs.size 117) ([("self", .acc i ds)] : VL) h₀ := by
    refine ⟨fun _ y => y.elim, rfl, rfl, rfl, ⟨_, hN, rfl, fun y d e kk => ?_⟩, fun y d e kk => ?_⟩
    · have hm : (y, d) ∈ ([("self", .acc i ds)] : VL) := mem_of_lookup e
      simp only [List.mem_cons, List.not_mem_nil, or_false, Prod.mk.injEq] at hm
      obtain ⟨rfl, rfl⟩ := hm
      refine ⟨_, rfl, ?_⟩
      unfold Rp
      exact ⟨x, da, vs, k, t, rfl, (fun z => z), (fun z => z), a₀.obj, a₀.ns, hr₀⟩
    · have hm : (y, d) ∈ ([("self", .acc i ds)] : VL) := mem_of_lookup e
      simp only [List.mem_cons, List.not_mem_nil, or_false, Prod.mk.injEq] at hm
      obtain ⟨rfl, rfl⟩ := hm
      exfalso
      have h1 : (callEnv fdPO s.heap.objs.size 117).kindOf "self" = some .local := rfl
      rcases kk with kk | kk <;> rw [h1] at kk <;> cases kk
  refine ks_wpAt_execs_cons (ks_wpAt_If (wpAt_of_wpAny (wpAny_mono ((?t : TstS w (n + 1) (dS (clAt 3)) ([("self", .acc i ds)] : VL) _ false) _ { s with heap := h₀, toks := tk } _ _ rfl R' I₀ V) (fun b' s₁ g => ?_) fun _ _ z => z)))
  case t =>
    refine TstS.cmp (a := .int ds.length) (b := .int 0) (EvS.accMeth (by walk_at "name") (fun _ => kc_pc) (by simp) (by decide +kernel) part_count_S (fun _ I => fnAt_of (p := (154, fdPC, 153)) (by walk_at "mem") I)) (by walk_at "ev") ?_
    have := CmpS.eqI (w := w) (n := n + 1) (a := (ds.length : Int)) (b := 0)
    rw [show ((ds.length : Int) == 0) = false by simp; intro z; rw [z] at hpos; exact absurd hpos (by decide)] at this
    exact this
  obtain ⟨rfl, E₁, I₁⟩ := g
  show PySem.wpAt _ _ _ (execs [] _) _ _ _
  refine wpAt_of_wpAny (wpAny_execs_nil ?_)
  have X₁ : (Kc P).In s₁.heap := Inv.effK X₀ E₁
  have a₁ : AccAt s₁.heap x da vs k i t := ⟨E₁.keep _ _ a₀.obj (I₀.notTab a₀.obj (.inl (by nofun))) (fun z => z), E₁.ns I₀ a₀.ns⟩
  have hN₁ := E₁.ns I₀ hN
  obtain ⟨oc, cvs, tf, c1, c2, c3⟩ := I₁.fil 116 (mem_fil (.inr (.inl rfl)))
  obtain ⟨ob, oc', cvs', t'', b1, b2, b3, b4, b5, b6, b7⟩ := I₁.fns (117, fdPO, 116) (by walk_at "mem")
  refine ks_wpAt_execs_cons (ks_wpAt_Return_some ?_)
  refine super_call (nm := "pop") (id := "list.pop") (T := "builtin_function_or_method") I₁ X₁ a₁.obj rfl rfl rfl rfl rfl rfl rfl b1 b3 rfl rfl c1 c2 c3 rfl hN₁ rfl (by decide +kernel) kc_spop type_lpop slot_md_get entry_md_get (args_md_get _ _ _) (.inl rfl) plain_lpop
    (fun X a q => md_get rfl X a q) (fun X a q => bound_lpop X a q) (fun h' tk' k2 => ?_) ⟨_, rfl⟩
  refine run_lpop (k2 _ _ a₁.obj) hv hz fun h₅ vs' n' e1 e5 sb => ?_
  have E02 : Eff s { s₁ with heap := h', toks := tk' } := (Eff.of_keeps keep).trans (E₁.trans (Eff.of_keeps k2))
  refine h _ _ _ (E02.toM.trans ⟨rfl, fun _ _ e => e, id, fun b o e _ hb => (sb.2 b hb).trans e⟩) ((I₁.keeps k2).low (fun b o hb e => (sb.2 b fun z => by rw [z] at hb; exact absurd hx (Nat.not_le.mpr hb)).trans e) fun b o hc e => (sb.2 b fun z => seq_notCod (a := x) (k2 _ _ a₁.obj) rfl o (by rw [← z]; exact e) hc).trans e) e1 e5
end
section
-- H10
variable {w : World}
open PySem.Calls Builtin Builtin.ObjectAttr
theorem selfVars {X : Addr → Prop} {env : Env} {h : Heap} {x : Addr} {d : D} {m : Str → Option Value} (hk : env.scope.kind = .function) (hg : env.globals = mainGlobals) (hb : env.builtins = builtinsNs) (hN : h.Ns env.locals m) (hm : m "self" = some (.ref x)) (hi : m iniS = none)
    (hl : env.kindOf "self" = some .local) (B : XB X h) (hd : Rp X h d (.ref x)) : Vars X env ([("self", d)] : VL) h := by
  refine ⟨B, hk, hg, hb, ⟨_, hN, hi, fun y d' e kk => ?_⟩, fun y d' e kk => ?_⟩
  · have hm' : (y, d') ∈ ([("self", d)] : VL) := mem_of_lookup e
    simp only [List.mem_cons, List.not_mem_nil, or_false, Prod.mk.injEq] at hm'
    obtain ⟨rfl, rfl⟩ := hm'
    exact ⟨_, hm, hd⟩
  · have hm' : (y, d') ∈ ([("self", d)] : VL) := mem_of_lookup e
    simp only [List.mem_cons, List.not_mem_nil, or_false, Prod.mk.injEq] at hm'
    obtain ⟨rfl, rfl⟩ := hm'
    exfalso
    rcases kk with kk | kk <;> rw [hl] at kk <;> cases kk
theorem pop_empty {n : Nat} {i : Int} : CallS w (n + 2) (.ref 117) [.acc i []] (.tup [.str "", .str ""]) := fun A s X vs R I B hd => by
  obtain ⟨v, _, rfl, p, q⟩ := hd.cons_inv
  have := q.nil_inv; subst this
  have p' := p
  unfold Rp at p
  obtain ⟨x, da, vs, k, t, rfl, hx, hxd, ha, hns, hr⟩ := p
  refine call_sup (n := n + 1) (p := (117, fdPO, 116)) (by walk_at "mem") (body := dB (clAt 3)) (xs := ["self"]) I R rfl (BindsTo.of_eq rfl) (by decide +kernel) rfl (by decide +kernel) rfl rfl rfl fun h₀ tk hN keep => wpAt_of_wpAny ?_
  have I₀ : Inv h₀ := I.keeps keep
  have R' : Rm (n + 1) (A.deeper (callEnv fdPO s.heap.objs.size 117)) := R.deeper
  have V : Vars X (callEnv fdPO s.heap.objs.size 117) ([("self", .acc i [])] : VL) h₀ := selfVars rfl rfl rfl hN rfl rfl rfl (B.keeps fun a _ o e => keep a o e) (p'.keep fun b o e _ _ => keep b o e)
  refine wpAny_execs_cons (wpAny_If (wpAny_mono ((?t : TstS w (n + 1) (dS (clAt 3)) ([("self", .acc i [])] : VL) _ true) _ { s with heap := h₀, toks := tk } _ _ rfl R' I₀ V) (fun b' s₁ g => ?_) fun _ _ z => z))
  case t =>
    refine TstS.cmp (a := .int ([] : List D).length) (b := .int 0) (EvS.accMeth (by walk_at "name") (fun _ => kc_pc) (by simp) (by decide +kernel) part_count_S (fun _ I => fnAt_of (p := (154, fdPC, 153)) (by walk_at "mem") I)) (by walk_at "ev") ?_
    exact CmpS.eqI (w := w) (n := n + 1) (a := 0) (b := 0)
  obtain ⟨rfl, E₁, I₁⟩ := g
  have V₁ := V.eff E₁ I₀
  refine wpAny_execs_cons (wpAny_Return_some (wpAny_mono ((EvS.tupD (w := w) (n := n + 1) (sc := dS (clAt 3)) (r := [("self", .acc i [])]) (ds := [.str "", .str ""]) (by walk_at "evl") (show 2 ≤ sizeLine by decide)) _ s₁ _ X rfl R' I₁ V₁) (fun v s₂ q => ?_) fun _ _ z => z))
  exact q.trans ((Eff.of_keeps keep).trans E₁)
end
section
-- H11
variable {w : World}
open PySem.Calls Builtin Builtin.ObjectAttr
section
variable {prog : Program} {A : Around} {E : Value → Shared → Prop} {s : Shared}
theorem accNext_item {it l da : Addr} {i k : Nat} {items : Array Value} {x : Value} {Q : Option Value → Shared → Prop} (hit : s.heap.IsListIter it l i) (hl : s.heap.get? l = some (AObj da items k)) (hx : items[i]? = some x)
    (hQ : ∀ h', h'.IsListIter it l (i + 1) → Heap.SameBut it s.heap h' → Q (some x) { s with heap := h' }) : wpAny (model prog w) A (pyNext (.ref it)) Q E s := by
  obtain ⟨o, ho, hc, hd⟩ := id hit
  unfold pyNext
  refine wpAny_bind (wpAny_attempt (wpAny_callSpecial?_slot (name := Str.ofString "__next__") hit.typeIs slot_listiter_next
    (wpAny_call_entry slot_listiter_next hit.typeIs entry_listiter_next ?_ (args_listiter_next _))))
  show wpAny _ _ (field (.ref it) 0 >>= _) _ _ s
  refine wpAny_bind (wpAny_field ho hd (x := .ref l) rfl ?_)
  show wpAny _ _ (if (Value.ref l == Value.none) = true then _ else _) _ _ s
  rw [if_neg (show ¬ ((Value.ref l == Value.none) = true) from Bool.false_ne_true)]
  show wpAny _ _ (field (.ref it) 1 >>= _) _ _ s
  refine wpAny_bind (wpAny_field ho hd (x := .int i 0) rfl ?_)
  show wpAny _ _ (seqItems? (.ref l) >>= _) _ _ s
  refine wpAny_bind (wpAny_seqItems hl rfl ?_)
  simp only [Int.toNat_natCast, hx]
  refine wpAny_bind (wpAny_setField ho hd (by simp) (wpAny_pure ⟨x, rfl, wpAny_pure (hQ _ ?_ (Heap.SameBut.update ..))⟩))
  exact ⟨_, Heap.get?_update_self _ ho (Obj.isFreed_of_fields (Obj.data_mapFields hd _)), (Obj.cls_mapFields ..).trans hc, by
    rw [Obj.data_mapFields hd]; simp [rawInt]⟩
end
section
variable {prog : Program} {A : Around} {E : Value → Shared → Prop} {s : Shared}
theorem accNext_end {it l da : Addr} {i k : Nat} {items : Array Value} {Q : Option Value → Shared → Prop} (hh : A.handled = none) (hit : s.heap.IsListIter it l i) (hl : s.heap.get? l = some (AObj da items k)) (hx : items[i]? = none)
    (hQ : ∀ h', Heap.ExtBut it s.heap h' → Q none { s with heap := h' }) : wpAny (model prog w) A (pyNext (.ref it)) Q E s := by
  obtain ⟨o, ho, hc, hd⟩ := id hit
  unfold pyNext
  refine wpAny_bind (wpAny_attempt (wpAny_callSpecial?_slot (name := Str.ofString "__next__") hit.typeIs slot_listiter_next
    (wpAny_call_entry slot_listiter_next hit.typeIs entry_listiter_next ?_ (args_listiter_next _))))
  show wpAny _ _ (field (.ref it) 0 >>= _) _ _ s
  refine wpAny_bind (wpAny_field ho hd (x := .ref l) rfl ?_)
  show wpAny _ _ (if (Value.ref l == Value.none) = true then _ else _) _ _ s
  rw [if_neg (show ¬ ((Value.ref l == Value.none) = true) from Bool.false_ne_true)]
  show wpAny _ _ (field (.ref it) 1 >>= _) _ _ s
  refine wpAny_bind (wpAny_field ho hd (x := .int i 0) rfl ?_)
  show wpAny _ _ (seqItems? (.ref l) >>= _) _ _ s
  refine wpAny_bind (wpAny_seqItems hl rfl ?_)
  simp only [Int.toNat_natCast, hx]
  refine wpAny_bind (wpAny_rule (wpAny_bind (wpAny_setField ho hd (by simp) ?_)))
  show wpAny _ _ (newExc (.type "StopIteration") [] >>= _) _ _ _
  refine wpAny_bind ?_
  simp only [newExc, newTuple]
  refine wpAny_bind (wpAny_newObj_type ?_ (by size_fits))
  refine wpAny_bind (m := firstArgMember _ _) (wpAny_of_eq (a := Value.none) (by first | rfl | (simp only [firstArgMember]; rfl)) ?_)
  refine wpAny_newObj_type ?_ (by size_fits)
  simp only [raiseNew]
  refine wpAny_bind (wpAny_handled ?_)
  rw [show A.in1.handled = none from hh]
  refine wpAny_bind (wpAny_pure (wpAny_throw ?_))
  refine wpAny_bind (wpAny_isInstance (T := "StopIteration") (b := true) ⟨_, Heap.get?_push_size _ rfl, rfl⟩ isSubtype_stop ?_)
  exact wpAny_pure (hQ _ (((Heap.SameBut.update ..).extBut.push _).push _))
end
end
section
-- H12
variable {w : World}
open PySem.Calls Builtin Builtin.ObjectAttr
theorem plain_liter : plainId "list.__iter__" = true := by decide +kernel
theorem kind_liter : builtinKind "list.__iter__" = some .slot := by decide +kernel
theorem split_liter : splitId "list.__iter__" = some ("list", "__iter__") := by decide +kernel
section
variable {prog : Program} {A : Around} {E : Value → Shared → Prop} {P : Params} {h : Heap} {g : Array GenState} {d : Drawn} {t : Nat} {os : OsState} {x da : Addr} {vs : Array Value} {n : Nat}
theorem accIter {Q : Value → Shared → Prop} (X : (Kc P).In h) (a : h.get? x = some (AObj da vs n))
    (hQ : Q (.ref h.objs.size) ⟨h.push { cls := .type "list_iterator", data := .fields #[.ref x, .int 0 0] }, g, d, t, os⟩) : wpAny (model prog w) A (pyIter (.ref x)) Q E ⟨h, g, d, t, os⟩ := by
  have t1 : Looks (model prog w) h (typeOf (.ref x)) (.ref 157) := (Looks.ld a).andThen .now
  have l1 : Looks (model prog w) h (typeLookup (.ref 157) "__iter__") (some (.builtin "list.__iter__")) := looks_findIn X kc_iter
  have e1 : Looks (model prog w) h (isInstance (.ref x) (.type "list")) true := t1.andThen (looks_mroIn X kc_list)
  have b1 : Looks (model prog w) h (bindSpecial (.builtin "list.__iter__") (.ref x)) (.builtin "list.__iter__", [.ref x]) := Looks.of_pure (slot_list_iter.bind _)
  unfold pyIter specialOf
  repeat (first | with_reducible refine wpAny_call ?_ | lk)
  have body : codeAny (model prog w) A (.call (.builtin "list.__iter__") ⟨[.ref x], []⟩) (fun r s' => r = .ok (.ret (.ref h.objs.size)) ∧ s' = ⟨h.push { cls := .type "list_iterator", data := .fields #[.ref x, .int 0 0] }, g, d, t, os⟩) ⟨h, g, d, t, os⟩ := by
    refine codeAny_call_builtin plain_liter entry_list_iter ?_
    refine @check_slot (model prog w) _ _ ⟨h, g, d, t, os⟩ "list.__iter__" "list" "__iter__" (.ref x) [] [] _ kind_liter split_liter e1 (args_list_iter (.ref x)) ?_
    show wpAny _ _ (do ret (← newFields "list_iterator" [.ref x, rawInt 0])) _ _ _
    exact wpAny_bind (wpAny_newObj_type (wpAny_pure ⟨rfl, rfl⟩))
  have tail : wpAny (model prog w) A (call (.builtin "list.__iter__") [.ref x]) (fun v s' => v = .ref h.objs.size ∧ s' = ⟨h.push { cls := .type "list_iterator", data := .fields #[.ref x, .int 0 0] }, g, d, t, os⟩) (fun _ _ => False) ⟨h, g, d, t, os⟩ :=
    wpAny_call (codeAny_mono body fun r s' z => by obtain ⟨rfl, z⟩ := z; exact ⟨rfl, z⟩)
  have hne : (Value.builtin "list.__iter__" == Value.none) = false := rfl
  split
  all_goals
    first
    | refine wpAny_bind (b1.at (wpAny_pure ?_))
    | refine wpAny_tryCatch (wpAny_bind (b1.at (wpAny_pure ?_)))
    dsimp only
    rw [hne, if_neg (by decide)]
    refine wpAny_bind (wpAny_mono tail (fun v s' z => ?_) fun _ _ z => z.elim)
    obtain ⟨rfl, rfl⟩ := z
    refine wpAny_pure ?_
    dsimp only
    have hT : (⟨h.push { cls := .type "list_iterator", data := .fields #[.ref x, .int 0 0] }, g, d, t, os⟩ : Shared).TypeIs (.ref h.objs.size) "list_iterator" := ⟨_, Heap.get?_push_size _ rfl, rfl⟩
    refine wpAny_bind (wpAny_bind (wpAny_typeOf hT (wpAny_of_eq slot_listiter_next.lookup ?_)))
    exact wpAny_pure hQ
end
end
section
-- H13
variable {w : World}
open PySem.Calls Builtin Builtin.ObjectAttr
structure RowOf (h : Heap) (x da : Addr) (ts : List (Addr × Value × Value)) : Prop where
  obj : ∃ vs k, h.get? x = some (AObj da vs k) ∧ vs.toList = ts.map fun p => Value.ref p.1
  tup : ∀ p ∈ ts, ∃ m, h.get? p.1 = some (TObj #[p.2.1, p.2.2] m)
noncomputable def RowSt (I x da : Addr) (ts : List (Addr × Value × Value)) (i : Nat) (h : Heap) : Prop := h.IsListIter I x i ∧ RowOf h x da ts
noncomputable def RowPt (ts : List (Addr × Value × Value)) (i : Nat) (vals : Array Value) : Prop := ∃ p, ts[i]? = some p ∧ vals = #[p.2.1, p.2.2]
theorem RowOf.keep {h h' : Heap} {x da : Addr} {ts : List (Addr × Value × Value)} (r : RowOf h x da ts) (k : ∀ b ∈ x :: ts.map (·.1), ∀ o, h.get? b = some o → h'.get? b = some o) : RowOf h' x da ts := by
  obtain ⟨⟨vs, n, e, q⟩, t⟩ := r
  refine ⟨⟨vs, n, k x (.head _) _ e, q⟩, fun p hp => ?_⟩
  obtain ⟨m, e⟩ := t p hp
  exact ⟨m, k p.1 (.tail _ (List.mem_map.mpr ⟨p, hp, rfl⟩)) _ e⟩
theorem rowWalks {prog : Program} {A : Around} {I x da : Addr} {ts : List (Addr × Value × Value)} (hh : A.handled = none) (hI : I ∉ x :: ts.map (·.1)) :
    WalksU prog w A I (I :: x :: ts.map (·.1)) [I] ts.length (RowPt ts) (RowSt I x da ts) (fun i T h => T ≠ I ∧ RowSt I x da ts (i + 1) h) where
  sub := fun b hb => by simp only [List.mem_cons, List.not_mem_nil, or_false] at hb; subst hb; exact .head _
  frame := fun i h h' st k => by
    obtain ⟨⟨o, e, r⟩, q⟩ := st
    exact ⟨⟨o, k I (.head _) o e, r⟩, q.keep fun b hb o e => k b (.tail _ hb) o e⟩
  item := fun i s Q E hi st hQ => by
    obtain ⟨it, r⟩ := st
    obtain ⟨⟨vs, n, e, q⟩, t⟩ := id r
    obtain ⟨p, hp⟩ : ∃ p, ts[i]? = some p := ⟨_, List.getElem?_eq_getElem hi⟩
    have hx : vs[i]? = some (.ref p.1) := by rw [← Array.getElem?_toList, q, List.getElem?_map, hp]; rfl
    obtain ⟨m, et⟩ := t p (List.mem_of_getElem? hp)
    have hpI : p.1 ≠ I := fun z => hI (.tail _ (List.mem_map.mpr ⟨p, List.mem_of_getElem? hp, z⟩))
    refine accNext_item it e hx fun h' it' sb => hQ p.1 #[p.2.1, p.2.2] h' s.toks ⟨p, hp, rfl⟩ ?_ ?_ ?_
    · exact ⟨_, (sb.2 p.1 hpI).trans et, rfl, _, rfl⟩
    · exact ⟨hpI, it', r.keep fun b hb o e => (sb.2 b fun z => hI (z ▸ hb)).trans e⟩
    · intro b o hb e
      exact (sb.2 b fun z => hb (by simp [z])).trans e
  go := fun elts k pos i T s Q E m hQ => by
    obtain ⟨hT, it, r⟩ := m
    obtain ⟨o, e, cl, dt⟩ := id it
    refine wpAny_bind (wpAny_load e ?_)
    rw [cl, dt]
    exact wpAny_pure (hQ s.heap ⟨it, r⟩ fun _ _ _ e => e)
  apart := fun i T h m hw => by simp only [List.mem_cons, List.not_mem_nil, or_false] at hw; exact m.1 hw
  done := fun s Q E st hQ => by
    obtain ⟨it, ⟨vs, n, e, q⟩, t⟩ := st
    have hx : vs[ts.length]? = none := by rw [← Array.getElem?_toList, q]; simp
    exact accNext_end hh it e hx fun h' ex => hQ h' s.toks fun b o hb e => ex b o (fun z => hb (by simp [z])) e
  self := fun i s Q E st hq => wpAny_pyIter_listiter st.1 hq
end
section
-- H14
variable {w : World}
open PySem.Calls Builtin Builtin.ObjectAttr
theorem WalksS.shift {prog : Program} {A : Around} {I : Addr} {fp wr : List Addr} {G : Array GenState → Array GenState → Prop} {n : Nat} {P : Nat → Value → Prop} {St : Nat → Shared → Prop} (W : WalksS prog w A I fp wr G n P St) :
    WalksS prog w A I fp wr G (n + 1) (fun i v => ∃ j, i = j + 1 ∧ P j v) (fun i s => ∃ j, i = j + 1 ∧ St j s) where
  sub := W.sub
  grefl := W.grefl
  gtrans := W.gtrans
  frame := fun i s h' tk st ht k => by obtain ⟨j, e, st⟩ := st; exact ⟨j, e, W.frame j s h' tk st ht k⟩
  item := fun i s Q E hi st hQ => by
    obtain ⟨j, e, st⟩ := st
    exact W.item j s Q E (by omega) st fun v s' p st' m => hQ v s' ⟨j, e, p⟩ ⟨j + 1, by omega, st'⟩ m
  done := fun s Q E st hQ => by
    obtain ⟨j, e, st⟩ := st
    have : j = n := by omega
    subst this
    exact W.done s Q E st hQ
  self := fun i s Q E st hq => by obtain ⟨j, e, st⟩ := st; exact W.self j s Q E st hq
theorem args_sum2 (a b : Value) : argsOk "sum" ⟨[a, b], []⟩ := by unfold argsOk; kernel_rfl
noncomputable def shV (start : Int) (val : Nat → Int) : Nat → Int | 0 => start | j + 1 => val j
theorem shV_one (i : Int) (val : Nat → Int) : preSum (shV i val) 1 = i := by simp [preSum, shV]
theorem call_sum_start {prog : Program} {A : Around} {E : Value → Shared → Prop} {s : Shared} {x : Value} {i0 : Int} {u : Tok} {Q : Value → Shared → Prop} (hfit : i0 = 0 ∨ i0 = 1 ∨ i0 = 2 ∨ i0 = 3)
    (h : wpAny (model prog w) A.in1 (pyIter x) (fun it s₂ => ∃ I fp wr G n P St val, it = .ref I ∧ WalksS prog w A.in1 I fp wr G n P St ∧ St 0 s₂ ∧ (∀ b ∈ fp, b < s₂.heap.objs.size) ∧
      (∀ i v, P i v → ∃ t, v = .int (val i) t) ∧
      ∀ s' t', Moved wr G s₂ s' → Q (.int (preSum (shV i0 val) (n + 1)) t') s') E s) :
    wpAny (model prog w) A (call (.builtin "sum") [x, .int i0 u]) Q E s := by
  refine call_function_tree F.kind_sum F.plain_sum F.entry_sum (args_sum2 _ _) ?_
  unfold Builtin.«sum»
  simp only [List.length_cons, List.length_nil]
  rw [if_neg (by decide)]
  refine wpAny_bind (wpAny_of_eq (show Builtin.Builtins.bindParams "sum" ["start"] 0 ⟨[.int i0 u], []⟩ = pure [some (.int i0 u)] from rfl) ?_)
  refine wpAny_bind (wpAny_mono h (fun it s₂ h₂ => ?_) fun _ _ e => e)
  obtain ⟨I, fp, wr, G, n, P, St, val, rfl, W, hst, hfp, hval, hQ⟩ := h₂
  have W' := WalksS.shift W
  dsimp only
  rw [if_pos (by rcases hfit with rfl | rfl | rfl | rfl <;> rfl)]
  refine wpAny_bind (wpAny_rule (wpAny_bind (wpAny_mkInt (wpAny_bind (wpAny_pure ?_)))))
  simp only [List.forIn_cons, List.forIn_nil]
  refine wpAny_bind (wpAny_bind (wpAny_bind (wpAny_isInstance (T := "int") (b := false) (typeIs_int _ _ _) PySem.sub_int_str ?_)))
  simp only [Bool.false_eq_true, if_false]
  refine wpAny_pure (wpAny_bind (wpAny_bind (wpAny_isInstance (T := "int") (b := false) (typeIs_int _ _ _) PySem.sub_int_bytes ?_)))
  simp only [Bool.false_eq_true, if_false]
  refine wpAny_pure (wpAny_bind (wpAny_bind (wpAny_isInstance (T := "int") (b := false) (typeIs_int _ _ _) PySem.sub_int_bytearray ?_)))
  simp only [Bool.false_eq_true, if_false]
  refine wpAny_pure (wpAny_pure ?_)
  refine wpAny_bind (wpAny_newObj_type ?_)
  have hSf : s₂.heap.objs.size ∉ fp := fun hm => Nat.lt_irrefl _ (hfp _ hm)
  refine wpAny_pure ⟨plainId_quiet F.plain_sum_loop _, codeAny_sum_loopAnyS W' (shV _ val) (fun i v p => by obtain ⟨j, rfl, p⟩ := p; exact hval j v p) s₂.heap.objs.size hSf n 1 _ s₂.toks 0 0 (.inl rfl) (by omega) (by omega)
    (W'.frame 1 s₂ _ _ ⟨0, rfl, hst⟩ (by first | exact Nat.le_refl _ | exact Nat.le_succ _ | omega) fun b _ o e => Heap.get?_push_of_some _ e) (by rw [shV_one]; exact Heap.get?_push_size _ rfl) fun s' t' hm => ?_⟩
  exact hQ s' t' (hm.drop_new (by first | exact Nat.le_refl _ | exact Nat.le_succ _ | omega))
end
section
-- H15
variable {w : World}
open PySem.Calls Builtin Builtin.ObjectAttr
theorem genCode {p : Addr × Addr × Pos × Str} (hp : p ∈ codTab) {A : Around} {s : Shared} {env : Env} {scope : Scope} {Q : Value → Shared → Prop} (I : Inv s.heap) (hco : env.code = .ref p.1)
    (h : ∀ c h' tk, Eff s { s with heap := h', toks := tk } → Inv h' → Q c { s with heap := h', toks := tk }) : wpAny (model PRG w) A (genexprCode env p.2.2.1 p.2.2.2 scope) Q (fun _ _ => False) s := by
  have C := I.cod p hp
  obtain ⟨ps, t1, t2, t3⟩ := C.tb
  have hT := (codTab_low p hp).2.2
  obtain ⟨o, vs, file, tf, flags, tg, inF, text, tt, e0, e1, e2, e3, e4, e5, e6, e7, e8, e9⟩ := C.hd
  have hok : s.heap.IsCode p.1 p.2.1 ps := ⟨o, vs, file, tf, flags, tg, inF, text, tt, tabObj ps, e0, e2, e4, e5, e6, e7, e8, t1, rfl, t2, e9⟩
  have hta : s.heap.TableAt p.1 p.2.1 ps := ⟨⟨o, vs, e0, e1, e2, e3⟩, t1⟩
  rcases t3 with t3 | ⟨c', t3, t4⟩
  · refine wpAny_genexprCodeX hco hok hta t3 fun c' h' tk ex hge hlt hic hrec hta' _ => ?_
    have hnew : CodOk h' p := by
      refine ⟨?_, ps ++ #[rawInt p.2.2.1.line, rawInt p.2.2.1.col, .ref c'], hta'.2, ?_, .inr ⟨c', ?_, hrec⟩⟩
      · obtain ⟨o', vs', file, tf, flags, tg, inF, text, tt, e, r'⟩ := C.hd
        exact ⟨o', vs', file, tf, flags, tg, inF, text, tt, ex _ _ (codTab_apart p hp p hp).2 e, r'⟩
      · rw [show (ps ++ #[rawInt p.2.2.1.line, rawInt p.2.2.1.col, Value.ref c']).toList = ps.toList ++ [rawInt p.2.2.1.line, rawInt p.2.2.1.col, .ref c'] by simp]
        exact TriplesOk_snoc _ _ _ _ t2
      · rw [show (ps ++ #[rawInt p.2.2.1.line, rawInt p.2.2.1.col, Value.ref c']).toList = ps.toList ++ [rawInt p.2.2.1.line, rawInt p.2.2.1.col, .ref c'] by simp]
        exact codeAmong_snoc _ t2 t3
    have I1 : Inv h' := I.grown hp (fun b o hb e => ex b o hb e) hnew
    exact h _ _ _ ⟨rfl, fun _ _ e => e, id, fun a o' e t _ => ex a o' (fun z => t (z ▸ hT)) e⟩ I1
  · have := h (.ref c') s.heap s.toks (EffM.refl _ s) I
    exact wpAny_genexprCode_hit hco hok t3 this
end
section
-- H16
variable {w : World}
open PySem.Calls Builtin Builtin.ObjectAttr
noncomputable abbrev genOf : Stmt → Expr | .Return (some (.Call _ (.GeneratorExp e cs sc p :: _) _ _)) _ => .GeneratorExp e cs sc p | _ => .Constant .none 0 default
noncomputable abbrev gSc : Stmt → Scope | .Return (some (.Call _ (.GeneratorExp _ _ sc _ :: _) _ _)) _ => sc | _ => default
noncomputable abbrev gElt : Stmt → Expr | .Return (some (.Call _ (.GeneratorExp e _ _ _ :: _) _ _)) _ => e | _ => .Constant .none 0 default
noncomputable abbrev lenR : Stmt := (dB (clAt 4)).getD 0 (.Pass default)
noncomputable abbrev strR : Stmt := (dB (clAt 5)).getD 0 (.Pass default)
theorem len_elt {A : Around} {E : Value → Shared → Prop} {cenv : Env} {s : Shared} {m mg mb : Str → Option Value} {a b : Str} {ta tb : Tok} (hs : cenv.scope = gSc lenR) (hg : cenv.globals = mainGlobals) (hb : cenv.builtins = builtinsNs) (hN : s.heap.Ns cenv.locals m) (ha : m "fws" = some (.str a ta)) (hp : m "part" = some (.str b tb))
    (hG : s.heap.Ns mainGlobals mg) (hg0 : mg "len" = none) (hB : s.heap.Ns builtinsNs mb) (hb0 : mb "len" = some (.builtin "len")) (la : a.length ≤ 1000) (lb : b.length ≤ 1000) :
    wpAny (model PRG w) A (eval (gElt lenR) cenv) (fun y s₃ => (∃ t, y = .int (a.length + b.length : Nat) t) ∧ Keeps s s₃) E s := by
  have hk : cenv.scope.kind = .function := by rw [hs]; rfl
  have k1 : cenv.kindOf "len" = some .globalImplicit := by unfold Env.kindOf; rw [hs]; rfl
  have k2 : cenv.kindOf "fws" = some .local := by unfold Env.kindOf; rw [hs]; rfl
  have k3 : cenv.kindOf "part" = some .local := by unfold Env.kindOf; rw [hs]; rfl
  have one : ∀ (s' : Shared) (x : Str) (p1 p2 pos : Pos) (v : Str) (tv : Tok) (Q : Value → Shared → Prop), s'.heap = s.heap → m x = some (.str v tv) → cenv.kindOf x = some .local → v.length ≤ 1000 → (x == ("__debug__" : Str)) = false → (∀ t tk, Q (.int v.length t) { s' with toks := tk }) →
      wpAny (model PRG w) A (eval (.Call (.Name "len" p1) [.Name x p2] [] pos) cenv) Q E s' := fun s' x p1 p2 pos v tv Q he hm hkx hl hd hq => by
    refine wpAny_Call_NameR (wpAny_Name (ks_loadName_global hk k1 (loadGlobal_builtin (mg := mg) (mb := mb) (by rw [hg, he]; exact hG) hg0 (by rw [hb, he]; exact hB) hb0 ?_)) (by rfl))
    refine callWith_builtin1 (wpAny_Name (wpAny_loadName_local hk hkx (by rw [he]; exact hN) hm ?_) hd)
    exact len_str (by omega) (hq _ _)
  refine wpAny_BinOp (one s "fws" _ _ _ a ta _ rfl ha k2 la (by rfl) fun t1 tk1 => ?_)
  refine one { s with toks := tk1 } "part" _ _ _ b tb _ rfl hp k3 lb (by rfl) fun t2 tk2 => ?_
  refine add_int ?_
  refine ⟨⟨_, by push_cast; rfl⟩, s.heap, _, rfl, fun _ _ e => e⟩
end
section
-- H17
variable {w : World}
open PySem.Calls Builtin Builtin.ObjectAttr
theorem str_elt {A : Around} {E : Value → Shared → Prop} {cenv : Env} {s : Shared} {m mg : Str → Option Value} {a b : Str} {ta tb te : Tok} (hs : cenv.scope = gSc strR) (hg : cenv.globals = mainGlobals) (hN : s.heap.Ns cenv.locals m) (ha : m "fws" = some (.str a ta)) (hp : m "part" = some (.str b tb))
    (hG : s.heap.Ns mainGlobals mg) (hg0 : mg "EMPTYSTRING" = some (.str Str.empty te)) (la : a.length ≤ 1000) (lb : b.length ≤ 1000) :
    wpAny (model PRG w) A (eval (gElt strR) cenv) (fun y s₃ => (∃ t, y = .str (Txt.join Str.empty [a, b]) t) ∧ Keeps s s₃) E s := by
  have hk : cenv.scope.kind = .function := by rw [hs]; rfl
  have k1 : cenv.kindOf "EMPTYSTRING" = some .globalImplicit := by unfold Env.kindOf; rw [hs]; rfl
  have k2 : cenv.kindOf "fws" = some .local := by unfold Env.kindOf; rw [hs]; rfl
  have k3 : cenv.kindOf "part" = some .local := by unfold Env.kindOf; rw [hs]; rfl
  refine wpAny_Call_method (T := "str") (id := "str.join") (by rfl) (by rfl) (by rfl) F.plainAttrs_str F.slot_str_join F.type_str_join ?_
  refine wpAny_Name (ks_loadName_global hk k1 (loadGlobal_global (by rw [hg]; exact hG) hg0 ?_)) (by rfl)
  refine ⟨typeIs_str _ _ _, (fun a e => nomatch e), Calls.callWith_builtin ?pl ?_⟩
  case pl => rfl
  refine Calls.evalArgs_plain (Calls.spliced_cons ?_)
  refine wpAny_Tuple_spliced (x1 := 0) (Calls.spliced_cons (wpAny_Name (wpAny_loadName_local hk k2 hN ha ?_) (by rfl)))
  refine Calls.spliced_cons (wpAny_Name (wpAny_loadName_local hk k3 hN hp ?_) (by rfl))
  refine Calls.spliced_nil ⟨by simp [sizeLine], Calls.spliced_nil ?_⟩
  exact join_tuple ⟨_, Heap.get?_push_size _ rfl, rfl, 0, rfl⟩ (.cons a ta (.cons b tb .nil)) (by simp [Str.length, Str.empty] at la lb ⊢; omega) fun t' k => ⟨⟨_, rfl⟩, _, _, rfl, fun _ _ e => Heap.get?_push_of_some _ e⟩
end
section
-- H18
variable {w : World}
open PySem.Calls Builtin Builtin.ObjectAttr
theorem passing_all : ∀ n : Nat, passing (fun _ => true) n 0 = List.range n := fun n => by
  unfold passing; rw [List.drop_zero, List.filter_eq_self]; intros; rfl
theorem rowGen {p : Addr × Addr × Pos × Str} (hp : p ∈ codTab) {A : Around} {s : Shared} {env : Env} {elt : Expr} {scope : Scope} {pa pb pt ps : Pos} {kt : Nat} {x da : Addr} {vs : Array Value} {k : Nat} {ts : List (Addr × Value × Value)} {m : Str → Option Value} {F : Nat → Value → Prop} {Q : Value → Shared → Prop}
    (I : Inv s.heap) (hh : A.handled = none) (hroom : A.depth < recursionLimit) (hx : s.heap.get? x = some (AObj da vs k)) (hvs : vs.toList = ts.map fun p => Value.ref p.1) (htup : ∀ p ∈ ts, ∃ m, s.heap.get? p.1 = some (TObj #[p.2.1, p.2.2] m))
    (hco : env.code = .ref p.1) (hkf : env.scope.kind = .function) (hg : env.globals = mainGlobals) (hb : env.builtins = builtinsNs) (hq : env.qual ++ "<genexpr>" = p.2.2.2) (hks : env.kindOf "self" = some .local) (hN : s.heap.Ns env.locals m) (hm : m "self" = some (.ref x))
    (sco : scope.isCoroutine = false) (scl : closureFor scope env = pure []) (scell : ∀ y ∈ scope.names, y.2 ≠ .cell) (s0 : scope.names.lookup (".0" : Str) = some NameKind.local) (sa : scope.names.lookup ("fws" : Str) = some .local) (sb : scope.names.lookup ("part" : Str) = some .local) (sk : scope.kind = .function)
    (helt : ∀ (A' : Around) E' (cenv : Env) (s' : Shared) m i p, A'.handled = none → ts[i]? = some p → cenv.scope = scope → cenv.globals = mainGlobals → cenv.builtins = builtinsNs → s'.heap.Ns cenv.locals m → m "fws" = some p.2.1 → m "part" = some p.2.2 →
      (∀ mg, s.heap.Ns mainGlobals mg → s'.heap.Ns mainGlobals mg) → (∀ mb, s.heap.Ns builtinsNs mb → s'.heap.Ns builtinsNs mb) → wpAny (model PRG w) A' (eval elt cenv) (fun y s₃ => F i y ∧ Keeps s' s₃) E' s')
    (h : ∀ a s' fp wr G St, WalksS PRG w A.in4 a fp wr G ts.length F St → St 0 s' → (∀ i s, St i s → s.TypeIs (.ref a) "generator") → a ∈ fp → (∀ b ∈ fp, b < s'.heap.objs.size) → Eff s s' → Inv s'.heap →
      (∀ s'', Moved wr G s' s'' → Eff s s'' ∧ Inv s''.heap) → Q (.ref a) s')
    (hs : ∀ x, genFold (.Name "self" ps) env x = pure x := by intro _; rfl) :
    wpAny (model PRG w) A (eval (.GeneratorExp elt [⟨.Tuple [.Name "fws" pa, .Name "part" pb] kt pt, .Name "self" ps, [], 0⟩] scope p.2.2.1) env) Q (fun _ _ => False) s := by
  obtain ⟨P, XK⟩ := I.kls
  obtain ⟨mg, hG, ⟨bm, bo, b1, b2, b3, b4, b5, b6, b7, b8, b9⟩, hG3⟩ := I.glo
  obtain ⟨mb, hB, hB2⟩ := I.bui
  refine wpAny_GeneratorExp_walksQT hh sco scl scell s0 sa sb (by decide) sk hroom (wpAny_Name (wpAny_loadName_local hkf hks hN hm ?_) (by rfl)) hs
  refine accIter (h := s.heap) (g := s.gens) (d := s.drawn) (t := s.toks) (os := s.os) XK hx ?_
  let it : Obj := { cls := .type "list_iterator", data := .fields #[.ref x, .int 0 0] }
  have k1 : ∀ b o, s.heap.get? b = some o → (s.heap.push it).get? b = some o := fun b o e => Heap.get?_push_of_some _ e
  have I1 : Inv (s.heap.push it) := I.keeps k1
  have hE1 : Eff s { s with heap := s.heap.push it } := Eff.push s it s.toks
  refine ⟨I1.nolimit, ?_⟩
  rw [hq]
  refine genCode hp (s := { s with heap := s.heap.push it }) I1 hco fun c h₄ tk₄ E₄ I₄ => ?_
  have nt : ∀ {a : Addr} {o : Obj}, s.heap.get? a = some o → (o.cls ≠ .none ∨ ∀ vs, o.data ≠ .fields vs) → h₄.get? a = some o := fun {a o} e hc => E₄.keep _ _ (k1 _ _ e) (I.notTab e hc) (fun z => z)
  have hIt : h₄.get? s.heap.objs.size = some it := E₄.keep _ _ (Heap.get?_push_size _ rfl) (I1.notTab (Heap.get?_push_size _ rfl) (.inl (by nofun))) (fun z => z)
  have hG4 : h₄.Ns mainGlobals mg := E₄.ns I1 (hG.keeps k1)
  have hB4 : h₄.Ns builtinsNs mb := E₄.ns I1 (hB.keeps k1)
  have big := I.big
  rw [hg, hb]
  refine wpAny_builtinsFor hG4 b1 b4 (nt b6 (.inl (by rw [b7]; nofun))) b7 b8 b9 ?_
  have hxne : x ≠ s.heap.objs.size := Nat.ne_of_lt (Heap.lt_size hx)
  have htne : ∀ q ∈ ts, q.1 < s.heap.objs.size := fun q hq => by obtain ⟨m, e⟩ := htup q hq; exact Heap.lt_size e
  have hlt4 : s.heap.objs.size < h₄.objs.size := Heap.lt_size hIt
  have hRow : RowOf h₄ x da ts := ⟨⟨vs, k, nt hx (.inl (by nofun)), hvs⟩, fun q hq => by obtain ⟨m, e⟩ := htup q hq; exact ⟨m, nt e (.inl (by nofun))⟩⟩
  have hni : s.heap.objs.size ∉ x :: ts.map (·.1) := fun hmem => by
    rcases List.mem_cons.mp hmem with e | hmem
    · exact hxne e.symm
    · obtain ⟨q, hq, e⟩ := List.mem_map.mp hmem
      have := htne q hq
      have e : q.1 = s.heap.objs.size := e
      exact absurd e (Nat.ne_of_lt this)
  refine ⟨s.heap.objs.size, s.heap.objs.size :: x :: ts.map (·.1), [s.heap.objs.size], ts.length, RowPt ts, RowSt s.heap.objs.size x da ts, (fun i T h => T ≠ s.heap.objs.size ∧ RowSt s.heap.objs.size x da ts (i + 1) h), (fun _ => true), F, rfl, fun A' hA => rowWalks hA hni, ?_, ⟨⟨_, hIt, rfl, rfl⟩, hRow⟩, ?_, I₄.nolimit, ?_, ?_, ?_⟩
  · rintro i vals ⟨q, _, e⟩; exact ⟨_, _, e⟩
  · intro b hb
    rcases List.mem_cons.mp hb with rfl | hb
    · exact hlt4
    · rcases List.mem_cons.mp hb with rfl | hb
      · exact Nat.lt_trans (Heap.lt_size hx) hlt4
      · obtain ⟨q, hq, e⟩ := List.mem_map.mp hb
        have := htne q hq
        have e : q.1 = b := e
        rw [← e]; exact Nat.lt_trans this hlt4
  · intro hm; simp only [List.mem_cons, List.not_mem_nil, or_false] at hm
    obtain ⟨_, hn, _⟩ := I.nolimit
    have := hn.lt
    rw [hm] at this; exact Nat.lt_irrefl _ this
  · intro href hhref
    refine ⟨fun A' E' i va vb s₂ m₂ hA hP hn ha hb2 hk => ?_, fun A' E' i va vb s₂ m₂ hA hP hpz hn ha hb2 hk => ?_⟩
    · simp only [List.forIn_nil]; exact wpAny_pure ⟨rfl, s₂.heap, s₂.toks, rfl, fun _ _ e => e⟩
    · obtain ⟨q, hq, e⟩ := hP
      have e1 : va = q.2.1 := by have := congrArg (·[0]?) e; simpa using this
      have e2 : vb = q.2.2 := by have := congrArg (·[1]?) e; simpa using this
      have up : ∀ a m', a < 196 → s.heap.Ns a m' → s₂.heap.Ns a m' := fun a m' ha hns => ((E₄.ns I1 (hns.keeps k1)).keeps hhref).at' fun o e => hk a (List.mem_range.mpr (Nat.lt_trans (Nat.lt_of_lt_of_le ha big) hlt4)) (fun hm => by simp only [List.mem_cons, List.not_mem_nil, or_false] at hm; exact absurd hm (Nat.ne_of_lt (Nat.lt_of_lt_of_le ha big))) o e
      refine helt A' E' _ s₂ m₂ i q hA hq rfl hg rfl hn (by rw [ha, e1]) (by rw [hb2, e2]) (fun mg h => up _ _ (by decide) h) fun mb h => up _ _ (by decide) h
  · intro a h₅ tk gs hgb hag hsz₅ hk₅ W hat
    have e : (passing (fun _ => true) ts.length 0).length = ts.length := by rw [passing_all, List.length_range]
    have W' : WalksS PRG w A.in4 a (a :: h₄.objs.size :: List.range h₄.objs.size) (h₄.objs.size :: [s.heap.objs.size]) (GenOnlyQ s.gens.size) ts.length F (GenAt PRG w A.in4 a s.gens.size h₄.objs.size (List.range h₄.objs.size) [s.heap.objs.size] (fun _ => true) ts.length F) := by
      rw [e] at W
      exact { W with item := fun i s Q E hi st hQ => W.item i s Q E hi st fun v s' pv st' m => hQ v s' (by
        obtain ⟨i', h1, h2⟩ := pv
        rw [passing_all, List.getElem?_range hi] at h1
        cases h1; exact h2) st' m }
    have E5 : Eff s { s with gens := s.gens.push gs, toks := tk, heap := h₅ } := by
      refine ⟨rfl, fun g gs' e => ?_, fun x => x.push hgb, fun b o e ht _ => ?_⟩
      · show (s.gens.push gs)[g]? = some gs'
        have hlt : g < s.gens.size := by
          rcases Nat.lt_or_ge g s.gens.size with h' | h'
          · exact h'
          · rw [Array.getElem?_eq_none h'] at e; cases e
        rw [Array.getElem?_push_lt hlt, ← e, Array.getElem?_eq_getElem hlt]
      · exact hk₅ _ _ (E₄.keep _ _ (k1 _ _ e) ht (fun z => z))
    refine h a _ _ _ _ _ W' hat (fun i s st => st.1.typeIs) List.mem_cons_self ?_ E5 (I₄.keeps hk₅) fun s'' hm => ?_
    · intro b hb
      show b < h₅.objs.size
      have hag : h₄.objs.size < a := hag
      rw [hsz₅]
      rcases List.mem_cons.mp hb with rfl | hb
      · exact Nat.lt_succ_self _
      · rcases List.mem_cons.mp hb with rfl | hb
        · exact Nat.lt_succ_of_lt hag
        · exact Nat.lt_succ_of_lt (Nat.lt_trans (List.mem_range.mp hb) hag)
    · have hge : ∀ b ∈ h₄.objs.size :: [s.heap.objs.size], s.heap.objs.size ≤ b := fun b hb => by
        simp only [List.mem_cons, List.not_mem_nil, or_false] at hb
        rcases hb with rfl | rfl
        · exact Nat.le_of_lt hlt4
        · exact Nat.le_refl _
      have I5 : Inv h₅ := I₄.keeps hk₅
      obtain ⟨hgq, hC⟩ : GenOnlyQ s.gens.size (s.gens.push gs) s''.gens ∧ True := ⟨hm.gens, trivial⟩
      refine ⟨⟨hm.os.trans E5.os, fun g gs' e => ?_, fun x => (x.push hgb).moved hm.gens, fun b o e ht hf => ?_⟩, ?_⟩
      · have e5 := E5.gens g gs' e
        have hlt : g < s.gens.size := by
          rcases Nat.lt_or_ge g s.gens.size with h' | h'
          · exact h'
          · rw [Array.getElem?_eq_none h'] at e; cases e
        rcases hgq with z | ⟨z, _⟩
        · rw [z]; exact e5
        · rw [z.2 g (Nat.ne_of_lt hlt)]; exact e5
      · exact hm.heap b o (fun hb => absurd (Heap.lt_size e) (Nat.not_lt.mpr (hge b hb))) (E5.keep b o e ht hf)
      · refine I₄.low (fun b o hb e => hm.heap b o (fun hmem => absurd (Nat.lt_of_lt_of_le hb (Nat.le_trans big (hge b hmem))) (Nat.lt_irrefl _)) (hk₅ _ _ e)) fun b o hc e => hm.heap b o (fun hmem => ?_) (hk₅ _ _ e)
        simp only [List.mem_cons, List.not_mem_nil, or_false] at hmem
        rcases hmem with rfl | rfl
        · exact Nat.lt_irrefl _ (Heap.lt_size e)
        · rw [hIt] at e
          cases e
          obtain ⟨vs, q, t, e1, e2⟩ := hc
          cases e1; cases e2
end
section
-- H19
variable {w : World}
open PySem.Calls Builtin Builtin.ObjectAttr
section
variable {n : Nat} {i : Int} {ds : List D}
theorem kc_isfn {P : Params} : ∀ a ∈ [94, 101, 117, 124, 131, 146, 154], isFn (Kc P) (.ref a) = true := by
  intro a ha
  simp only [List.mem_cons, List.not_mem_nil, or_false] at ha
  rcases ha with rfl | rfl | rfl | rfl | rfl | rfl | rfl <;> kernel_rfl
theorem CallS.lenAcc {v : Int} (hc : CallS w n (.ref 124) [.acc i ds] (.int v)) (h0 : 0 ≤ v) (h1 : v < 2 ^ 63) : CallS w (n + 1) (.builtin "len") [.acc i ds] (.int v) := fun A s X vs R I B hd => by
  obtain ⟨u, _, rfl, p, q⟩ := hd.cons_inv
  have := q.nil_inv; subst this
  have p0 := p
  unfold Rp at p
  obtain ⟨x, da, vs, k, t, rfl, hx, hxd, ha, hns, hr⟩ := p
  obtain ⟨P, XK⟩ := I.kls
  obtain ⟨o, It, _⟩ := (⟨ha, hns⟩ : AccAt s.heap x da vs k i t).inst
  refine Calls.call_function_entry kind_len plain_len entry_len (args_len1 _) ?_
  unfold Builtin.«len»
  refine wpAny_bind (m := oneArg "len" _) (wpAny_pure ?_)
  refine wpAny_bind (m := callSpecial? (.ref x) (Str.ofString "__len__")) (special_fn XK It kc_len (kc_fn 124 (by simp)) (wpAny_mono (hc A.in1 s X [.ref x] R.in1 I B (RpL.cons p0 RpL.nil)) (fun r s' hr => ?_) fun _ _ y => y))
  obtain ⟨E1, I1, t1, rfl⟩ := hr
  refine wpAny_bind (wpAny_holding (wpAny_pure ?_))
  refine wpAny_bind (wpAny_letGo ?_)
  show wpAny _ _ (if v < 0 then _ else _) _ _ _
  rw [if_neg (by omega)]
  show wpAny _ _ (if v ≥ 2 ^ 63 then _ else _) _ _ _
  rw [if_neg (by omega)]
  exact wpAny_bind (wpAny_mkInt (wpAny_pure ⟨_, rfl, E1.trans (Eff.tok s' _), I1, _, rfl⟩))
theorem TruS.acc {v : Int} (hc : CallS w n (.ref 124) [.acc i ds] (.int v)) (h0 : 0 ≤ v) (h1 : v < 2 ^ 63) : TruS w (n + 1) (.acc i ds) (v != 0) := fun A s X u R I B p => by
  have p0 := p
  unfold Rp at p
  obtain ⟨x, da, vs, k, t, rfl, hx, hxd, ha, hns, hr⟩ := p
  obtain ⟨P, XK⟩ := I.kls
  obtain ⟨o, It, _⟩ := (⟨ha, hns⟩ : AccAt s.heap x da vs k i t).inst
  have key : wpAny (model PRG w) A (runValue (.builtin "len" ⟨[.ref x], []⟩)) (fun r s' => ∃ t, r = .int v t ∧ Eff s s' ∧ Inv s'.heap) (fun _ _ => False) s := by
    refine wpAny_runValue (codeAny_builtin entry_len ?_)
    rw [Around.under_plainId plain_len _]
    unfold Builtin.«len»
    refine wpAny_bind (m := oneArg "len" _) (wpAny_pure ?_)
    refine wpAny_bind (m := callSpecial? (.ref x) (Str.ofString "__len__")) (special_fn XK It kc_len (kc_fn 124 (by simp)) (wpAny_mono (hc A.in1 s X [.ref x] R.in1 I B (RpL.cons p0 RpL.nil)) (fun r s' hr => ?_) fun _ _ y => y))
    obtain ⟨E1, I1, t1, rfl⟩ := hr
    refine wpAny_bind (wpAny_holding (wpAny_pure ?_))
    refine wpAny_bind (wpAny_letGo ?_)
    show wpAny _ _ (if v < 0 then _ else _) _ _ _
    rw [if_neg (by omega)]
    show wpAny _ _ (if v ≥ 2 ^ 63 then _ else _) _ _ _
    rw [if_neg (by omega)]
    exact wpAny_bind (wpAny_mkInt (wpAny_pure ⟨_, rfl, E1.trans (Eff.tok s' _), I1⟩))
  unfold truthy
  refine wpAny_bind (m := callSpecial? (.ref x) (Str.ofString "__bool__")) (wpAny_bind (wpAny_bind (It.type.here ((looks_findIn XK kc_bool).here (wpAny_pure ?_)))))
  refine wpAny_bind (wpAny_bind (It.type.here ((looks_findIn XK kc_len).here ?_)))
  refine wpAny_bind (wpAny_mono key (fun r s' h' => ?_) fun _ _ e => e)
  obtain ⟨t, rfl, E1, I1⟩ := h'
  exact wpAny_pure ⟨rfl, E1, I1⟩
theorem CallS.strAcc {y : Str} (hc : CallS w n (.ref 131) [.acc i ds] (.str y)) : CallS w (n + 2) (.type "str") [.acc i ds] (.str y) := fun A s X vs R I B hd => by
  obtain ⟨u, _, rfl, p, q⟩ := hd.cons_inv
  have := q.nil_inv; subst this
  have p0 := p
  unfold Rp at p
  obtain ⟨x, da, vs, k, t, rfl, hx, hxd, ha, hns, hr⟩ := p
  obtain ⟨P, XK⟩ := I.kls
  obtain ⟨o, It, _⟩ := (⟨ha, hns⟩ : AccAt s.heap x da vs k i t).inst
  have R2 : Rm n A.in1.in1 := R.in1.in1
  refine kso_call (K := Kc P) (C := 157) (f := 131) (by have := R2.units; omega) XK It kc_str (kc_isfn 131 (by simp)) (wpAny_mono (hc A.in1.in1 s X [.ref x] R2 I B (RpL.cons p0 RpL.nil)) (fun r s' hr => ?_) fun _ _ y => y)
  obtain ⟨E1, I1, t1, rfl⟩ := hr
  exact ⟨E1, I1, t1, rfl⟩
theorem EvS.sizeOf {sc : Scope} {r : VL} {o : Expr} {pos : Pos} (ho : EvS w n sc r o (.acc i ds)) (he : ∀ env, eval (.Attribute o iniS pos) env = (do
      let ov ← eval o env
      standAt pos.atName
      let r ← holding [ov] (getAttr ov iniS true)
      letTemporaryGo o ov r
      pure r) := by intro _; with_unfolding_all rfl) : EvS w n sc r (.Attribute o iniS pos) (.int i) := fun A s env X hs R I V => by
  refine Attribute_any_ (wpAny_mono (ho A s env X hs R I V) (fun v s₁ q => ?_) fun _ _ z => z) (he env)
  obtain ⟨E1, I1, p⟩ := q
  unfold Rp at p
  obtain ⟨x, da, vs, k, t, rfl, hx, hxd, ha, hns, hr⟩ := p
  obtain ⟨P, XK⟩ := I1.kls
  exact acc_getAttr XK ⟨ha, hns⟩ ⟨E1.trans (Eff.tok _ _), I1, _, rfl⟩
end
end
section
-- H20
variable {w : World}
open PySem.Calls Builtin Builtin.ObjectAttr Builtin.Str
noncomputable abbrev prD (p : Str × Str) : D := .tup [.str p.1, .str p.2]
theorem row_ts {X : Addr → Prop} {h : Heap} : ∀ {ps : List (Str × Str)} {vs : List Value}, RpL X h (ps.map prD) vs → ∃ ts : List (Addr × Value × Value), vs = ts.map (fun p => Value.ref p.1) ∧ (∀ p ∈ ts, ∃ m, h.get? p.1 = some (TObj #[p.2.1, p.2.2] m)) ∧
    ts.length = ps.length ∧ ∀ (j : Nat) (p : Addr × Value × Value), ts[j]? = some p → ∃ q ta tb, ps[j]? = some q ∧ p.2.1 = .str q.1 ta ∧ p.2.2 = .str q.2 tb
  | [], _, x => by
    have := x.nil_inv; subst this
    exact ⟨[], rfl, (fun p hp => nomatch hp), rfl, (fun j p hp => by rw [List.getElem?_nil] at hp; cases hp)⟩
  | q :: ps, _, x => by
    obtain ⟨v, r, rfl, a, b⟩ := x.cons_inv
    obtain ⟨ts, rfl, h2, h3, h4⟩ := row_ts b
    unfold Rp at a
    obtain ⟨ta, tv, tn, rfl, _, e, hr⟩ := a
    obtain ⟨v1, r1, e1, ⟨t1, rfl⟩, b1⟩ := hr.cons_inv
    obtain ⟨v2, r2, rfl, ⟨t2, rfl⟩, b2⟩ := b1.cons_inv
    have := b2.nil_inv; subst this
    have e2 : tv = #[.str q.1 t1, .str q.2 t2] := by rw [← Array.toArray_toList (xs := tv), e1]
    subst e2
    refine ⟨(ta, .str q.1 t1, .str q.2 t2) :: ts, rfl, fun p hp => ?_, by simp [h3], fun j p hp => ?_⟩
    · rcases List.mem_cons.mp hp with rfl | hp
      · exact ⟨_, e⟩
      · exact h2 p hp
    · cases j with
      | zero => simp at hp; subst hp; exact ⟨q, t1, t2, rfl, rfl, rfl⟩
      | succ j => simp at hp; obtain ⟨q', ta', tb', a1, a2, a3⟩ := h4 j p hp; exact ⟨q', ta', tb', by simpa using a1, a2, a3⟩
theorem pre_sh (i : Int) (val : Nat → Int) : ∀ n : Nat, preSum (shV i val) (n + 1) = i + preSum val n
  | 0 => by simp [preSum, shV]
  | n + 1 => by
    have ih := pre_sh i val n
    have e1 : preSum (shV i val) (n + 1 + 1) = preSum (shV i val) (n + 1) + shV i val (n + 1) := rfl
    have e2 : preSum val (n + 1) = preSum val n + val n := rfl
    rw [e1, ih, e2]
    show i + preSum val n + val n = _
    omega
noncomputable abbrev fdLE : FuncData := fdM 4 "__len__" [] .none .none 123
noncomputable abbrev fdST : FuncData := fdM 5 "__str__" [] .none .none 130
noncomputable def lenI (ps : List (Str × Str)) : Int := (ps.map fun q => ((q.1.length + q.2.length : Nat) : Int)).sum
noncomputable def rowS (ps : List (Str × Str)) : Str := Txt.join Str.empty (ps.map fun q => Txt.join Str.empty [q.1, q.2])
theorem len_S {n : Nat} {i : Int} {ps : List (Str × Str)} (hi : i = 0 ∨ i = 1 ∨ i = 2 ∨ i = 3) (hp : ∀ q ∈ ps, q.1.length ≤ 1000 ∧ q.2.length ≤ 1000) : CallS w (n + 2) (.ref 124) [.acc i (ps.map prD)] (.int (i + lenI ps)) := fun A s X vs R I B hd => by
  obtain ⟨v, _, rfl, p, q⟩ := hd.cons_inv
  have := q.nil_inv; subst this
  have p' := p
  unfold Rp at p
  obtain ⟨x, da, vs, k, t, rfl, hx, hxd, ha, hns, hr⟩ := p
  refine call_sup (n := n + 1) (p := (124, fdLE, 123)) (by walk_at "mem") (body := dB (clAt 4)) (xs := ["self"]) I R rfl (BindsTo.of_eq rfl) (by decide +kernel) rfl (by decide +kernel) rfl rfl rfl fun h₀ tk hN keep => wpAt_of_wpAny ?_
  have I₀ : Inv h₀ := I.keeps keep
  have R' : Rm (n + 1) (A.deeper (callEnv fdLE s.heap.objs.size 124)) := R.deeper
  obtain ⟨ts, h1, h2, h3, h4⟩ := row_ts (hr.keep fun b o e _ _ => keep b o e : RpL X h₀ _ _)
  refine wpAny_execs_cons (wpAny_Return_some ?_)
  refine wpAny_Call_NameR (wpAny_Name (ks_loadName_global (by rfl) (by rfl) (?lb)) (by rfl))
  case lb =>
    obtain ⟨mg, hG, _, _, hg0, _⟩ := I₀.glo
    obtain ⟨mb, hB, hb0⟩ := I₀.bui
    refine loadGlobal_builtin (v := .builtin "sum") hG (hg0 ("sum", .builtin "sum") (by simp [btab])) hB (hb0 ("sum", .builtin "sum") (by simp [btab])) ?_
    refine Calls.callWith_builtin (by rfl) (Calls.evalArgs_plain (Calls.spliced_cons ?_))
    refine rowGen (p := (123, 119, gPos lenR, "_Accumulator.__len__.<locals>.<genexpr>")) (.tail _ (.tail _ (.head _))) (s := { s with heap := h₀, toks := tk }) (F := fun j y => ∃ q, ps[j]? = some q ∧ ∃ t, y = .int ((q.1.length + q.2.length : Nat) : Int) t) (m := fun y => ((["self"] : List Str).zip [Value.ref x]).reverse.lookup y)
      I₀ R'.handled (Nat.lt_of_le_of_lt (Nat.le_add_right _ _) R'.depth) (keep _ _ ha) h1 h2 rfl rfl rfl rfl rfl rfl hN rfl rfl rfl (by decide +kernel) rfl rfl rfl rfl ?_ ?_
    · intro A' E' cenv s' m j p hA hp1 hsc hg hb hn hfa hpa hmg hmb
      obtain ⟨q, ta, tb, q1, q2, q3⟩ := h4 j p hp1
      obtain ⟨l1, l2⟩ := hp q (List.mem_of_getElem? q1)
      refine wpAny_mono (len_elt hsc hg hb hn (by rw [hfa, q2]) (by rw [hpa, q3]) (hmg _ hG) (hg0 ("len", .builtin "len") (by simp [btab])) (hmb _ hB) (hb0 ("len", .builtin "len") (by simp [btab])) l1 l2) (fun y s₃ z => ⟨⟨q, q1, z.1⟩, z.2⟩) fun _ _ z => z
    · intro a s' fp wr G St W hst hty hfa hfp E1 I1 hmv
      have a₁ : AccAt s'.heap x da vs k i t := ⟨E1.keep _ _ (keep _ _ ha) (I₀.notTab (keep _ _ ha) (.inl (by nofun))) (fun z => z), E1.ns I₀ (hns.keeps keep)⟩
      obtain ⟨P, XK⟩ := I1.kls
      have hN1 := E1.ns I₀ hN
      refine Calls.spliced_cons (Attribute_any_ (wpAny_Name (wpAny_loadName_local (by rfl) (by rfl) hN1 (by rfl) ?_) (by rfl)) (by rfl))
      refine acc_getAttr XK a₁ (Calls.spliced_nil ?_)
      have hst2 : St 0 { s' with toks := s'.toks + 1 } := W.frame 0 s' s'.heap (s'.toks + 1) hst (Nat.le_succ _) fun _ _ _ e => e
      have W1 := W.in4_1
      refine call_sum_start hi (W1.self 0 _ _ _ hst2 ⟨a, _, _, _, _, _, _, (fun j => (ps.map fun q => ((q.1.length + q.2.length : Nat) : Int)).getD j 0), rfl, W1, hst2, hfp, ?_, ?_⟩)
      · rintro j v ⟨q, q1, t, rfl⟩
        exact ⟨t, by simp [List.getD_eq_getElem?_getD, q1]⟩
      · intro s'' t' hm
        rw [pre_sh, preSum_getD, h3, List.take_of_length_le (by simp)]
        obtain ⟨e2, i2⟩ := hmv s'' ⟨hm.heap, hm.gens, hm.drawn, hm.os, Nat.le_trans (Nat.le_succ _) hm.toks⟩
        exact ⟨(Eff.of_keeps keep).trans e2, i2, _, rfl⟩
theorem str_S {n : Nat} {i : Int} {ps : List (Str × Str)} (hl : ps.length ≤ 1000) (hp : ∀ q ∈ ps, q.1.length ≤ 1000 ∧ q.2.length ≤ 1000) : CallS w (n + 2) (.ref 131) [.acc i (ps.map prD)] (.str (rowS ps)) := fun A s X vs R I B hd => by
  obtain ⟨v, _, rfl, p, q⟩ := hd.cons_inv
  have := q.nil_inv; subst this
  have p' := p
  unfold Rp at p
  obtain ⟨x, da, vs, k, t, rfl, hx, hxd, ha, hns, hr⟩ := p
  refine call_sup (n := n + 1) (p := (131, fdST, 130)) (by walk_at "mem") (body := dB (clAt 5)) (xs := ["self"]) I R rfl (BindsTo.of_eq rfl) (by decide +kernel) rfl (by decide +kernel) rfl rfl rfl fun h₀ tk hN keep => wpAt_of_wpAny ?_
  have I₀ : Inv h₀ := I.keeps keep
  have R' : Rm (n + 1) (A.deeper (callEnv fdST s.heap.objs.size 131)) := R.deeper
  obtain ⟨ts, h1, h2, h3, h4⟩ := row_ts (hr.keep fun b o e _ _ => keep b o e : RpL X h₀ _ _)
  obtain ⟨mg, hG, _, _, _, _, _, te, hg0⟩ := I₀.glo
  refine wpAny_execs_cons (wpAny_Return_some ?_)
  refine wpAny_Call_method (T := "str") (id := "str.join") (by rfl) (by rfl) (by rfl) F.plainAttrs_str F.slot_str_join F.type_str_join ?_
  refine wpAny_Name (ks_loadName_global (by rfl) (by rfl) (loadGlobal_global hG hg0 ?_)) (by rfl)
  refine ⟨typeIs_str _ _ _, (fun a e => nomatch e), Calls.callWith_builtin ?pl ?_⟩
  case pl => rfl
  refine Calls.evalArgs_plain (Calls.spliced_cons ?_)
  refine rowGen (p := (130, 126, gPos strR, "_Accumulator.__str__.<locals>.<genexpr>")) (.tail _ (.tail _ (.tail _ (.head _)))) (s := { s with heap := h₀, toks := tk }) (F := fun j y => ∃ q, ps[j]? = some q ∧ ∃ t, y = .str (Txt.join Str.empty [q.1, q.2]) t) (m := fun y => ((["self"] : List Str).zip [Value.ref x]).reverse.lookup y)
    I₀ R'.handled (Nat.lt_of_le_of_lt (Nat.le_add_right _ _) R'.depth) (keep _ _ ha) h1 h2 rfl rfl rfl rfl rfl rfl hN rfl rfl rfl (by decide +kernel) rfl rfl rfl rfl ?_ ?_
  · intro A' E' cenv s' m j p hA hp1 hsc hg hb hn hfa hpa hmg hmb
    obtain ⟨q, ta, tb, q1, q2, q3⟩ := h4 j p hp1
    obtain ⟨l1, l2⟩ := hp q (List.mem_of_getElem? q1)
    refine wpAny_mono (str_elt hsc hg hn (by rw [hfa, q2]) (by rw [hpa, q3]) (hmg _ hG) hg0 l1 l2) (fun y s₃ z => ⟨⟨q, q1, z.1⟩, z.2⟩) fun _ _ z => z
  · intro a s' fp wr G St W hst hty hfa hfp E1 I1 hmv
    refine Calls.spliced_nil ?_
    have W2 := W.in4_2
    refine SC.joinGen W2 hty hst hfp hfa (fun j v hv => by obtain ⟨q, q1, t, e⟩ := hv; exact ⟨_, t, e⟩) (fun s'' lt hm hacc => ?_) (by rw [h3]; exact Nat.le_trans hl (by decide))
    have hlt : lt.map (·.1) = ps.map fun q => Txt.join Str.empty [q.1, q.2] := by
      have hsz : lt.length = ps.length := by rw [← h3]; simpa [strValues] using hacc.1
      apply List.ext_getElem (by simp [hsz])
      intro j h5 h6
      have hj' : j < lt.length := by simpa using h5
      obtain ⟨q, q1, t, e⟩ := hacc.2 j (.str lt[j].1 lt[j].2) (by simp [strValues, List.getElem?_eq_getElem hj'])
      injection e with e1 _
      have hj : j < ps.length := hsz ▸ hj'
      rw [List.getElem?_eq_getElem hj] at q1
      cases q1
      simp [e1]
    rw [hlt]
    obtain ⟨e2, i2⟩ := hmv s'' hm
    refine ⟨joinOk_of ?_, fun t' k => ⟨(Eff.of_keeps keep).trans (e2.trans (Eff.tok _ _)), i2, _, rfl⟩⟩
    have key : ∀ qs : List (Str × Str), (∀ q ∈ qs, q.1.length ≤ 1000 ∧ q.2.length ≤ 1000) → ((qs.map fun q => Txt.join Str.empty [q.1, q.2]).map (·.length)).sum ≤ 2000 * qs.length := by
      intro qs
      induction qs with
      | nil => intro _; exact Nat.zero_le _
      | cons q r ih =>
        intro hq
        have h1 := ih fun z hz => hq z (.tail _ hz)
        obtain ⟨a, b⟩ := hq q (.head _)
        simp only [List.map_cons, List.sum_cons, List.length_cons]
        have : (Txt.join Str.empty [q.1, q.2]).length = q.1.length + q.2.length := by
          show (glued _ _).length = _
          rw [size_glued]; simp [Str.empty, Str.length]
        omega
    have := key ps hp
    have e0 : Str.empty.length = 0 := rfl
    rw [e0]; omega
end
section
-- H21
variable {w : World}
open PySem.Calls Builtin Builtin.ObjectAttr
section
variable {n : Nat} {sc : Scope} {r : VL}
theorem EvS.and2 {x y : Expr} {pos : Pos} {a b : Bool} (hx : EvS w n sc r x (.bool a)) (hy : a = true → EvS w n sc r y (.bool b)) : EvS w n sc r (.BoolOp .And [x, y] pos) (.bool (a && b)) := fun A s env X hs R I V => by
  refine BoolOp_and (wpAny_mono (hx A s env X hs R I V) (fun v s₁ q => ?_) fun _ _ z => z)
  obtain ⟨E1, I1, rfl⟩ := q
  refine wpAny_truthy_bool ?_
  cases a with
  | false => exact ⟨E1, I1, rfl⟩
  | true =>
    refine BoolOp_one (wpAny_mono (hy rfl A s₁ env X hs R I1 (V.eff E1 I)) (fun v s₂ q => ?_) fun _ _ z => z)
    exact (q.trans E1 : EvP X s (.bool b) v s₂)
theorem EvS.or2 {x y : Expr} {pos : Pos} {a b : Bool} (hx : EvS w n sc r x (.bool a)) (hy : a = false → EvS w n sc r y (.bool b)) : EvS w n sc r (.BoolOp .Or [x, y] pos) (.bool (a || b)) := fun A s env X hs R I V => by
  refine BoolOp_or (wpAny_mono (hx A s env X hs R I V) (fun v s₁ q => ?_) fun _ _ z => z)
  obtain ⟨E1, I1, rfl⟩ := q
  refine wpAny_truthy_bool ?_
  cases a with
  | true => exact ⟨E1, I1, rfl⟩
  | false =>
    refine BoolOp_one (wpAny_mono (hy rfl A s₁ env X hs R I1 (V.eff E1 I)) (fun v s₂ q => ?_) fun _ _ z => z)
    exact (q.trans E1 : EvP X s (.bool b) v s₂)
end
noncomputable abbrev fdWS : FuncData := fdM 7 "is_onlyws" [] .none .none 145
theorem ws_ok : FnOk fdWS (dB (clAt 7)) ["self"] := by walk_at "fnok"
noncomputable def wsB (i : Int) (ps : List (Str × Str)) : Bool := (i == 0) && ((!((i + lenI ps) != 0)) || ((rowS ps).length > 0 && (rowS ps).cps.all Unicode.isSpace))
theorem lenI_nn : ∀ ps : List (Str × Str), 0 ≤ lenI ps
  | [] => Int.le_refl _
  | q :: ps => by
    have := lenI_nn ps
    show 0 ≤ (List.map _ (q :: ps)).sum
    rw [List.map_cons, List.sum_cons]
    have e : (ps.map fun q => ((q.1.length + q.2.length : Nat) : Int)).sum = lenI ps := rfl
    rw [e]; omega
theorem lenI_le : ∀ ps : List (Str × Str), (∀ q ∈ ps, q.1.length ≤ 1000 ∧ q.2.length ≤ 1000) → lenI ps ≤ 2000 * ps.length
  | [], _ => Int.le_refl _
  | q :: ps, h => by
    have := lenI_le ps fun z hz => h z (.tail _ hz)
    obtain ⟨a, b⟩ := h q (.head _)
    show (List.map _ (q :: ps)).sum ≤ _
    rw [List.map_cons, List.sum_cons, List.length_cons]
    have e : (ps.map fun q => ((q.1.length + q.2.length : Nat) : Int)).sum = lenI ps := rfl
    rw [e]; push_cast; omega
theorem ws_S {n : Nat} {i : Int} {ps : List (Str × Str)} (hi : i = 0 ∨ i = 1 ∨ i = 2 ∨ i = 3) (hl : ps.length ≤ 1000) (hp : ∀ q ∈ ps, q.1.length ≤ 1000 ∧ q.2.length ≤ 1000) : CallS w (n + 5) (.ref 146) [.acc i (ps.map prD)] (.bool (wsB i ps)) := by
  refine CallS.fn (p := (146, fdWS, 145)) (by walk_at "mem") ws_ok rfl rfl (Blk.last (Stm.ret (d := .bool (wsB i ps)) ?_)) rfl
  have h1 := lenI_nn ps
  have h2 := lenI_le ps hp
  refine EvS.and2 (EvS.cmp (EvS.sizeOf (by walk_at "name")) (by walk_at "ev") CmpS.eqI) fun _ => EvS.or2 (EvS.notV (by walk_at "name") (TruS.acc (len_S hi hp) (by omega) (by omega))) fun _ => ?_
  exact EvS.meth0 (T := "str") (EvS.call (by walk_at "name") (by walk_at "keep") (by walk_at "evl") (CallS.strAcc (str_S hl hp)) (by intro _; with_unfolding_all rfl)) rfl F.plainAttrs_str F.slot_str_isspace F.type_str_isspace CallS.isspace
end
section
-- I0
variable {w : World}
theorem EffM.pre {Mu : Addr → Prop} {s s' s'' : Shared} (a : Eff s s') (b : EffM Mu s' s'') : EffM Mu s s'' := a.toM.trans b
section
variable {n : Nat} {sc : Scope} {r o : VL} {n₀ : Nat} {X₀ Wb : Addr → Prop} {sb : Shared} {env : Env} {s : Shared} {A : Around} {ad : Str → Addr}
theorem ns_same {h : Heap} {a : Addr} {m m' : Str → Option Value} (x : h.Ns a m) (y : h.Ns a m') : m = m' := by
  obtain ⟨ob, es, ep, q1, q2, q3, q4⟩ := x
  obtain ⟨ob', es', ep', q1', q2', q3', q4'⟩ := y
  rw [q1] at q1'; cases q1'; rw [q2] at q2'; cases q2'
  funext y
  rw [← q4, ← q4']
theorem StA.finish {pl nw : VL} {m m'' : Str → Option Value} {ad' : Str → Addr} {s' : Shared} {h'' : Heap} {tk : Nat}
    (S : StA n₀ X₀ Wb sb env r o s ad) (E : Eff s s') (I : Inv s'.heap) (nm : s.heap.Ns env.locals m)
    (hsb : Heap.SameBut env.locals s'.heap h'') (hn : h''.Ns env.locals m'')
    (hm : ∀ y, (∀ p ∈ pl, p.1 ≠ y) → (∀ p ∈ nw, p.1 ≠ y) → m'' y = m y) (hini : (∀ p ∈ pl, p.1 ≠ iniS) ∧ ∀ p ∈ nw, p.1 ≠ iniS) (ado : ∀ p ∈ o, ad' p.1 = ad p.1)
    (hpl : ∀ p ∈ pl, env.kindOf p.1 = some .local ∧ (∀ q ∈ o, q.1 ≠ p.1) ∧ ∃ v, m'' p.1 = some v ∧ Rp (OX X₀ (nw ++ o) ad') h'' p.2 v)
    (hnw : ∀ p ∈ nw, s.heap.get? (ad' p.1) = none ∧ n₀ ≤ ad' p.1 ∧ env.kindOf p.1 = some .local ∧ m'' p.1 = some (.ref (ad' p.1)) ∧ OwnC (OX X₀ (nw ++ o) ad') h'' (ad' p.1) p.2)
    (hno : ∀ p ∈ nw, (∀ q ∈ o, q.1 ≠ p.1) ∧ r.lookup p.1 = none ∧ ∀ q ∈ pl, q.1 ≠ p.1) (hdist : nw.Pairwise fun p q => p.1 ≠ q.1 ∧ ad' p.1 ≠ ad' q.1) :
    StA n₀ X₀ Wb sb env (pl ++ r) (nw ++ o) { s' with heap := h'', toks := tk } ad' := by
  have S₁ := (S.rebase).step E I
  have mi : m iniS = none := by obtain ⟨m', n', mi, _⟩ := S.vars.ns; rw [ns_same nm n']; exact mi
  have hmv : ∀ x d, r.lookup x = some d → env.kindOf x = some .local → ∃ v, m x = some v ∧ Rp (OX X₀ o ad) s.heap d v := by
    obtain ⟨m', n', _, q⟩ := S.vars.ns; rw [ns_same nm n']; exact q
  have nm1 : s'.heap.Ns env.locals m := E.ns S.inv nm
  have nS := ns_notSeq nm1 mi
  have hl : 196 ≤ env.locals := Nat.le_trans S.n0 S.lowL
  have sk1 : SK (OX X₀ o ad) s'.heap h'' := fun b ob e c' _ => (hsb.2 b fun z => nS ob (z ▸ e) c').trans e
  have sk0 : SK (OX X₀ o ad) s.heap h'' := fun b ob e c hx => sk1 b ob ((E.sk S.inv) b ob e c hx) c hx
  have hT : ∀ a, 196 ≤ a → a ∉ tabs := fun a ha t => by
    simp only [tabs, List.mem_cons, List.not_mem_nil, or_false] at t
    have : a < 196 := by rcases t with t | t | t | t <;> rw [t] <;> decide
    exact absurd ha (Nat.not_le.mpr this)
  have owx : ∀ b, OX X₀ (nw ++ o) ad' b → OX X₀ o ad b ∨ ∃ p ∈ nw, b = ad' p.1 := fun b y => by
    rcases y with y | ⟨p, hp, e⟩
    · exact .inl (.inl y)
    · rcases List.mem_append.mp hp with q | q
      · exact .inr ⟨p, q, e.symm⟩
      · exact .inl (.inr ⟨p, q, by rw [← ado p q]; exact e⟩)
  have hY : ∀ b, OX X₀ (nw ++ o) ad' b → OX X₀ o ad b ∨ s.heap.get? b = none := fun b y => (owx b y).imp id fun ⟨p, hp, e⟩ => by rw [e]; exact (hnw p hp).1
  have XB' : XB (OX X₀ (nw ++ o) ad') h'' := fun b y => by
    rcases owx b y with y | ⟨p, hp, e⟩
    · obtain ⟨t, ob, e⟩ := S₁.vars.bnd b y
      exact ⟨t, ob, (hsb.2 b fun z => S₁.nXL (z ▸ y)).trans e⟩
    · obtain ⟨h1, h2, h3, h4, h5⟩ := hnw p hp
      obtain ⟨ob, vs, k, e1, _⟩ := h5.get
      exact ⟨hT b (by rw [e]; exact Nat.le_trans S.n0 h2), ob, by rw [e]; exact e1⟩
  have cne : ∀ c v, s'.heap.IsCell c v → c ≠ env.locals := fun c v hc z => ns_notCell nm1 (z ▸ hc)
  have look : ∀ y d, (pl ++ r).lookup y = some d → (∃ p ∈ pl, p.1 = y ∧ p.2 = d) ∨ ((∀ p ∈ pl, p.1 ≠ y) ∧ r.lookup y = some d) := fun y d e => by
    rw [List.lookup_append] at e
    cases hp : pl.lookup y with
    | some d' => rw [hp] at e; simp at e; subst e; exact .inl ⟨(y, d'), mem_of_lookup hp, rfl, rfl⟩
    | none =>
      rw [hp] at e
      refine .inr ⟨fun p hpm z => ?_, by simpa using e⟩
      have : pl.lookup y ≠ none := by
        clear e hpl hm hno hini
        induction pl with
        | nil => cases hpm
        | cons q pl ih =>
          rw [List.lookup_cons]
          rw [List.lookup_cons] at hp
          cases hq : (y == q.1) with
          | true => nofun
          | false =>
            rw [hq] at hp
            rcases List.mem_cons.mp hpm with rfl | hpm
            · rw [← z, beq_self_eq_true] at hq; cases hq
            · exact ih hp hpm
      exact this hp
  refine S.back (r' := pl ++ r) ⟨E.toM.trans ⟨rfl, fun _ _ e => e, id, fun b ob e _ q => (hsb.2 b fun z => q (.inl z)).trans e⟩, fun p hp => ?_, I.same hl hsb (ns_notCod nm1), ⟨XB', S.vars.kind, S.vars.glo, S.vars.bui, ⟨_, hn, (hm iniS hini.1 hini.2).trans mi, fun y d e q => ?_⟩, fun y d e q => ?_⟩, S.n0, S.xlow, S.lowL, S.lowC, fun y ky => ?_, S.apart, fun p hp => ?_, ?_⟩
  · rcases List.mem_append.mp hp with q | q
    · exact .inr (hnw p q).1
    · exact .inl ⟨p, q, (ado p q).symm⟩
  · rcases look y d e with ⟨p, hp, rfl, rfl⟩ | ⟨h1, e⟩
    · exact (hpl p hp).2.2
    · have h2 : ∀ p ∈ nw, p.1 ≠ y := fun p hp z => by have := (hno p hp).2.1; rw [z, e] at this; cases this
      obtain ⟨v, e1, e2⟩ := hmv y d e q
      exact ⟨v, (hm y h1 h2).trans e1, e2.mono hY sk0⟩
  · rcases look y d e with ⟨p, hp, rfl, rfl⟩ | ⟨h1, e⟩
    · have := (hpl p hp).1
      rcases q with q | q <;> rw [this] at q <;> cases q
    · obtain ⟨c, v, e1, e2, e3⟩ := S.vars.cel y d e q
      obtain ⟨ob, e2, e4⟩ := E.cell S.inv e2
      exact ⟨c, v, e1, ⟨ob, (hsb.2 c (cne c _ ⟨ob, e2, e4⟩)).trans e2, e4⟩, e3.mono hY sk0⟩
  · obtain ⟨c, v, e, ⟨ob, e2, e4⟩⟩ := S₁.cells y ky
    exact ⟨c, v, e, ⟨ob, (hsb.2 c (cne c _ ⟨ob, e2, e4⟩)).trans e2, e4⟩⟩
  · rcases List.mem_append.mp hp with q | q
    · obtain ⟨h1, h2, h3, h4, h5⟩ := hnw p q
      exact ⟨h2, h5, .inl ⟨h3, _, hn, h4⟩⟩
    · obtain ⟨h1, h2, h3⟩ := S.own p q
      have hab : ad p.1 ≠ env.locals := S.nsOwn q
      refine ⟨by rw [ado p q]; exact h1, ?_, ?_⟩
      · rw [ado p q]
        obtain ⟨ob, vs, k, e1, e2, e3⟩ := h2.get
        refine h2.keep (fun ob' e => (hsb.2 _ hab).trans (E.keep _ _ e (S.inv.notTab e (.inr (by rw [e1] at e; cases e; rw [e2]; nofun))) fun z => z)) hY sk0
      · rw [ado p q]
        rcases h3 with ⟨h3, m', h4, h5⟩ | ⟨h3, c, h4, h5⟩
        · refine .inl ⟨h3, _, hn, ?_⟩
          rw [hm p.1 (fun z hz e => (hpl z hz).2.1 p q e.symm) (fun z hz e => (hno z hz).1 p q e.symm), ns_same nm h4]; exact h5
        · obtain ⟨ob, h5, h6⟩ := E.cell S.inv h5
          exact .inr ⟨h3, c, h4, ob, (hsb.2 c (cne c _ ⟨ob, h5, h6⟩)).trans h5, h6⟩
  · refine List.pairwise_append.mpr ⟨hdist, List.Pairwise.imp_of_mem (fun {p q} hp hq h => by rw [ado p hp, ado q hq]; exact h) S.dist, fun p hp q hq => ⟨Ne.symm ((hno p hp).1 q hq), fun z => ?_⟩⟩
    obtain ⟨ob, vs, k, e1, _⟩ := (S.own q hq).2.1.get
    have := (hnw p hp).1
    rw [z, ado q hq, e1] at this; cases this
end
end
section
-- I1
variable {w : World}
open PySem.Calls Builtin Builtin.ObjectAttr
theorem KeepOk.acc : KeepOk w (.ref 157) := fun h I => by
  obtain ⟨P, XK⟩ := I.kls
  refine ⟨.machine, .inr (.inl rfl), ?_⟩
  intro A Q E s k q
  unfold keeperOf
  have e : s.heap.get? 157 = some kCls := k _ _ (kc_get XK)
  refine wpAny_bind (wpAny_load e ?_)
  show wpAny _ A (do return if (← specialOf (.ref 157) "__call__") == some (.builtin "type.__call__") then Keeper.machine else .caller) Q E s
  refine wpAny_bind ((looks_specialIn XK kc_call) _ _ _ _ k ?_)
  exact wpAny_pure q
theorem EffM.fresh {s s' : Shared} {a : Addr} (E : Eff s s') (I : Inv s'.heap) (ha : s'.heap.objs.size ≤ a) : s.heap.get? a = none := by
  cases e : s.heap.get? a with
  | none => rfl
  | some o =>
    have hT : a ∉ tabs := fun t => by
      simp only [tabs, List.mem_cons, List.not_mem_nil, or_false] at t
      have : a < 196 := by rcases t with t | t | t | t <;> rw [t] <;> decide
      exact absurd (Nat.le_trans I.big ha) (Nat.not_le.mpr this)
    exact absurd (Heap.lt_size (E.keep a o e hT fun z => z)) (Nat.not_lt.mpr ha)
section
variable {n : Nat} {sc : Scope} {r o : VL}
theorem Stm.newRow {x : Str} {p p1 pos spos : Pos} {e : Expr} {i : Int} (he : EvS w (n + 2) sc r e (.int i)) (hk : sc.names.lookup x = some .local) (hxi : iniS ≠ x) (hxo : ∀ p ∈ o, p.1 ≠ x) (hr : r.lookup x = none) (hf : EvS w (n + 2) sc r (.Name "_Accumulator" p1) (.raw (.ref 157)))
    (hst : ∀ env, starEach [e] env = (false, eval e env) :: starEach [] env := by intro _; rfl) (hsw : ∀ env : Env, env.scope = sc → swapsWith (.Call (.Name "_Accumulator" p1) [e] [] pos) (some (.Name x p)) spos.line env = pure false := by intro _ _; rfl) :
    Stm w (n + 2) sc r o (.Assign [.Name x p] (.Call (.Name "_Accumulator" p1) [e] [] pos) spos) (.next r ((x, .acc i []) :: o)) := fun A n₀ X₀ Wb sb env s hs R S => by
  obtain ⟨ad, S⟩ := S
  refine wpAny_Assign_Name (EvS.callK hf KeepOk.acc (EvL.cons he EvL.nil hst) hst hs R S.inv S.vars fun vs s₁ p1 p2 p3 => ?_) (hsw env hs)
  obtain ⟨v, _, rfl, ⟨t, rfl⟩, b1⟩ := p3.cons_inv
  have := b1.nil_inv; subst this
  refine make_row p2 R fun xa da k s₂ hxa hda E I hx hd => ?_
  have E2 : Eff s s₂ := p1.trans E
  obtain ⟨m, nm, mi, hm⟩ := S.vars.ns
  have nm2 := E2.ns S.inv nm
  have k0 := kindOf_eq hs hk
  have big := p2.big
  have hL1 := (p1.ns S.inv nm).lt
  refine wpAny_storeName_local k0 nm2 (fun h' hn' hsb => ?_) (by rw [S.vars.kind]; rfl)
  let ad' : Str → Addr := fun y => if y = x then xa else ad y
  have adx : ad' x = xa := if_pos rfl
  have hxaL : xa ≠ env.locals := by rw [hxa]; exact Nat.ne_of_gt (Nat.lt_succ_of_lt hL1)
  have hdaL : da ≠ env.locals := by rw [hda]; exact Nat.ne_of_gt hL1
  have old : ∀ b, s₁.heap.objs.size ≤ b → s.heap.get? b = none := fun b hb => p1.fresh p2 hb
  have hOX : ¬ OX X₀ (([(x, .acc i [])] : VL) ++ o) ad' da := by
    have h0 : s.heap.get? da = none := old da (by rw [hda]; exact Nat.le_refl _)
    rintro (y | ⟨p, hp, e⟩)
    · obtain ⟨_, ob, e⟩ := S.vars.bnd da (.inl y)
      rw [h0] at e; cases e
    · rcases List.mem_append.mp hp with q | q
      · simp only [List.mem_cons, List.not_mem_nil, or_false] at q
        subst q
        have : xa = da := by rw [← adx]; exact e
        rw [hxa, hda] at this; exact absurd this (Nat.succ_ne_self _)
      · have e' : ad p.1 = da := by rw [← e]; exact (if_neg (hxo p q)).symm
        obtain ⟨_, ob, e2⟩ := S.vars.bnd da (.inr ⟨p, q, e'⟩)
        rw [h0] at e2; cases e2
  refine ⟨ad', StA.finish (pl := []) (nw := [(x, .acc i [])]) S E2 I nm hsb hn' ?_ ⟨(fun _ h => nomatch h), ?_⟩ ?_ (fun _ h => nomatch h) ?_ ?_ ?_⟩
  · intro y _ h
    exact if_neg fun z => h _ (.head _) z.symm
  · intro q hq; simp only [List.mem_cons, List.not_mem_nil, or_false] at hq; subst hq; exact Ne.symm hxi
  · intro q hq; exact if_neg (hxo q hq)
  · intro q hq; simp only [List.mem_cons, List.not_mem_nil, or_false] at hq; subst hq
    show s.heap.get? (ad' x) = none ∧ n₀ ≤ ad' x ∧ env.kindOf x = some .local ∧ _ ∧ OwnC _ h' (ad' x) _
    rw [adx]
    refine ⟨old xa (by rw [hxa]; exact Nat.le_succ _), Nat.le_trans S.lowL (by rw [hxa]; exact Nat.le_of_lt (Nat.lt_succ_of_lt hL1)), k0, if_pos rfl, da, #[], k, t, hOX, (hsb.2 xa hxaL).trans hx, hd.at' fun ob e => (hsb.2 da hdaL).trans e, RpL.nil⟩
  · intro q hq; simp only [List.mem_cons, List.not_mem_nil, or_false] at hq; subst hq
    exact ⟨hxo, hr, fun _ h => nomatch h⟩
  · exact List.pairwise_cons.mpr ⟨(fun _ h => nomatch h), .nil⟩
end
end
section
-- I2
variable {w : World}
open PySem.Calls Builtin Builtin.ObjectAttr
section
variable {n : Nat} {sc : Scope} {r o : VL}
theorem StA.accOwn {n₀ : Nat} {X₀ Wb : Addr → Prop} {sb : Shared} {env : Env} {s : Shared} {ad : Str → Addr} {x : Str} {i : Int} {ds : List D} (S : StA n₀ X₀ Wb sb env r o s ad) (hx : (x, .acc i ds) ∈ o) :
    196 ≤ ad x ∧ ∃ da vs k t, ¬ OX X₀ o ad da ∧ AccAt s.heap (ad x) da vs k i t ∧ RpL (OX X₀ o ad) s.heap ds vs.toList := by
  obtain ⟨g1, ⟨da, vs, k, t, hd, e, en, q⟩, g3⟩ := S.own _ hx
  exact ⟨Nat.le_trans S.n0 g1, da, vs, k, t, hd, ⟨e, en⟩, q⟩
theorem Stm.pushRow {x : Str} {p apos pos spos : Pos} {e1 e2 : Expr} {i : Int} {ds : List D} {a b : Str} (hx : (x, .acc i ds) ∈ o) (hd : (x == ("__debug__" : Str)) = false) (hl : ds.length ≤ 999) (h1 : EvS w (n + 1) sc r e1 (.str a)) (h2 : EvS w (n + 1) sc r e2 (.str b))
    (hbase : ∀ env, attributeBase (.Name x p) "push" env (eval (.Name x p) env) = eval (.Name x p) env := by intro _; rfl)
    (hst : ∀ env, starEach [e1, e2] env = (false, eval e1 env) :: starEach [e2] env := by intro _; rfl) (hst2 : ∀ env, starEach [e2] env = (false, eval e2 env) :: starEach [] env := by intro _; rfl)
    (he : ∀ env, ∃ pl : Sem Bool, eval (.Call (.Attribute (.Name x p) "push" apos) [e1, e2] [] pos) env = (do
      let ov ← attributeBase (.Name x p) "push" env (eval (.Name x p) env)
      standAt apos.atName
      let (f, first) ← holding [ov] (getMethod ov "push" pl)
      callWith pos f first (backTo pos (starEach [e1, e2] env)) []) := by intro _; exact ⟨_, rfl⟩) :
    Stm w (n + 1) sc r o (.Expr (.Call (.Attribute (.Name x p) "push" apos) [e1, e2] [] pos) spos) (.next r (setO x (.acc i (ds ++ [.tup [.str a, .str b]])) o)) := fun A n₀ X₀ Wb sb env s hs R S => by
  obtain ⟨ad, S⟩ := S
  have hi : interactive env = false := by
    unfold interactive; rw [S.vars.kind]; rfl
  refine wpAny_Expr ?_ hi
  refine methCall (hbase env) (fun pl => S.ownVal hx hd ?_) (he env)
  obtain ⟨P, XK⟩ := S.inv.kls
  obtain ⟨h196, da, vs, k, t, hda, a0, q⟩ := S.accOwn hx
  refine acc_getMethod XK a0 kc_push (.inl (kc_fn 101 (by simp))) (by decide +kernel) ?_
  obtain ⟨oc, od, fd, sl, ef⟩ := fnAt_of (p := (101, fdPU, 100)) (by walk_at "mem") S.inv
  have ee : backTo pos (starEach [e1, e2] env) = (false, eval e1 env) :: (false, eval e2 env) :: backTo pos [] := by rw [hst env, hst2 env]; rfl
  refine Calls.callWith_function (o := ⟨oc, od, .func fd, sl⟩) (fd := fd) ?_
  show wpAny _ A (evalArgs (.ref 101) true (backTo pos (starEach [e1, e2] env)) []) _ _ s
  rw [ee]
  refine Calls.evalArgs_plain (Calls.spliced_cons (wpAny_mono (h1 A s env _ hs R S.inv S.vars) (fun v1 s₁ q1 => ?_) fun _ _ z => z))
  obtain ⟨E1, I1, t1, rfl⟩ := q1
  have S1 := S.step E1 I1
  refine Calls.spliced_cons (wpAny_mono (h2 A s₁ env _ hs R I1 S1.vars) (fun v2 s₂ q2 => Calls.spliced_nil ?_) fun _ _ z => z)
  obtain ⟨E2, I2, t2, rfl⟩ := q2
  have S2 := S1.step E2 I2
  obtain ⟨h196, da, vs, k, t, hda, a0, q⟩ := S2.accOwn hx
  have ef2 : s₂.heap.get? 101 = some ⟨oc, od, .func fd, sl⟩ := (E1.trans E2).keep _ _ ef (S.inv.notTab ef (.inr (by nofun))) fun z => z
  have hlen := q.length
  simp only [Array.length_toList] at hlen
  refine ⟨⟨ef2, rfl⟩, push_core I2 S2.vars.bnd R a0 (by rw [hlen]; exact hl) h196 fun s' T k' m E I hTx hTX hT hx' => ⟨ad, S2.changeE hx E I ?_⟩⟩
  have xX : OX X₀ o ad (ad x) := .inr ⟨_, hx, rfl⟩
  have sk : SK (OX X₀ o ad) s₂.heap s'.heap := E.sk I2 fun a e => .inl (e ▸ xX)
  refine ⟨da, _, k', t, hda, hx', ?_, ?_⟩
  · obtain ⟨ob, es, ep, d1, d2, d3, d4⟩ := a0.ns
    exact ⟨ob, es, ep, sk da ob d1 (.inr (.inr ⟨es, ep, d2, by rw [d4]; simp [accM]⟩)) hda, d2, d3, d4⟩
  · rw [Array.toList_push]
    refine (q.keep sk).append (RpL.cons ?_ RpL.nil)
    unfold Rp
    exact ⟨T, _, m, rfl, hTX, hT, RpL.cons ⟨_, rfl⟩ (RpL.cons ⟨_, rfl⟩ RpL.nil)⟩
theorem rpl_last {X : Addr → Prop} {h : Heap} {ds : List D} {d : D} {vs : List Value} (x : RpL X h (ds ++ [d]) vs) : ∃ us v, vs = us ++ [v] ∧ RpL X h ds us ∧ Rp X h d v := by
  induction ds generalizing vs with
  | nil =>
    obtain ⟨v, r, rfl, a, b⟩ := x.cons_inv
    have := b.nil_inv; subst this
    exact ⟨[], v, rfl, RpL.nil, a⟩
  | cons c ds ih =>
    obtain ⟨v, r, rfl, a, b⟩ := (show RpL X h (c :: (ds ++ [d])) vs from x).cons_inv
    obtain ⟨us, v', rfl, p, q⟩ := ih b
    exact ⟨v :: us, v', rfl, RpL.cons a p, q⟩
theorem Stm.popRow {x y : Str} {p py apos pos spos : Pos} {i : Int} {ds : List D} {d : D} (hx : (x, .acc i (ds ++ [d])) ∈ o) (hd : (x == ("__debug__" : Str)) = false) (hl : ds.length ≤ 900) (k : StoreOk sc o y)
    (hbase : ∀ env, attributeBase (.Name x p) "pop" env (eval (.Name x p) env) = eval (.Name x p) env := by intro _; rfl)
    (he : ∀ env, ∃ pl : Sem Bool, eval (.Call (.Attribute (.Name x p) "pop" apos) [] [] pos) env = (do
      let ov ← attributeBase (.Name x p) "pop" env (eval (.Name x p) env)
      standAt apos.atName
      let (f, first) ← holding [ov] (getMethod ov "pop" pl)
      callWith pos f first (backTo pos (starEach [] env)) []) := by intro _; exact ⟨_, rfl⟩)
    (hsw : ∀ env : Env, env.scope = sc → swapsWith (.Call (.Attribute (.Name x p) "pop" apos) [] [] pos) (some (.Name y py)) spos.line env = pure false := by intro _ _; rfl) :
    Stm w (n + 2) sc r o (.Assign [.Name y py] (.Call (.Attribute (.Name x p) "pop" apos) [] [] pos) spos) (.next ((y, d) :: r) (setO x (.acc i ds) o)) := fun A n₀ X₀ Wb sb env s hs R S => by
  obtain ⟨ad, S⟩ := S
  refine wpAny_Assign_Name ?_ (hsw env hs)
  refine methCall (hbase env) (fun pl => S.ownVal hx hd ?_) (he env)
  obtain ⟨P, XK⟩ := S.inv.kls
  obtain ⟨h196, da, vs, kk, t, hda, a0, q⟩ := S.accOwn hx
  refine acc_getMethod XK a0 kc_pop (.inl (kc_fn 117 (by simp))) (by decide +kernel) ?_
  obtain ⟨oc, od, fd, sl, ef⟩ := fnAt_of (p := (117, fdPO, 116)) (by walk_at "mem") S.inv
  have hlen := q.length
  simp only [Array.length_toList, List.length_append, List.length_cons, List.length_nil] at hlen
  obtain ⟨us, v, e1, q1, q2⟩ := rpl_last q
  refine Calls.callWith_function (PySem.evalArgs_none ⟨⟨ef, rfl⟩, pop_core S.inv R a0 (q.mono (fun _ y => y.elim) fun _ _ e _ _ => e) (v := v) (by rw [e1]; simp) (by rw [hlen]; omega) h196 fun s' vs' k' E I e2 hx' => ?_⟩)
  have xX : OX X₀ o ad (ad x) := .inr ⟨_, hx, rfl⟩
  have sk : SK (OX X₀ o ad) s.heap s'.heap := E.sk S.inv fun a e => .inl (e ▸ xX)
  have e3 : vs'.toList = us := by rw [e2, e1]; simp
  have S' := S.changeE (d' := .acc i ds) hx E I ⟨da, vs', k', t, hda, hx', by
    obtain ⟨ob, es, ep, d1, d2, d3, d4⟩ := a0.ns
    exact ⟨ob, es, ep, sk da ob d1 (.inr (.inr ⟨es, ep, d2, by rw [d4]; simp [accM]⟩)) hda, d2, d3, d4⟩, by rw [e3]; exact q1.keep sk⟩
  refine wpAny_mono (S'.store (x := y) (d := d) (by rw [OX_setO]; exact q2.keep sk) hs k.k k.i fun p hp => ?_) (fun _ s'' q' => ⟨ad, q'⟩) fun _ _ z => z
  have : p.1 ∈ (setO x (.acc i ds) o).map (·.1) := List.mem_map.mpr ⟨p, hp, rfl⟩
  rw [setO_names] at this
  obtain ⟨p', hp', e⟩ := List.mem_map.mp this
  rw [← e]; exact k.o p' hp'
end
end
section
-- I3
variable {w : World}
open PySem.Calls Builtin Builtin.ObjectAttr
section
variable {n : Nat} {sc : Scope} {r o : VL}
set_option maxHeartbeats 400000 in
theorem Stm.triple {x1 x2 x3 : Str} {p1 p2 p3 lp1 lp2 cp tp vp pos : Pos} {k1 k2 ck : Nat} {e1 : Expr} {b : Bool} {y : Str} (h1 : EvS w n sc (o ++ r) e1 (.bool b))
    (hk1 : sc.names.lookup x1 = some .local) (hk2 : sc.names.lookup x2 = some .local) (hk3 : sc.names.lookup x3 = some .local) (hd : x1 ≠ x2 ∧ x1 ≠ x3 ∧ x2 ≠ x3) (hi : iniS ≠ x1 ∧ iniS ≠ x2 ∧ iniS ≠ x3)
    (ho : ∀ p ∈ o, p.1 ≠ x1 ∧ p.1 ≠ x2 ∧ p.1 ≠ x3) (hr : r.lookup x1 = none ∧ r.lookup x2 = none)
    (hst : ∀ env, starEach [e1] env = (false, eval e1 env) :: starEach [] env := by intro _; rfl)
    (hw : ∀ env : Env, env.scope = sc → swappedStores [.Tuple [.Name x1 p1, .Name x2 p2, .Name x3 p3] k1 tp] (.Tuple [.List [e1] lp1, .List [] lp2, .Constant (.str y) ck cp] k2 vp) env = pure (some [x1, x2, x3]))
    (hsw : ∀ env : Env, env.scope = sc → swapsWithSole [.Tuple [.Name x1 p1, .Name x2 p2, .Name x3 p3] k1 tp] (.Tuple [.List [e1] lp1, .List [] lp2, .Constant (.str y) ck cp] k2 vp) pos.line env = pure false := by intro _ _; rfl) :
    Stm w n sc r o (.Assign [.Tuple [.Name x1 p1, .Name x2 p2, .Name x3 p3] k1 tp] (.Tuple [.List [e1] lp1, .List [] lp2, .Constant (.str y) ck cp] k2 vp) pos) (.next ((x3, .str y) :: r) ((x1, .list [.bool b]) :: (x2, .list []) :: o)) := fun A n₀ X₀ Wb sb env s hs R S => by
  obtain ⟨ad, S⟩ := S
  have kk1 := kindOf_eq hs hk1
  have kk2 := kindOf_eq hs hk2
  have kk3 := kindOf_eq hs hk3
  refine Assign_Tuple_swapped ?_ (hsw env hs) (hw env hs)
  refine wpAny_Tuple_spliced (x1 := k2) ?_
  show wpAny _ A (spliced ((false, eval (.List [e1] lp1) env) :: (false, eval (.List [] lp2) env) :: (false, eval (.Constant (.str y) ck cp) env) :: [])) _ _ s
  refine Calls.spliced_cons (wpAny_List_spliced ?_)
  have ee : backTo lp1 (starEach [e1] env) = (false, eval e1 env) :: [] := by rw [hst env]; rfl
  rw [ee]
  refine Calls.spliced_cons (wpAny_mono (h1 A s env X₀ hs R S.inv S.frz) (fun v1 s₁ q1 => Calls.spliced_nil ⟨by simp [sizeLine], ?_⟩) fun _ _ z => z)
  obtain ⟨E1, I1, hv1⟩ := q1
  have hv1 : v1 = .bool b := hv1
  subst hv1
  refine Calls.spliced_cons (wpAny_List_spliced (Calls.spliced_nil ⟨by simp, ?_⟩))
  refine Calls.spliced_cons (wpAny_Constant_str (Calls.spliced_nil ⟨by simp [sizeLine], ?_⟩))
  obtain ⟨m, nm, mi, hm⟩ := S.vars.ns
  have big := I1.big
  generalize ha1 : s₁.heap.objs.size = a1 at *
  have z1 : (s₁.heap.push (LObj #[.bool b] 0)).objs.size = a1 + 1 := by rw [Heap.size_push, ha1]
  have z2 : ((s₁.heap.push (LObj #[.bool b] 0)).push (LObj #[] 0)).objs.size = a1 + 2 := by rw [Heap.size_push, z1]
  simp only [z1, z2]
  have g1 : (((s₁.heap.push (LObj #[.bool b] 0)).push (LObj #[] 0)).push (TObj #[.ref a1, .ref (a1 + 1), .str y s₁.toks] 0)).get? a1 = some (LObj #[.bool b] 0) :=
    Heap.get?_push_of_some _ (Heap.get?_push_of_some _ (by rw [← ha1]; exact Heap.get?_push_size _ rfl))
  have g2 : (((s₁.heap.push (LObj #[.bool b] 0)).push (LObj #[] 0)).push (TObj #[.ref a1, .ref (a1 + 1), .str y s₁.toks] 0)).get? (a1 + 1) = some (LObj #[] 0) :=
    Heap.get?_push_of_some _ (by rw [← z1]; exact Heap.get?_push_size _ rfl)
  have g3 : (((s₁.heap.push (LObj #[.bool b] 0)).push (LObj #[] 0)).push (TObj #[.ref a1, .ref (a1 + 1), .str y s₁.toks] 0)).get? (a1 + 2) = some (TObj #[.ref a1, .ref (a1 + 1), .str y s₁.toks] 0) := by
    rw [← z2]; exact Heap.get?_push_size _ rfl
  have keep0 : ∀ b' o', s₁.heap.get? b' = some o' → (((s₁.heap.push (LObj #[.bool b] 0)).push (LObj #[] 0)).push (TObj #[.ref a1, .ref (a1 + 1), .str y s₁.toks] 0)).get? b' = some o' := fun b' o' e =>
    Heap.get?_push_of_some _ (Heap.get?_push_of_some _ (Heap.get?_push_of_some _ e))
  generalize hH : ((s₁.heap.push (LObj #[.bool b] 0)).push (LObj #[] 0)).push (TObj #[.ref a1, .ref (a1 + 1), .str y s₁.toks] 0) = H at *
  have hTI : H.IsTuple (a1 + 2) #[.ref a1, .ref (a1 + 1), .str y s₁.toks] := ⟨_, g3, rfl, 0, rfl⟩
  have aL : env.locals < a1 := by rw [← ha1]; exact (E1.ns S.inv nm).lt
  have un := @wpAny_unpackItems_tuple PRG w A (fun _ _ => False) { s₁ with heap := H, toks := s₁.toks + 1 } (a1 + 2) #[.ref a1, .ref (a1 + 1), .str y s₁.toks]
  simp only [List.size_toArray, List.length_cons, List.length_nil] at un ⊢
  refine un R.handled hTI fun h' hb => ?_
  have keep1 : ∀ b' o', H.get? b' = some o' → h'.get? b' = some o' := fun b' o' e => hb b' o' (Nat.ne_of_lt (Heap.lt_size e)) e
  have keep2 : ∀ b' o', s₁.heap.get? b' = some o' → h'.get? b' = some o' := fun b' o' e => keep1 _ _ (keep0 _ _ e)
  have I2 : Inv h' := I1.keeps keep2
  have E2 : ∀ tk, Eff s { s₁ with heap := h', toks := tk } := fun tk => E1.trans (Eff.of_keeps keep2)
  have nm2 : h'.Ns env.locals m := (E1.ns S.inv nm).keeps keep2
  have hp : (env.scope.kind == .class || (env.scope.kind == .module && env.locals != env.globals)) = false := by rw [S.vars.kind]; rfl
  show wpAny _ A (do holding [Value.ref (a1 + 1), .ref a1] (bindName env x3 (.str y s₁.toks)); (do holding [Value.ref a1] (bindName env x2 (.ref (a1 + 1))); (do holding [] (bindName env x1 (.ref a1)); pure ()))) _ _ _
  refine wpAny_bind (wpAny_holding (wpAny_bindName (wpAny_storeName_local kk3 nm2 (fun h3 n3 s3 => ?_) hp)))
  refine wpAny_bind (wpAny_holding (wpAny_bindName (wpAny_storeName_local kk2 n3 (fun h4 n4 s4 => ?_) hp)))
  refine wpAny_bind (wpAny_holding (wpAny_bindName (wpAny_storeName_local kk1 n4 (fun h5 n5 s5 => wpAny_pure ?_) hp)))
  have sb : Heap.SameBut env.locals h' h5 := ⟨s5.1.trans (s4.1.trans s3.1), fun b' hb' => (s5.2 b' hb').trans ((s4.2 b' hb').trans (s3.2 b' hb'))⟩
  let ad' : Str → Addr := fun z => if z = x1 then a1 else if z = x2 then a1 + 1 else ad z
  have ad1 : ad' x1 = a1 := if_pos rfl
  have ad2 : ad' x2 = a1 + 1 := by show (if x2 = x1 then a1 else if x2 = x2 then a1 + 1 else ad x2) = _; rw [if_neg (Ne.symm hd.1), if_pos rfl]
  have old : ∀ b', a1 ≤ b' → s.heap.get? b' = none := fun b' hb' => E1.fresh I1 (by rw [ha1]; exact hb')
  have g1' : h5.get? a1 = some (LObj #[.bool b] 0) := (sb.2 a1 (Nat.ne_of_gt aL)).trans (keep1 _ _ g1)
  have g2' : h5.get? (a1 + 1) = some (LObj #[] 0) := (sb.2 (a1 + 1) (Nat.ne_of_gt (Nat.lt_succ_of_lt aL))).trans (keep1 _ _ g2)
  refine ⟨ad', StA.finish (s' := { s₁ with heap := h', toks := 0 }) (pl := [(x3, .str y)]) (nw := [(x1, .list [.bool b]), (x2, .list [])]) S (E2 0) I2 nm sb n5 ?_ ⟨?_, ?_⟩ ?_ ?_ ?_ ?_ ?_⟩
  · intro z h1 h2
    have e1 : z ≠ x1 := fun q => h2 _ (.head _) q.symm
    have e2 : z ≠ x2 := fun q => h2 _ (.tail _ (.head _)) q.symm
    have e3 : z ≠ x3 := fun q => h1 _ (.head _) q.symm
    show (if z = x1 then _ else if z = x2 then _ else if z = x3 then _ else m z) = m z
    rw [if_neg e1, if_neg e2, if_neg e3]
  · intro q hq; simp only [List.mem_cons, List.not_mem_nil, or_false] at hq; subst hq; exact Ne.symm hi.2.2
  · intro q hq; simp only [List.mem_cons, List.not_mem_nil, or_false] at hq; rcases hq with rfl | rfl
    · exact Ne.symm hi.1
    · exact Ne.symm hi.2.1
  · intro q hq
    obtain ⟨o1, o2, o3⟩ := ho q hq
    show (if q.1 = x1 then _ else if q.1 = x2 then _ else ad q.1) = _
    rw [if_neg o1, if_neg o2]
  · intro q hq; simp only [List.mem_cons, List.not_mem_nil, or_false] at hq; subst hq
    refine ⟨kk3, fun q hq => (ho q hq).2.2, .str y s₁.toks, ?_, s₁.toks, rfl⟩
    show (if x3 = x1 then _ else if x3 = x2 then _ else if x3 = x3 then _ else m x3) = _
    rw [if_neg (Ne.symm hd.2.1), if_neg (Ne.symm hd.2.2), if_pos rfl]
  · intro q hq; simp only [List.mem_cons, List.not_mem_nil, or_false] at hq; rcases hq with rfl | rfl
    · show s.heap.get? (ad' x1) = none ∧ n₀ ≤ ad' x1 ∧ env.kindOf x1 = some .local ∧ _ = some (Value.ref (ad' x1)) ∧ OwnC _ h5 (ad' x1) _
      rw [ad1]
      refine ⟨old a1 (Nat.le_refl _), Nat.le_trans S.lowL (Nat.le_of_lt aL), kk1, ?_, #[.bool b], 0, g1', RpL.cons rfl RpL.nil⟩
      show (if x1 = x1 then _ else _) = _
      rw [if_pos rfl]
    · show s.heap.get? (ad' x2) = none ∧ n₀ ≤ ad' x2 ∧ env.kindOf x2 = some .local ∧ _ = some (Value.ref (ad' x2)) ∧ OwnC _ h5 (ad' x2) _
      rw [ad2]
      refine ⟨old _ (Nat.le_succ _), Nat.le_trans S.lowL (Nat.le_of_lt (Nat.lt_succ_of_lt aL)), kk2, ?_, #[], 0, g2', RpL.nil⟩
      show (if x2 = x1 then _ else if x2 = x2 then _ else _) = _
      rw [if_neg (Ne.symm hd.1), if_pos rfl]
  · intro q hq; simp only [List.mem_cons, List.not_mem_nil, or_false] at hq; rcases hq with rfl | rfl
    · refine ⟨fun q hq => (ho q hq).1, hr.1, fun q hq => ?_⟩
      simp only [List.mem_cons, List.not_mem_nil, or_false] at hq; subst hq; exact Ne.symm hd.2.1
    · refine ⟨fun q hq => (ho q hq).2.1, hr.2, fun q hq => ?_⟩
      simp only [List.mem_cons, List.not_mem_nil, or_false] at hq; subst hq; exact Ne.symm hd.2.2
  · refine List.pairwise_cons.mpr ⟨fun q hq => ?_, List.pairwise_cons.mpr ⟨(fun _ h => nomatch h), .nil⟩⟩
    simp only [List.mem_cons, List.not_mem_nil, or_false] at hq; subst hq
    refine ⟨hd.1, ?_⟩
    show ad' x1 ≠ ad' x2
    rw [ad1, ad2]; exact Nat.ne_of_lt (Nat.lt_succ_self _)
end
end
section
-- M1
variable {w : World}
open Builtin Builtin.Str
noncomputable def cl (s : Str) : List Nat := s.cps.toList
theorem cl_app (a b : Str) : cl (a ++ b) = cl a ++ cl b := by
  show (a.cps ++ b.cps).toList = _
  simp [cl]
theorem cl_inj {a b : Str} (h : cl a = cl b) : a = b := by
  cases a; cases b
  have : _ = _ := Array.toList_inj.mp h
  simp only at this
  rw [this]
theorem cl_len (a : Str) : a.length = (cl a).length := by simp [cl, Str.length]
theorem cl_join : ∀ l : List Str, cl (Txt.join Str.empty l) = l.flatMap cl := fun l => by
  show cl (glued _ l) = _
  rw [StrLaws.glued_eq_join]
  induction l with
  | nil => rfl
  | cons x r ih =>
    cases r with
    | nil => simp [Str.join, cl]
    | cons y r =>
      show cl (x ++ Str.empty ++ Str.join Str.empty (y :: r)) = _
      rw [cl_app, cl_app, ih, List.flatMap_cons]
      simp [cl, Str.empty]
noncomputable def pcl (q : Str × Str) : List Nat := cl q.1 ++ cl q.2
theorem cl_rowS (ps : List (Str × Str)) : cl (rowS ps) = ps.flatMap pcl := by
  unfold rowS
  rw [cl_join, List.flatMap_map]
  congr 1
  funext q
  rw [cl_join]; simp [pcl]
noncomputable def behS (ps : List (Str × Str)) : Nat → Str
  | 0 => Str.ofString ""
  | j + 1 => (ps.getD (ps.length - 1 - j) (Str.empty, Str.empty)).1 ++ (ps.getD (ps.length - 1 - j) (Str.empty, Str.empty)).2 ++ behS ps j
theorem cl_behS (ps : List (Str × Str)) : ∀ j : Nat, j ≤ ps.length → cl (behS ps j) = (ps.drop (ps.length - j)).flatMap pcl
  | 0, _ => by rw [Nat.sub_zero, List.drop_length]; rfl
  | j + 1, h => by
    have hj : ps.length - 1 - j < ps.length := by omega
    have e1 : ps.length - (j + 1) = ps.length - 1 - j := by omega
    have e2 : ps.length - 1 - j + 1 = ps.length - j := by omega
    show cl (_ ++ _ ++ behS ps j) = _
    rw [cl_app, cl_app, cl_behS ps j (by omega), e1, List.drop_eq_getElem_cons hj, List.flatMap_cons, e2]
    simp [pcl, List.getD_eq_getElem?_getD, List.getElem?_eq_getElem hj]
theorem behS_all (ps : List (Str × Str)) : behS ps ps.length = rowS ps := cl_inj (by rw [cl_behS ps _ (Nat.le_refl _), Nat.sub_self, List.drop_zero, cl_rowS])
noncomputable def wordS (ps : List (Str × Str)) (j : Nat) : Str := rowS (ps.take (ps.length - 1 - j)) ++ Str.ofString "#" ++ behS ps j
theorem cl_wordS (ps : List (Str × Str)) (j : Nat) (h : j ≤ ps.length) : cl (wordS ps j) = (ps.take (ps.length - 1 - j)).flatMap pcl ++ [35] ++ (ps.drop (ps.length - j)).flatMap pcl := by
  unfold wordS
  rw [cl_app, cl_app, cl_rowS, cl_behS ps j h]
  rfl
theorem strOk_of {s : Str} (h : ∀ c ∈ cl s, c < 0x110000) : PyData.strOk s = true := by
  unfold PyData.strOk
  rw [Array.all_eq_true']
  intro c hc
  simpa using h c (by simpa [cl] using hc)
noncomputable def pcs (figs : List Int) : List (Str × Str) := figs.map fun f => (Txt.mul (Str.ofString " ") f, Str.ofString ".")
theorem cl_sp (f : Int) : cl (Txt.mul (Str.ofString " ") f) = List.replicate f.toNat 32 := by
  unfold Txt.mul
  by_cases h : f < 1
  · rw [if_pos h, show f.toNat = 0 by omega]; rfl
  · rw [if_neg h]
    by_cases h1 : f = 1
    · subst h1; rfl
    · have : (f == 1 || (Str.ofString " ").length == 0) = false := by
        rw [Bool.or_eq_false_iff]; exact ⟨by simpa using h1, rfl⟩
      rw [this, if_neg (by decide)]
      have key : ∀ (k : Nat) (acc : Array Nat), ((List.replicate k (Str.ofString " ").cps).foldl (· ++ ·) acc).toList = acc.toList ++ List.replicate k 32 := by
        intro k
        induction k with
        | zero => intro acc; simp
        | succ k ih =>
          intro acc
          rw [List.replicate_succ, List.foldl_cons, ih, Array.toList_append]
          rw [show (Str.ofString " ").cps.toList = [32] from rfl, List.append_assoc, List.replicate_succ]; rfl
      have := key f.toNat #[]
      simpa [cl] using this
noncomputable def fcl (f : Int) : List Nat := List.replicate f.toNat 32 ++ [46]
theorem pcl_pc (f : Int) : pcl (Txt.mul (Str.ofString " ") f, Str.ofString ".") = fcl f := by
  unfold pcl fcl; rw [cl_sp]; rfl
theorem pcs_flat (figs : List Int) : (pcs figs).flatMap pcl = figs.flatMap fcl := by
  unfold pcs; rw [List.flatMap_map]; congr 1; funext f; exact pcl_pc f
theorem fcl_ok (figs : List Int) : ∀ c ∈ figs.flatMap fcl, c = 32 ∨ c = 46 := fun c hc => by
  obtain ⟨f, _, h⟩ := List.mem_flatMap.mp hc
  rcases List.mem_append.mp h with h | h
  · exact .inl (List.eq_of_mem_replicate h)
  · exact .inr (by simpa using h)
theorem pcs_take (figs : List Int) (k : Nat) : (pcs figs).take k = pcs (figs.take k) := by unfold pcs; rw [List.map_take]
theorem pcs_drop (figs : List Int) (k : Nat) : (pcs figs).drop k = pcs (figs.drop k) := by unfold pcs; rw [List.map_drop]
theorem pcs_len (figs : List Int) : (pcs figs).length = figs.length := by simp [pcs]
theorem pcs_small {figs : List Int} (h : ∀ f ∈ figs, f ≤ 1000) : ∀ q ∈ pcs figs, q.1.length ≤ 1000 ∧ q.2.length ≤ 1000 := fun q hq => by
  obtain ⟨f, hf, rfl⟩ := List.mem_map.mp hq
  have := h f hf
  refine ⟨?_, by show (1 : Nat) ≤ 1000; decide⟩
  rw [cl_len, cl_sp, List.length_replicate]; omega
theorem lenI_pcs : ∀ figs : List Int, (∀ f ∈ figs, 0 ≤ f) → lenI (pcs figs) = figs.sum + figs.length
  | [], _ => rfl
  | f :: figs, h => by
    have ih := lenI_pcs figs fun g hg => h g (.tail _ hg)
    have h0 := h f (.head _)
    show (List.map _ (pcs (f :: figs))).sum = _
    show (((Txt.mul (Str.ofString " ") f).length + 1 : Nat) : Int) + lenI (pcs figs) = _
    rw [ih, cl_len, cl_sp, List.length_replicate, List.sum_cons, List.length_cons]
    push_cast
    omega
theorem wsB_full {i : Int} {figs : List Int} (h0 : figs ≠ []) (hf : ∀ f ∈ figs, 0 ≤ f) (hi : 0 ≤ i) : wsB i (pcs figs) = false := by
  unfold wsB
  have e1 := lenI_pcs figs hf
  have hs : 0 ≤ figs.sum := by
    clear e1 h0
    induction figs with
    | nil => exact Int.le_refl _
    | cons f r ih => rw [List.sum_cons]; have := hf f (.head _); have := ih fun g hg => hf g (.tail _ hg); omega
  have hl : 0 < figs.length := List.length_pos_iff.mpr h0
  have e2 : ((i + lenI (pcs figs)) != 0) = true := by rw [e1]; simp; omega
  rw [e2]
  have : (rowS (pcs figs)).cps.all Unicode.isSpace = false := by
    rw [Bool.eq_false_iff]
    intro h
    rw [Array.all_eq_true'] at h
    obtain ⟨f, r, rfl⟩ := List.exists_cons_of_ne_nil h0
    have hm : (46 : Nat) ∈ cl (rowS (pcs (f :: r))) := by
      rw [cl_rowS, pcs_flat, List.flatMap_cons]
      exact List.mem_append_left _ (List.mem_append_right _ (.head _))
    have := h 46 (by simpa [cl] using hm)
    revert this; decide +kernel
  rw [this]; simp
theorem wsB_empty {i : Int} : wsB i [] = (i == 0) := by
  unfold wsB
  cases h : (i == 0) with
  | false => rfl
  | true =>
    have : i = 0 := by simpa using h
    subst this; rfl
end
section
-- I4
variable {w : World}
open PySem.Calls
section
variable {n : Nat} {sc : Scope} {r : VL}
noncomputable def OrT (w : World) (n : Nat) (sc : Scope) (r : VL) (xs : List Expr) (b : Bool) : Prop :=
  ∀ (A : Around) (s : Shared) (env : Env) (X : Addr → Prop), env.scope = sc → Rm n A → Inv s.heap → Vars X env r s.heap →
    wpAny (model PRG w) A (allTrue .Or xs env) (fun t s' => t = b ∧ Eff s s' ∧ Inv s'.heap) (fun _ _ => False) s
theorem OrT.nil : OrT w n sc r [] false := fun A s env X hs R I V => wpAny_allTrue_Or_nil ⟨rfl, EffM.refl _ s, I⟩
theorem OrT.cons {x : Expr} {xs : List Expr} {b : Bool} (hx : TstS w n sc r x false) (h : OrT w n sc r xs b) : OrT w n sc r (x :: xs) b := fun A s env X hs R I V => by
  refine wpAny_allTrue_Or_cons (wpAny_mono (hx A s env X hs R I V) (fun t s₁ p => ?_) fun _ _ x => x)
  obtain ⟨rfl, p1, p2⟩ := p
  refine wpAny_mono (h A s₁ env X hs R p2 (V.eff p1 I)) (fun t s₂ q => ?_) fun _ _ x => x
  exact ⟨q.1, p1.trans q.2.1, q.2.2⟩
theorem TstS.orT {xs : List Expr} {b : Bool} {pos : Pos} (h : OrT w n sc r xs b) : TstS w n sc r (.BoolOp .Or xs pos) b := fun A s env X hs R I V => wpAny_isTrue_BoolOp (h A s env X hs R I V)
theorem CmpS.neI' {a b : Int} (h : a = b) : CmpS w n .NotEq (.int a) (.int b) (.bool false) := by
  have := CmpS.neI (w := w) (n := n) (a := a) (b := b)
  rw [show (a != b) = false by simp [h]] at this; exact this
theorem CmpS.neI'' {a b : Int} (h : a ≠ b) : CmpS w n .NotEq (.int a) (.int b) (.bool true) := by
  have := CmpS.neI (w := w) (n := n) (a := a) (b := b)
  rw [show (a != b) = true by simp [h]] at this; exact this
end
noncomputable def figsOf (k N a : Nat) : List Int := List.replicate (N - digN k a) 0 ++ (digs k a).reverse
noncomputable def wordsD (k N : Nat) (i : Int) (a : Nat) : List D := .str (rowS (pcs (figsOf k N a))) :: .int (i + lenI (pcs (figsOf k N a)) - i - (figsOf k N a).length) :: (List.range N).map fun j => .str (wordS (pcs (figsOf k N a)) j)
theorem digN_fit {k N a : Nat} (hk : 0 < k) (h : a < 2 ^ (k * N)) : digN k a ≤ N := by
  unfold digN
  have h1 : bitlen a ≤ k * N := bitlen_le h
  have : (bitlen a + k - 1) / k < N + 1 := by
    rw [Nat.div_lt_iff_lt_mul hk, Nat.add_mul, Nat.one_mul, Nat.mul_comm N k]; omega
  omega
theorem figs_len {k N a : Nat} (hk : 0 < k) (h : a < 2 ^ (k * N)) : (figsOf k N a).length = N := by
  have := digN_fit hk h
  unfold figsOf
  rw [List.length_append, List.length_replicate, List.length_reverse, digs_len]; omega
theorem figs_ok {k N a : Nat} : ∀ f ∈ figsOf k N a, 0 ≤ f ∧ f < 2 ^ k := fun f hf => by
  unfold figsOf at hf
  rcases List.mem_append.mp hf with h | h
  · rw [List.eq_of_mem_replicate h]; exact ⟨Int.le_refl _, Int.pow_pos (by decide)⟩
  · exact digs_lt f (List.mem_reverse.mp h)
theorem digs_top {k a : Nat} (hk : 0 < k) (h : 0 < a) : ∃ r t, digs k a = r ++ [t] ∧ t ≠ 0 := by
  have hb : bitlen a = a.log2 + 1 := by unfold bitlen; rw [if_neg (by omega)]
  have h1 : a.log2 / k + 1 = digN k a := by
    unfold digN
    rw [hb, show a.log2 + 1 + k - 1 = a.log2 + k by omega, Nat.add_div_right _ hk]
  refine ⟨(List.range (a.log2 / k)).map fun j => ((a / 2 ^ (k * j) % 2 ^ k : Nat) : Int), ((a / 2 ^ (k * (a.log2 / k)) % 2 ^ k : Nat) : Int), ?_, ?_⟩
  · unfold digs
    rw [← h1, List.range_succ, List.map_append]; rfl
  · have h2 : k * (a.log2 / k) ≤ a.log2 := Nat.mul_div_le _ _
    have h3 : 2 ^ (k * (a.log2 / k)) ≤ a := Nat.le_trans (Nat.pow_le_pow_right (by decide) h2) (Nat.log2_self_le (by omega))
    have h4 : a < 2 ^ (k * (a.log2 / k) + k) := by
      refine Nat.lt_of_lt_of_le (Nat.lt_log2_self (n := a)) (Nat.pow_le_pow_right (by decide) ?_)
      have := Nat.mod_lt a.log2 hk
      have := Nat.div_add_mod a.log2 k
      omega
    have h5 : 0 < a / 2 ^ (k * (a.log2 / k)) := Nat.div_pos h3 (Nat.pow_pos (by decide))
    have h6 : a / 2 ^ (k * (a.log2 / k)) < 2 ^ k := by
      rw [Nat.div_lt_iff_lt_mul (Nat.pow_pos (by decide)), ← Nat.pow_add, Nat.add_comm]; exact h4
    rw [Nat.mod_eq_of_lt h6]
    omega
end
section
-- I5
variable {w : World}
open PySem.Calls
noncomputable def toP : D → Str × Str
  | .tup [.str a, .str b] => (a, b)
  | _ => (Str.empty, Str.empty)
theorem mulOk_sp {f : Int} (h0 : 0 ≤ f) (h : f ≤ 1000) : MulOk (Str.ofString " ") f := by
  have e : (Str.ofString " ").length = 1 := rfl
  refine ⟨?_, fun h1 _ => ?_, fun h1 _ => ?_⟩
  · rw [Bool.or_eq_false_iff]
    exact ⟨decide_eq_false (by omega), decide_eq_false (by omega)⟩
  · rw [e]
    have : (1 : Int) ≤ (2 ^ 63 - 1) / f := by
      rw [Int.le_ediv_iff_mul_le (by omega)]; omega
    omega
  · rw [e]
    refine decide_eq_false ?_
    have : (sizeLine : Nat) = 16777216 := by first | rfl | decide
    omega
theorem rowS_len (ps : List (Str × Str)) : ((rowS ps).length : Int) = lenI ps := by
  rw [cl_len, cl_rowS]
  induction ps with
  | nil => rfl
  | cons q r ih =>
    rw [List.flatMap_cons, List.length_append]
    show _ = (((q.1.length + q.2.length : Nat) : Int)) + lenI r
    rw [← ih, pcl, List.length_append, cl_len, cl_len]
    push_cast; rfl
theorem behS_eq (ps : List (Str × Str)) (j : Nat) (h : j ≤ ps.length) : behS ps j = rowS (ps.drop (ps.length - j)) := cl_inj (by rw [cl_behS ps j h, cl_rowS])
theorem isD_row {ps : List (Str × Str)} (h : ∀ q ∈ ps, PyData.strOk q.1 = true ∧ PyData.strOk q.2 = true) : isD 60 (.list (ps.map prD)) = true := by
  show isDs 59 (ps.map prD) = true
  induction ps with
  | nil => rfl
  | cons q r ih =>
    obtain ⟨a, b⟩ := h q (.head _)
    rw [List.map_cons]
    simp only [isDs, Bool.and_eq_true]
    refine ⟨?_, ih fun z hz => h z (.tail _ hz)⟩
    show isDs 58 [.str q.1, .str q.2] = true
    simp [isDs, isD, a, b]
noncomputable abbrev fdLW : FuncData := fdT 18 "_law_words" pmW 172
theorem words_S {n : Nat} {a k N : Nat} {i : Int} (hb : k = 1 ∧ N = 6 ∨ k = 2 ∧ N = 3 ∨ k = 3 ∧ N = 2) (ha : a < 64) (hi : i = 0 ∨ i = 1 ∨ i = 2 ∨ i = 3) : CallS w (n + 12) (.ref 173) [.int (a : Nat), .int (k : Nat), .int i] (.list (wordsD k N i a)) := by
  have hk0 : 0 < k := by omega
  have hkN : k * N = 6 := by rcases hb with ⟨rfl, rfl⟩ | ⟨rfl, rfl⟩ | ⟨rfl, rfl⟩ <;> rfl
  have ha' : a < 2 ^ (k * N) := by rw [hkN]; exact ha
  have hfl := figs_len hk0 ha'
  have hdn := digN_fit hk0 ha'
  have hfo := figs_ok (k := k) (N := N) (a := a)
  have hp8 : (2 : Int) ^ k ≤ 8 := by rcases hb with ⟨rfl, _⟩ | ⟨rfl, _⟩ | ⟨rfl, _⟩ <;> decide
  obtain ⟨figs, hfg⟩ : ∃ figs, figsOf k N a = figs := ⟨_, rfl⟩
  rw [hfg] at hfl hfo
  obtain ⟨fl, hdl⟩ : ∃ fl, digs k a = fl := ⟨_, rfl⟩
  have hfll : fl.length = digN k a := by rw [← hdl, digs_len]
  obtain ⟨ps, hps⟩ : ∃ ps, pcs figs = ps := ⟨_, rfl⟩
  have hpl : ps.length = N := by rw [← hps, pcs_len, hfl]
  have hN6 : N ≤ 6 := by omega
  have hsm : ∀ q ∈ ps, q.1.length ≤ 1000 ∧ q.2.length ≤ 1000 := by rw [← hps]; exact pcs_small fun f hf => by have := hfo f hf; omega
  have hsmT : ∀ m, ∀ q ∈ ps.take m, q.1.length ≤ 1000 ∧ q.2.length ≤ 1000 := fun m q hq => hsm q (List.mem_of_mem_take hq)
  let T0 : List D := [.str (rowS ps), .int (i + lenI ps - i - ps.length)]
  let r1 : VL := [("figures", .list (fl.map .int)), ("number", .int (a : Nat)), ("bits", .int (k : Nat)), ("head", .int i)]
  let r2 : VL := [("pieces", .list (ps.map prD)), ("figures", .list (fl.map .int)), ("number", .int (a : Nat)), ("bits", .int (k : Nat)), ("head", .int i)]
  let os4 : Nat → VL := fun j => [("row", .acc i ((ps.take j).map prD))]
  let rs7 : Nat → VL := fun j => [("behind", .str (behS ps j)), ("pieces", .list (ps.map prD)), ("figures", .list (fl.map .int)), ("number", .int (a : Nat)), ("bits", .int (k : Nat)), ("head", .int i)]
  let os7 : Nat → VL := fun j => [("white", .list [.bool (wsB i ps)]), ("popped", .list ((ps.reverse.take j).map prD)), ("told", .list (T0 ++ (List.range j).map fun m => .str (wordS ps m))), ("row", .acc i ((ps.take (N - j)).map prD))]
  have hres : wordsD k N i a = T0 ++ (List.range N).map fun m => .str (wordS ps m) := by
    unfold wordsD; rw [hfg, hps, hfl, ← hpl]; rfl
  refine CallS.fn (p := (173, fdLW, 172)) (xs := ["number", "bits", "head"]) (by walk_at "mem") (by walk_at "fnok") rfl (out := .ret (.list (wordsD k N i a))) rfl
    (Blk.cons (Stm.assign (d := .list (fl.map .int)) (.pure ?e1) (by walk_at "st") (by walk_at "sw"))
    (Blk.cons (r' := r2) (o' := []) ?e2
    (Blk.cons (r' := r2) (o' := os4 0) ?e3
    (Blk.cons (r' := r2) (o' := os4 N) ?e4
    (Blk.cons (r' := r2) (o' := ("told", .list T0) :: os4 N) ?e5
    (Blk.cons (r' := rs7 0) (o' := os7 0) ?e6
    (Blk.cons (r' := rs7 N) (o' := os7 N) ?e7
    (Blk.cons (Stm.skipIf (TstS.orT ?e8))
    (Blk.cons (Stm.skipIf (TstS.orT ?e9))
    (Blk.last (Stm.ret ?e10))))))))))) rfl
  case e1 =>
    refine EvS.call (fv := .ref 63) (by walk_at "name") (KeepOk.fn (p := (63, fdT 10 "_int2digits" pmP 62, 62)) (by walk_at "mem")) (by walk_at "evl") ?_
    have := (int2digits_S (w := w) (n := n + 1)) a k (Nat.lt_of_lt_of_le ha (by decide)) hk0 (by omega)
    rw [hdl] at this; exact this
  case e2 =>
    have e : ps.map prD = figs.map fun f => prD (Txt.mul (Str.ofString " ") f, Str.ofString ".") := by rw [← hps]; unfold pcs; rw [List.map_map]; rfl
    show Stm _ _ _ _ _ _ (.next (("pieces", .list (ps.map prD)) :: r1) [])
    rw [e]
    refine Stm.compT [] D.int toI (fun _ => rfl) figs _ ?it .list (by walk_at "capt") (by omega) (by walk_at "st") (fun f hf => ?_) (by walk_at "sw")
    case it =>
      have hrev : pick (fl.map D.int) none none (some (-1)) = fl.reverse.map D.int := by rw [pick_rev, List.map_reverse]
      have hz2 : (List.replicate (((N : Nat) : Int) - (fl.length : Nat)).toNat [D.int 0]).flatten = (List.replicate (N - fl.length) (0 : Int)).map D.int := by
        rw [show (((N : Nat) : Int) - (fl.length : Nat)).toNat = N - fl.length by omega]
        generalize N - fl.length = m
        induction m with
        | zero => rfl
        | succ m ih => rw [List.replicate_succ, List.replicate_succ, List.flatten_cons, ih]; rfl
      have e2 : figs.map D.int = (List.replicate (((N : Nat) : Int) - (fl.length : Nat)).toNat [D.int 0]).flatten ++ pick (fl.map D.int) none none (some (-1)) := by
        rw [hz2, hrev, ← List.map_append, ← hfg]; unfold figsOf; rw [hdl, ← hfll]
      rw [e2]
      have hfd : ((6 : Int)).fdiv (k : Nat) = (N : Nat) := by rcases hb with ⟨rfl, rfl⟩ | ⟨rfl, rfl⟩ | ⟨rfl, rfl⟩ <;> rfl
      have hd := BinS.fdiv (w := w) (n := n + 11) (a := 6) (b := (k : Nat)) (by omega) (by omega)
      rw [hfd] at hd
      have hlen := CallS.len (w := w) (n := n + 11) (ds := fl.map D.int) (by simp; omega)
      rw [List.length_map] at hlen
      refine EvS.bin (EvS.bin (by walk_at "ev") (EvS.bin (EvS.bin EvS.int (by walk_at "name") hd) (EvS.call (fv := .builtin "len") (by walk_at "name") KeepOk.bui (by walk_at "evl") hlen) BinS.sub) (BinS.mulL (by omega) (by omega) (by simp; omega))) ?sl (BinS.addL ?ln)
      case sl => exact EvS.slice (by walk_at "name") .none .none (.some (by walk_at "ev")) nofun (by simp [sizeLine]; omega)
      case ln => rw [hz2, hrev]; simp [sizeLine]; omega
    have := hfo f hf
    exact EvS.tupD (EvL.cons (EvS.bin EvS.str (by walk_at "name") (BinS.mulS (mulOk_sp this.1 (by omega)))) (by walk_at "evl") (by intro _; rfl)) (by simp [sizeLine])
  case e3 =>
    exact Stm.newRow (n := n + 9) (by walk_at "name") (by rfl) (by decide) (fun _ h => nomatch h) (by rfl) (by walk_at "name")
  case e4 =>
    have hlp : (ps.map prD).length = N := by rw [List.length_map, hpl]
    rw [show os4 N = os4 (ps.map prD).length by rw [hlp]]
    let rt : Nat → VL := fun i => match ps[i]? with | some q => (("point", .str q.2) :: ("blanks", .str q.1) :: r2 : VL) | none => r2
    refine Stm.for (fun _ => r2) os4 rt (di := .list (ps.map prD)) (by walk_at "name") .list (.inr ⟨_, _, _, rfl⟩) (Sub.refl _) rfl ?ht ?hbd
    case ht =>
      intro j d hd
      rw [List.getElem?_map] at hd
      cases hq : ps[j]? with
      | none => rw [hq] at hd; cases hd
      | some q =>
        rw [hq] at hd; cases hd
        simp only [rt, hq]
        exact TgtS.tuple (xs := ["blanks", "point"]) (ds := [.str q.1, .str q.2]) (.cons (.cons .nil)) (fun y hy => by simp at hy; rcases hy with rfl | rfl <;> walk_at "st") rfl
    case hbd =>
      intro j d hd
      rw [List.getElem?_map] at hd
      cases hq : ps[j]? with
      | none => rw [hq] at hd; cases hd
      | some q =>
        simp only [rt, hq]
        have hj : j < ps.length := by
          rcases Nat.lt_or_ge j ps.length with h | h
          · exact h
          · rw [List.getElem?_eq_none h] at hq; cases hq
        have e : os4 (j + 1) = setO "row" (.acc i ((ps.take j).map prD ++ [.tup [.str q.1, .str q.2]])) (os4 j) := by
          show ([("row", .acc i ((ps.take (j + 1)).map prD))] : VL) = setO _ _ [("row", _)]
          rw [setO_one, List.take_succ_eq_append_getElem hj, List.map_append]
          rw [List.getElem?_eq_getElem hj] at hq
          cases hq; rfl
        rw [e]
        refine Blk.weak (Blk.cons (r' := ("point", .str q.2) :: ("blanks", .str q.1) :: r2) (Stm.pushRow (n := n + 10) (.head _) (by rfl) (by simp; omega) (by walk_at "name") (by walk_at "name")) Blk.nil) (by walk_at "sub")
  case e5 =>
    have htk : os4 N = ([("row", .acc i (ps.map prD))] : VL) := by show ([("row", .acc i ((ps.take N).map prD))] : VL) = _; rw [← hpl, List.take_length]
    rw [htk]
    have hlb := lenI_le ps hsm
    have hln := lenI_nn ps
    refine Stm.newList ?el (fun d hd => by simp only [T0, List.mem_cons, List.not_mem_nil, or_false] at hd; rcases hd with rfl | rfl; exact .str; exact .int) (by simp [T0, sizeLine]) (by rfl) (by decide) (fun p hp => by simp only [List.mem_cons, List.not_mem_nil, or_false] at hp; subst hp; dsimp only; decide) (by rfl)
    have hpc := part_count_S (w := w) (n := n + 10) (i := i) (ds := ps.map prD)
    rw [List.length_map] at hpc
    refine EvL.cons (EvS.call (fv := .type "str") (by walk_at "name") KeepOk.typ (by walk_at "evl") (CallS.strAcc (n := n + 9) (str_S (by omega) hsm))) (EvL.cons ?_ EvL.nil (by intro _; rfl)) (by intro _; rfl)
    refine EvS.bin (EvS.bin (EvS.call (fv := .builtin "len") (by walk_at "name") KeepOk.bui (by walk_at "evl") (CallS.lenAcc (n := n + 10) (len_S hi hsm) (by omega) (by omega))) (by walk_at "name") BinS.sub) ?_ BinS.sub
    exact EvS.accMeth (by walk_at "name") (fun _ => kc_pc) (by simp) (by decide +kernel) hpc (fun _ I => fnAt_of (p := (154, fdPC, 153)) (by walk_at "mem") I)
  case e6 =>
    have htk : os4 N = ([("row", .acc i (ps.map prD))] : VL) := by show ([("row", .acc i ((ps.take N).map prD))] : VL) = _; rw [← hpl, List.take_length]
    have e7 : os7 0 = (("white", .list [.bool (wsB i ps)]) :: ("popped", .list []) :: ("told", .list T0) :: os4 N : VL) := by
      show ([_, ("popped", .list ((ps.reverse.take 0).map prD)), ("told", .list (T0 ++ (List.range 0).map fun m => .str (wordS ps m))), ("row", .acc i ((ps.take (N - 0)).map prD))] : VL) = _
      rw [Nat.sub_zero, List.range_zero, List.map_nil, List.append_nil, List.take_zero, List.map_nil]
    rw [e7, htk]
    refine Stm.triple ?h1 (by rfl) (by rfl) (by rfl) (by decide) (by decide) ?ho ⟨by rfl, by rfl⟩ (by intro _; rfl) ?hw
    case h1 => exact EvS.accMeth (by walk_at "name") (fun _ => kc_ws) (by simp) (by decide +kernel) (ws_S (n := n + 6) hi (by omega) hsm) (fun _ I => fnAt_of (p := (146, fdWS, 145)) (by walk_at "mem") I)
    case ho => intro p hp; simp only [List.mem_cons, List.not_mem_nil, or_false] at hp; rcases hp with rfl | rfl <;> dsimp only <;> decide
    case hw => intro env hs; cases env; cases hs; rfl
  case e7 =>
    have hrl : ∀ m, ((rowS (ps.take m)).length : Int) ≤ 12000 := fun m => by
      have := lenI_le (ps.take m) (hsmT m)
      rw [rowS_len]
      have : (ps.take m).length ≤ 6 := by rw [List.length_take]; omega
      omega
    have hbl : ∀ j, j ≤ N → ((behS ps j).length : Int) ≤ 12000 := fun j hj => by
      have := lenI_le (ps.drop (ps.length - j)) fun q hq => hsm q (List.mem_of_mem_drop hq)
      rw [behS_eq ps j (by omega), rowS_len]
      have : (ps.drop (ps.length - j)).length ≤ 6 := by rw [List.length_drop]; omega
      omega
    have hsl : (sizeLine : Nat) = 16777216 := rfl
    have hpcj : ∀ j : Nat, CallS w (n + 11) (.ref 154) [.acc i ((ps.take (N - j)).map prD)] (.int ((N - j : Nat) : Int)) := fun j => by
      have hpc := part_count_S (w := w) (n := n + 10) (i := i) (ds := (ps.take (N - j)).map prD)
      rw [List.length_map, List.length_take, hpl, Nat.min_eq_left (Nat.sub_le _ _)] at hpc
      exact hpc
    refine Stm.while rs7 os7 N (Sub.refl _) rfl ?ht ?hf ?hbd
    case ht =>
      intro j hj
      refine TstS.cmp (b := .int 0) (EvS.accMeth (by walk_at "name") (fun _ => kc_pc) (by simp) (by decide +kernel) (hpcj j) (fun _ I => fnAt_of (p := (154, fdPC, 153)) (by walk_at "mem") I)) EvS.int ?_
      have := CmpS.gtI (w := w) (n := n + 11) (a := ((N - j : Nat) : Int)) (b := 0)
      rw [decide_eq_true (show (0 : Int) < ((N - j : Nat) : Int) by omega)] at this
      exact this
    case hf =>
      refine TstS.cmp (b := .int 0) (EvS.accMeth (by walk_at "name") (fun _ => kc_pc) (by simp) (by decide +kernel) (hpcj N) (fun _ I => fnAt_of (p := (154, fdPC, 153)) (by walk_at "mem") I)) EvS.int ?_
      have := CmpS.gtI (w := w) (n := n + 11) (a := ((N - N : Nat) : Int)) (b := 0)
      rw [decide_eq_false (show ¬ (0 : Int) < ((N - N : Nat) : Int) by omega)] at this
      exact this
    case hbd =>
      intro j hj
      have hjl : ps.length - 1 - j < ps.length := by omega
      obtain ⟨q, hq⟩ : ∃ q, ps.getD (ps.length - 1 - j) (Str.empty, Str.empty) = q := ⟨_, rfl⟩
      have hq' : ps[ps.length - 1 - j]? = some q := by rw [← hq, List.getD_eq_getElem?_getD, List.getElem?_eq_getElem hjl]; rfl
      have hqg : ps[ps.length - 1 - j] = q := by rw [List.getElem?_eq_getElem hjl] at hq'; cases hq'; rfl
      have htk : (ps.take (N - j)).map prD = (ps.take (ps.length - 1 - j)).map prD ++ [prD q] := by
        rw [show N - j = ps.length - 1 - j + 1 by omega, List.take_succ_eq_append_getElem hjl, hqg, List.map_append]; rfl
      have hrv : (ps.reverse.take (j + 1)).map prD = (ps.reverse.take j).map prD ++ [prD q] := by
        have hj2 : j < ps.reverse.length := by rw [List.length_reverse]; omega
        rw [List.take_succ_eq_append_getElem hj2, List.map_append, List.getElem_reverse, hqg]; rfl
      have hbh : behS ps (j + 1) = q.1 ++ q.2 ++ behS ps j := by show (ps.getD _ _).1 ++ (ps.getD _ _).2 ++ _ = _; rw [hq]
      have hwd : wordS ps j = rowS (ps.take (ps.length - 1 - j)) ++ Str.ofString "#" ++ behS ps j := rfl
      have hrg : (List.range (j + 1)).map (fun m => D.str (wordS ps m)) = (List.range j).map (fun m => D.str (wordS ps m)) ++ [.str (wordS ps j)] := by rw [List.range_succ, List.map_append]; rfl
      have hbj := hbl j (by omega)
      have hrj := hrl (ps.length - 1 - j)
      have hqs := hsm q (List.mem_of_getElem? hq')
      have e0 : os7 j = ([("white", .list [.bool (wsB i ps)]), ("popped", .list ((ps.reverse.take j).map prD)), ("told", .list (T0 ++ (List.range j).map fun m => .str (wordS ps m))), ("row", .acc i ((ps.take (ps.length - 1 - j)).map prD ++ [prD q]))] : VL) := by
        show ([_, _, _, ("row", .acc i ((ps.take (N - j)).map prD))] : VL) = _; rw [htk]
      have e1 : os7 (j + 1) = ([("white", .list [.bool (wsB i ps)]), ("popped", .list ((ps.reverse.take j).map prD ++ [prD q])), ("told", .list (T0 ++ (List.range j).map (fun m => .str (wordS ps m)) ++ [.str (wordS ps j)])), ("row", .acc i ((ps.take (ps.length - 1 - j)).map prD))] : VL) := by
        show ([_, ("popped", .list ((ps.reverse.take (j + 1)).map prD)), ("told", .list (T0 ++ (List.range (j + 1)).map fun m => .str (wordS ps m))), ("row", .acc i ((ps.take (N - (j + 1))).map prD))] : VL) = _
        rw [hrv, hrg, List.append_assoc, show N - (j + 1) = ps.length - 1 - j by omega]
      rw [e0, e1, hwd]
      have hr' : rs7 (j + 1) = ([("behind", .str (q.1 ++ q.2 ++ behS ps j)), ("pieces", .list (ps.map prD)), ("figures", .list (fl.map .int)), ("number", .int (a : Nat)), ("bits", .int (k : Nat)), ("head", .int i)] : VL) := by
        show ([("behind", .str (behS ps (j + 1))), _, _, _, _, _] : VL) = _; rw [hbh]
      rw [hr']
      generalize hbg : behS ps j = bh at *
      have htl : (ps.take (ps.length - 1 - j)).length ≤ 6 := by rw [List.length_take]; omega
      have hst := str_S (w := w) (n := n + 7) (i := i) (ps := ps.take (ps.length - 1 - j)) (by omega) (hsmT _)
      generalize hrw : ps.take (ps.length - 1 - j) = pt at *
      generalize hpp : (ps.reverse.take j).map prD = pop at *
      generalize hTT : T0 ++ (List.range j).map (fun m => D.str (wordS ps m)) = tol at *
      refine Blk.weak (r' := ("behind", .str (q.1 ++ q.2 ++ bh)) :: ("piece", prD q) :: rs7 j) ?m1 ?b5
      case m1 =>
        refine Blk.cons (r' := ("piece", prD q) :: rs7 j) (o' := ([("white", .list [.bool (wsB i ps)]), ("popped", .list pop), ("told", .list tol), ("row", .acc i (pt.map prD))] : VL)) ?b1 (Blk.cons (r' := ("piece", prD q) :: rs7 j) (o' := ([("white", .list [.bool (wsB i ps)]), ("popped", .list pop), ("told", .list (tol ++ [.str (rowS pt ++ Str.ofString "#" ++ bh)])), ("row", .acc i (pt.map prD))] : VL)) ?b2
          (Blk.cons (r' := ("piece", prD q) :: rs7 j) (o' := ([("white", .list [.bool (wsB i ps)]), ("popped", .list (pop ++ [prD q])), ("told", .list (tol ++ [.str (rowS pt ++ Str.ofString "#" ++ bh)])), ("row", .acc i (pt.map prD))] : VL)) ?b3 (Blk.cons (Stm.assign (d := .str (q.1 ++ q.2 ++ bh)) (.pure ?b4) (by walk_at "st") (by walk_at "sw")) Blk.nil)))
        case b1 =>
          exact Stm.popRow (n := n + 9) (d := prD q) (.tail _ (.tail _ (.tail _ (.head _)))) (by rfl) (by simp; omega) (by walk_at "st")
        case b2 =>
          refine Stm.append (x := "told") (d := .str (rowS pt ++ Str.ofString "#" ++ bh)) (.frz ?ev .str) (.tail _ (.tail _ (.head _))) (by rfl) (by rw [← hTT]; simp [T0, sizeLine]; omega)
          show EvS w (n + 11) _ [("white", .list [.bool (wsB i ps)]), ("popped", .list pop), ("told", .list tol), ("row", .acc i (pt.map prD)), ("piece", prD q), ("behind", .str (behS ps j)), ("pieces", .list (ps.map prD)), ("figures", .list (fl.map .int)), ("number", .int (a : Nat)), ("bits", .int (k : Nat)), ("head", .int i)] _ _
          rw [hbg]
          refine EvS.bin (EvS.bin (EvS.call (fv := .type "str") (by walk_at "name") KeepOk.typ (by walk_at "evl") (CallS.strAcc (n := n + 9) hst)) EvS.str (BinS.addS ?l1)) (by walk_at "name") (BinS.addS ?l2)
          case l1 => rw [cl_len (Str.ofString "#"), show cl (Str.ofString "#") = [35] from rfl, List.length_singleton]; omega
          case l2 => rw [cl_len (_ ++ Str.ofString "#"), cl_app, List.length_append, ← cl_len, show cl (Str.ofString "#") = [35] from rfl, List.length_singleton]; omega
        case b3 =>
          exact Stm.append (x := "popped") (d := prD q) (.pure (by walk_at "name")) (.tail _ (.head _)) (by rfl) (by rw [← hpp]; simp [sizeLine]; omega)
        case b4 =>
          show EvS w (n + 11) _ [("piece", prD q), ("behind", .str (behS ps j)), ("pieces", .list (ps.map prD)), ("figures", .list (fl.map .int)), ("number", .int (a : Nat)), ("bits", .int (k : Nat)), ("head", .int i)] _ _
          rw [hbg]
          refine EvS.bin (EvS.bin (EvS.itemT (ds := [.str q.1, .str q.2]) (k := 0) (by walk_at "name") EvS.int (by decide) (by rfl) (by show 2 < 2 ^ 62; decide)) (EvS.itemT (ds := [.str q.1, .str q.2]) (k := 1) (by walk_at "name") EvS.int (by decide) (by rfl) (by show 2 < 2 ^ 62; decide)) (BinS.addS (by omega))) (by walk_at "name") (BinS.addS ?l3)
          rw [cl_len (q.1 ++ q.2), cl_app, List.length_append, ← cl_len, ← cl_len]; omega
      case b5 => walk_at "sub"
  case e8 =>
    have hrv : (ps.reverse.take N).map prD = ps.reverse.map prD := by rw [List.take_of_length_le (by rw [List.length_reverse]; omega)]
    have hok : ∀ q ∈ ps, PyData.strOk q.1 = true ∧ PyData.strOk q.2 = true := fun q hq => by
      rw [← hps] at hq
      obtain ⟨f, hf, rfl⟩ := List.mem_map.mp hq
      exact ⟨strOk_of fun c hc => by rw [cl_sp] at hc; rw [List.eq_of_mem_replicate hc]; decide, strOk_of fun c hc => by rw [show cl (Str.ofString ".") = [46] from rfl] at hc; simp only [List.mem_cons, List.not_mem_nil, or_false] at hc; subst hc; decide⟩
    have hokR : isD 60 (.str (rowS ps)) = true := strOk_of fun c hc => by
      rw [cl_rowS, ← hps, pcs_flat] at hc
      rcases fcl_ok _ c hc with rfl | rfl <;> decide
    refine OrT.cons ?t1 (OrT.cons ?t2 (OrT.cons ?t3 (OrT.cons ?t4 OrT.nil)))
    case t1 =>
      refine TstS.cmp (a := .list (ps.reverse.map prD)) (b := .list (ps.reverse.map prD)) ?x1 ?x2 (CmpS.neSame (by omega) (isD_row fun q hq => hok q (List.mem_reverse.mp hq)))
      case x1 => rw [← hrv]; walk_at "name"
      case x2 =>
        have e : pick (ps.map prD) none none (some (-1)) = ps.reverse.map prD := by rw [pick_rev, List.map_reverse]
        rw [← e]
        exact EvS.slice (by walk_at "name") .none .none (.some (by walk_at "ev")) nofun (by simp [sizeLine]; omega)
    case t2 =>
      refine TstS.cmp (a := .str (rowS ps)) (b := .str (rowS ps)) ?x1 ?x2 (CmpS.neSame (by omega) hokR)
      case x1 => rw [← behS_all, hpl]; walk_at "name"
      case x2 => exact EvS.item (ds := T0 ++ (List.range N).map fun m => .str (wordS ps m)) (k := 0) (by walk_at "name") EvS.int (by decide) (by rfl) (by simp [T0]; omega)
    case t3 =>
      have hv := (digits2int_S (w := w) (n := n + 1)) k fl hk0 (by omega) (by omega) fun d hd => by
        have := digs_lt (k := k) (a := a) d (by rw [hdl]; exact hd)
        have : (8 : Int) < 2 ^ 250 := by decide
        omega
      rw [show valI k fl = (a : Nat) by rw [← hdl]; exact valI_digs hk0] at hv
      exact TstS.cmp (EvS.call (fv := .ref 70) (by walk_at "name") (KeepOk.fn (p := (70, fdT 11 "_digits2int" pmP 69, 69)) (by walk_at "mem")) (by walk_at "evl") hv) (by walk_at "name") (CmpS.neI' rfl)
    case t4 =>
      refine TstS.cmp (a := .list (pick (fl.map .int) (some (-1)) none none)) (b := .list [.int 0]) (EvS.slice (by walk_at "name") (.some (by walk_at "ev")) .none .none nofun (by simp [sizeLine]; omega)) (by walk_at "ev") ?_
      rw [pick_last]
      rcases Nat.eq_zero_or_pos a with h0 | h0
      · have : fl = [] := by
          rw [← hdl, h0]
          have e : digN k 0 = 0 := by unfold digN; rw [show bitlen 0 = 0 from rfl]; exact Nat.div_eq_of_lt (by omega)
          unfold digs; rw [e]; rfl
        rw [this]
        exact CmpS.eqD (by omega) (by rfl) (by rfl) (by rfl)
      · obtain ⟨r, t, e1, e2⟩ := digs_top hk0 h0
        rw [hdl] at e1
        rw [e1, List.map_append, List.length_append, List.length_map]
        rw [show r.length + ([t].map D.int).length - 1 = r.length by simp, List.drop_append_of_le_length (by simp), List.drop_of_length_le (by simp), List.nil_append]
        refine CmpS.eqD (by omega) (by rfl) (by rfl) ?_
        simp [pd, pds, PyData.eqv, PyData.eqvAll, e2]
  case e9 =>
    have hN0 : (ps.take (N - N)).map prD = [] := by rw [Nat.sub_self, List.take_zero]; rfl
    let o9 : VL := [("white", .list [.bool (wsB i ps)]), ("popped", .list ((ps.reverse.take N).map prD)), ("told", .list (T0 ++ (List.range N).map fun m => .str (wordS ps m))), ("row", .acc i [])]
    have eo : os7 N = o9 := by
      show ([_, _, _, ("row", .acc i ((ps.take (N - N)).map prD))] : VL) = _; rw [hN0]
    rw [eo]
    have hw0 : wsB i ps = false := by rw [← hps]; exact wsB_full (fun z => by rw [z] at hfl; simp at hfl; omega) (fun f hf => (hfo f hf).1) (by omega)
    have hl0 := CallS.lenAcc (w := w) (n := n + 10) (i := i) (len_S (n := n + 8) (ps := []) hi (fun _ h => nomatch h)) (by show 0 ≤ i + 0; omega) (by show i + 0 < _; omega)
    have hws := ws_S (w := w) (n := n + 6) (i := i) (ps := []) hi (by decide) (fun _ h => nomatch h)
    rw [wsB_empty] at hws
    refine OrT.cons ?t1 (OrT.cons ?t2 (OrT.cons ?t3 OrT.nil))
    case t1 => exact TstS.cmp (EvS.call (fv := .builtin "len") (by walk_at "name") KeepOk.bui (by walk_at "evl") hl0) (by walk_at "name") (CmpS.neI' (show i + 0 = i by omega))
    case t2 => exact TstS.cmp (EvS.accMeth (by walk_at "name") (fun _ => kc_pop) (by simp) (by decide +kernel) (pop_empty (n := n + 9)) (fun _ I => fnAt_of (p := (117, fdPO, 116)) (by walk_at "mem") I)) (by walk_at "ev") (CmpS.neSame (by omega) (by simp only [isD, isDs]; rw [strOk_of (s := Str.ofString "") (fun c hc => nomatch hc)]; rfl))
    case t3 =>
      refine TstS.cmp (a := .list ([.bool (wsB i ps)] ++ [.bool (i == 0)])) (b := .list [.bool false, .bool (i == 0)]) (EvS.bin (by walk_at "name") (EvS.listD (EvL.cons (EvS.accMeth (by walk_at "name") (fun _ => kc_ws) (by simp) (by decide +kernel) hws (fun _ I => fnAt_of (p := (146, fdWS, 145)) (by walk_at "mem") I)) EvL.nil (by intro _; rfl)) (by simp [sizeLine])) (BinS.addL (by simp [sizeLine]))) (EvS.listD (EvL.cons EvS.bool (EvL.cons (EvS.cmp (by walk_at "name") EvS.int CmpS.eqI) EvL.nil (by intro _; rfl)) (by intro _; rfl)) (by simp [sizeLine])) ?_
      rw [hw0]
      exact CmpS.neSame (by omega) (by rfl)
  case e10 =>
    rw [hres]; walk_at "name"
end
section
-- J0
variable {w : World}
open Sem (wp)
section
variable {M : Model} {A : Around} {R : GenEnd} {Y : Protocol} {n : Nat} {s₀ : Shared} {c : Code} {fs : List Frame} {s : Shared} {env : Env}
  {K : Flow → Sem Fin} {H : Value → Sem Fin} {gd : Bool → Bool} {lv : List Value → List Value}
noncomputable def runK (env : Env) (K : Flow → Sem Fin) (H : Value → Sem Fin) (gd : Bool → Bool) (lv : List Value → List Value) (r : Result) : Sem Fin :=
  ((match r with | .ok f => (.pure f : Sem Flow) | .error e => .raise e).onRaise fun (x : Value) => do
    if (← field x 1) == Value.none then unsupported "frame.own-activation:exception-without-traceback"
    setFlight x env.frame).wrap K H gd lv
noncomputable def noteH (env : Env) (e : Value) : Sem Fin := (do noteFrame e env; theTreesLotGoes e : Sem Unit).wrap (fun _ => .raise e) .raise id id
theorem seg_For {t iter : Expr} {body orelse : List Stmt} {pos : Pos}
    (h : wpAny M (A.over c fs) (eval iter env) (fun v s₁ => wpAny M (A.over c fs) (pyIter v) (fun it s₂ => ∀ p, Seg M A R Y n s₀ (.forLoop t it body orelse env) (M.den (.forLoop t it body orelse env))
      (.ret (runK env K H gd lv) none (gd false) (lv []) c p [] :: fs) s₂) (fun x s' => Seg M A R Y n s₀ c (H x) fs s') s₁) (fun x s' => Seg M A R Y n s₀ c (H x) fs s') s)
    (hf : ∀ v, foldedSetIterable iter env v = pure v := by intro _; rfl) :
    Seg M A R Y n s₀ c ((exec (.For t iter body orelse pos) env).wrap K H gd lv) fs s := by
  rw [arm_exec_For]
  refine seg_bind_wrap (wpAny_standAt ?_)
  refine seg_bind_wrap (wpAny_mono h (fun v s₁ h₁ => ?_) fun _ _ x => x)
  rw [hf]
  refine seg_bind_wrap (wpAny_pure ?_)
  refine seg_bind_wrap (wpAny_standAt ?_)
  refine seg_bind_wrap (wpAny_holding (wpAny_mono h₁ (fun it s₂ h₂ => ?_) fun _ _ x => x))
  exact seg_call h₂
theorem seg_If {t : Expr} {body els : List Stmt} {pos : Pos}
    (h : wpAny M (A.over c fs) (PySem.isTrue t env (eval t env)) (fun b s₁ => Seg M A R Y n s₀ c ((if b = true then execs body env else execs els env).wrap K H gd lv) fs s₁) (fun x s' => Seg M A R Y n s₀ c (H x) fs s') s) :
    Seg M A R Y n s₀ c ((exec (.If t body els pos) env).wrap K H gd lv) fs s := by
  rw [arm_exec_If]
  refine seg_bind_wrap (wpAny_standAt ?_)
  exact seg_bind_wrap h
theorem seg_Return_none {pos : Pos} (h : Seg M A R Y n s₀ c (K (.ret .none)) fs s) : Seg M A R Y n s₀ c ((exec (.Return none pos) env).wrap K H gd lv) fs s := seg_at h
end
section
variable {prog : Program} {w : World} {A : Around} {R : GenEnd} {Y : Protocol} {n : Nat} {s₀ : Shared} {fs : List Frame} {s : Shared} {env : Env}
noncomputable def forK (t : Expr) (it : Value) (body orelse : List Stmt) (env : Env) : Flow → Sem Fin
  | .next => .pure (.again (.forLoop t it body orelse env))
  | .cont => .pure (.again (.forLoop t it body orelse env))
  | .brk => .pure (.done .next)
  | .ret v => .pure (.done (.ret v))
theorem seg_forLoop {t : Expr} {it : Value} {body orelse : List Stmt}
    (h : wpAny (model prog w) (A.over (.forLoop t it body orelse env) fs) (pyNext it) (fun ov s₁ => match ov with
        | none => Seg (model prog w) A R Y n s₀ (.forLoop t it body orelse env) (.pure (.again (.block orelse env))) fs s₁
        | some v => wpAny (model prog w) (A.over (.forLoop t it body orelse env) fs) (letOwnedTupleGo t it v) (fun _ s₂ => wpAny (model prog w) (A.over (.forLoop t it body orelse env) fs) (assign t env v) (fun _ s₃ =>
            Seg (model prog w) A R Y n s₀ (.forLoop t it body orelse env) ((execs body env).wrap (forK t it body orelse env) (noteH env) id id) fs s₃) (fun _ _ => False) s₂) (fun _ _ => False) s₁)
      (fun _ _ => False) s) :
    Seg (model prog w) A R Y n s₀ (.forLoop t it body orelse env) ((model prog w).den (.forLoop t it body orelse env)) fs s := by
  show Seg _ A R Y n s₀ _ ((forTurn t it body orelse env).onRaise (fun x => do noteFrame x env; theTreesLotGoes x)) fs s
  unfold forTurn
  rw [Sem.onRaise_eq_wrap]
  refine seg_bind_wrap (wpAny_standAt ?_)
  refine seg_bind_wrap (wpAny_onRaise (wpAny_mono h (fun ov s₁ h₁ => ?_) fun _ _ x => x.elim))
  cases ov with
  | none => exact h₁
  | some v =>
    dsimp only at h₁ ⊢
    refine seg_bind_wrap (wpAny_mono h₁ (fun _ s₂ h₂ => ?_) fun _ _ x => x.elim)
    refine seg_bind_wrap (wpAny_mono h₂ (fun _ s₃ h₃ => ?_) fun _ _ x => x.elim)
    rw [Sem.bind_eq_wrap', Sem.wrap_wrap]
    rw [Sem.wrap_congr (execs body env) _ _ (K' := forK t it body orelse env) (H' := noteH env) (fun f => by cases f <;> rfl) (fun e => by
      show (do noteFrame e env; theTreesLotGoes e : Sem Unit).bind (fun _ => .raise e) = _
      rw [Sem.bind_eq_wrap]; rfl)]
    exact h₃
end
end
section
-- J1
variable {w : World}
open Sem (wp)
noncomputable abbrev fdGI : FuncData := fdT 5 "_grouping_intervals" pmL 41
noncomputable abbrev giB : List Stmt := dB (stAt 5)
noncomputable abbrev giF : Stmt := giB.getD 1 (.Pass default)
noncomputable def foT : Stmt → Expr | .For t .. => t | _ => .Constant .none 0 default
noncomputable def foB : Stmt → List Stmt | .For _ _ b .. => b | _ => []
theorem StA.otherW {n₀ : Nat} {X₀ Wb : Addr → Prop} {sb : Shared} {env : Env} {r : VL} {s : Shared} {ad : Str → Addr} {h' : Heap} {tk : Nat} {I : Addr} {ob : Obj} (S : StA n₀ X₀ Wb sb env r [] s ad) (k : ∀ b o, b ≠ I → s.heap.get? b = some o → h'.get? b = some o) (hI : s.heap.get? I = some ob) (hq : ¬ seqish ob) (hqc : ¬ codish ob) (hc : ∀ v, ob.data ≠ .cell v) (hL : I ≠ env.locals) (hn : n₀ ≤ I)
    (hw : Wb I) : StA n₀ X₀ Wb sb env r [] { s with heap := h', toks := tk } ad := by
  have S' := (S.rebase)
  have hI196 : 196 ≤ I := Nat.le_trans S.n0 hn
  have nOX : ¬ OX X₀ [] ad I := fun x => by
    rcases x with x | ⟨p, hp, e⟩
    · exact absurd (S.xlow _ x) (Nat.not_lt.mpr hn)
    · cases hp
  have sk : SK (OX X₀ [] ad) s.heap h' := fun b ob' e c _ => k b ob' (fun z => by rw [z, hI] at e; cases e; exact hq c) e
  have cI : ∀ c v, s.heap.IsCell c v → c ≠ I := fun c v hc' z => by
    obtain ⟨o', e1, e2⟩ := hc'
    rw [z, hI] at e1; cases e1; exact hc _ e2
  refine ⟨⟨S.eff.os, S.eff.gens, S.eff.bare, fun a ob' e t m => k a ob' (fun z => m (.inr (.inr (z ▸ hw)))) (S.eff.keep a ob' e t m)⟩, S.ownB, S.inv.low (fun b ob' hb e => k b ob' (fun z => by rw [z] at hb; exact absurd hI196 (Nat.not_le.mpr hb)) e) (fun b ob' cc e => k b ob' (fun z => by rw [z, hI] at e; cases e; exact hqc cc) e), S.vars.step (S.vars.bnd.keeps fun a x ob' e => k a ob' (fun z => nOX (z ▸ x)) e) (fun ob' e => k _ _ (Ne.symm hL) e)
    (fun c v hc' ob' e => k c ob' (cI c v hc') e) sk, S.n0, S.xlow, S.lowL, S.lowC, fun x kx => ?_, S.apart, fun p hp => (nomatch hp), S.dist⟩
  obtain ⟨c, v, e, h⟩ := S.cells x kx
  obtain ⟨o', e1, e2⟩ := h
  exact ⟨c, v, e, ⟨o', k c o' (cI c v ⟨o', e1, e2⟩) e1, e2⟩⟩
noncomputable def KS (OUT : Addr → Prop) (h h' : Heap) : Prop := SK OUT h h' ∧ ∀ b o vs, h.get? b = some o → o.cls = .type "generator" → o.data = .fields vs → b ∉ tabs → h'.get? b = some o
noncomputable def notG (o : Obj) : Prop := ¬ seqish o ∧ ∀ vs, o.cls = .type "generator" → o.data ≠ .fields vs
theorem ItAt.notG {X h I ds} (x : ItAt X h I ds) : ∀ o, h.get? I = some o → notG o := fun o e => by
  refine ⟨?_, fun vs c _ => ?_⟩
  · obtain ⟨o', vs, e', q, _⟩ := x.fld
    rw [e] at e'; cases e'; exact q
  · cases x with
    | list a _ _ _ =>
      obtain ⟨o', e', c', _⟩ := a
      rw [e] at e'; cases e'; rw [c] at c'
      exact absurd (Value.type.inj c') (by decide)
    | rng a =>
      have a : h.get? I = some _ := a
      rw [e] at a
      cases a
      exact absurd (Value.type.inj c) (by decide)
    | rev a _ _ _ _ =>
      obtain ⟨o', e', c', _⟩ := a
      rw [e] at e'; cases e'; rw [c] at c'
      exact absurd (Value.type.inj c') (by decide)
theorem ns_notG {h : Heap} {a : Addr} {m} (n : h.Ns a m) (mi : m iniS = none) : ∀ o, h.get? a = some o → notG o := fun o e => by
  refine ⟨ns_notSeq n mi o e, fun vs _ d => ?_⟩
  obtain ⟨o', es, ep, e', d', _⟩ := n
  rw [e] at e'; cases e'; rw [d] at d'; cases d'
structure Kz (OUT : Addr → Prop) (s s' : Shared) : Prop where
  inv : Inv s'.heap
  bnd : XB OUT s'.heap
  keep : ∀ b o, s.heap.get? b = some o → ¬ OUT b → b ∉ tabs → s'.heap.get? b = some o
theorem StA.consumed {n₀ : Nat} {OUT Wb : Addr → Prop} {sb : Shared} {env : Env} {r : VL} {s s' : Shared} {ad : Str → Addr} (S : StA n₀ OUT Wb sb env r [] s ad) (K : Kz OUT s s') (nc : ∀ y, env.kindOf y ≠ some .cell) (nf : ∀ y, env.kindOf y ≠ some .free) : StA n₀ OUT Wb s' env r [] s' ad := by
  have nL : ¬ OUT env.locals := fun x => absurd (S.xlow _ x) (Nat.not_lt.mpr S.lowL)
  have hX : ∀ b, OX OUT [] ad b → OUT b := fun b x => by rcases x with x | ⟨p, hp, _⟩; exact x; cases hp
  have hT : env.locals ∉ tabs := by obtain ⟨m, nm, _⟩ := S.vars.ns; exact S.inv.ns_notTab nm
  have sk : SK (OX OUT [] ad) s.heap s'.heap := fun b ob e c hb => K.keep b ob e (fun x => hb (.inl x)) (by
    intro t
    obtain ⟨ps, h⟩ := S.inv.tab b t
    rw [h] at e; cases e
    rcases c with ⟨q, _⟩ | ⟨q, _⟩ | ⟨es, ep, q, _⟩
    · rcases q with q | q | q <;> cases q
    · cases q
    · cases q)
  refine ⟨EffM.refl _ _, fun p hp => (nomatch hp), K.inv, ⟨fun a x => K.bnd a (hX a x), S.vars.kind, S.vars.glo, S.vars.bui, ?_, fun y d e k => ?_⟩, S.n0, S.xlow, S.lowL, S.lowC, fun x kx => absurd kx (nc x), S.apart, fun p hp => (nomatch hp), S.dist⟩
  · obtain ⟨m, nm, mi, q⟩ := S.vars.ns
    refine ⟨m, nm.at' fun o e => K.keep _ o e nL hT, mi, fun y d e k => ?_⟩
    obtain ⟨v, e1, e2⟩ := q y d e k
    exact ⟨v, e1, e2.keep sk⟩
  · rcases k with k | k
    · exact absurd k (nc y)
    · exact absurd k (nf y)
inductive Tells : Option Int → List Int → List Int → Bool → Prop
  | nil {l} : Tells l [] [] true
  | max {l gs} : Tells l (127 :: gs) [] true
  | loop {v gs k} : Tells (some v) (0 :: gs) (List.replicate (k + 1) v) false
  | cons {l x gs L f} : x ≠ 127 → x ≠ 0 → Tells (some x) gs L f → Tells l (x :: gs) (x :: L) f
noncomputable def cnt (L : List Int) (f : Bool) : Nat := L.length + if f then 1 else 0
section
variable (c0 : Nat) (OUT : Addr → Prop) (val : Nat → Int) (fin : Bool)
noncomputable def Yg : Protocol := fun m s₀ v s kap => (∃ t, v = .int (val m) t) ∧ (m = 0 → fin = false) ∧ EffM (fun b => c0 ≤ b) s₀ s ∧ KS OUT s₀.heap s.heap ∧ Inv s.heap ∧ (m ≠ 0 → ∀ s'', Kz OUT s s'' → kap (.send .none) s'')
noncomputable def Rg : GenEnd := fun n s₀ r s => r = .ok (.ret .none) ∧ n = 1 ∧ fin = true ∧ EffM (fun b => c0 ≤ b) s₀ s ∧ KS OUT s₀.heap s.heap ∧ Inv s.heap
end
noncomputable abbrev gEnv (C : Addr) : Env := callEnv fdGI C 42
theorem gEnv_nc (C : Addr) : (∀ y, (gEnv C).kindOf y ≠ some .cell) ∧ ∀ y, (gEnv C).kindOf y ≠ some .free := by
  have h : ∀ x ∈ (dS (stAt 5)).names, x.2 ≠ .cell ∧ x.2 ≠ .free := by decide +kernel
  refine ⟨fun y k => ?_, fun y k => ?_⟩
  · exact (h _ (mem_of_lookup (show (dS (stAt 5)).names.lookup y = _ from k))).1 rfl
  · exact (h _ (mem_of_lookup (show (dS (stAt 5)).names.lookup y = _ from k))).2 rfl
noncomputable def lastD : Option Int → D
  | none => .none
  | some v => .int v
noncomputable abbrev gVL (l : Option Int) (ru : List Int) : VL := [("last_interval", lastD l), ("grouping", .list (ru.map .int))]
theorem roomF {n : Nat} {A : Around} {t : Expr} {it : Value} {b body : List Stmt} {env env' : Env} {k : Result → Sem Fin} {p : Pos} (R : Rm (n + 2) A) : Rm n (A.over (.forLoop t it b [] env) [.ret k none false [] (.func body env') p []]) := by
  refine ⟨?_, ?_, ?_⟩
  · exact R.handled
  · have := R.depth
    show A.depth + 1 + 0 + n < _
    omega
  · have := R.units
    show A.units + 3 + 0 + 10 * n < _
    omega
end
section
-- J2
variable {w : World}
open Sem (wp)
theorem OX_nil {X₀ : Addr → Prop} {ad : Str → Addr} : OX X₀ [] ad = X₀ := by
  funext a
  apply propext
  constructor
  · rintro (x | ⟨p, hp, _⟩)
    · exact x
    · cases hp
  · exact .inl
theorem StA.ad0 {n₀ : Nat} {X₀ Wb : Addr → Prop} {sb : Shared} {env : Env} {r : VL} {s : Shared} {ad ad' : Str → Addr} (S : StA n₀ X₀ Wb sb env r [] s ad) : StA n₀ X₀ Wb sb env r [] s ad' :=
  ⟨S.eff, fun p hp => (nomatch hp), S.inv, by have := S.vars; rw [OX_nil] at this ⊢; exact this, S.n0, S.xlow, S.lowL, S.lowC, S.cells, S.apart, fun p hp => (nomatch hp), .nil⟩
noncomputable abbrev a0 : Str → Addr := fun _ => 0
section
variable {A : Around} {R : GenEnd} {Y : Protocol} {n m : Nat} {s₀ : Shared} {c : Code} {fs : List Frame} {s : Shared} {C I c0 : Addr} {OUT Wb : Addr → Prop} {r : VL} {ds : List D}
  {K : Flow → Sem Fin} {H : Value → Sem Fin} {gd : Bool → Bool} {lv : List Value → List Value}
structure GS (c0 : Addr) (OUT : Addr → Prop) (s₀ : Shared) (C I : Addr) (r : VL) (ds : List D) (s : Shared) : Prop where
  st : StA c0 OUT (fun b => b = I) s₀ (gEnv C) r [] s a0
  it : ItAt OUT s.heap I ds
  hI : c0 ≤ I
  nI : ∀ o, s₀.heap.get? I = some o → notG o
  nC : ∀ o, s₀.heap.get? (gEnv C).locals = some o → notG o
theorem gsEff (st : StA c0 OUT (fun b => b = I) s₀ (gEnv C) r [] s a0) (hI : c0 ≤ I) (nI : ∀ o, s₀.heap.get? I = some o → notG o) (nC : ∀ o, s₀.heap.get? (gEnv C).locals = some o → notG o) (J : Inv s₀.heap) : EffM (fun b => c0 ≤ b) s₀ s ∧ KS OUT s₀.heap s.heap := by
  refine ⟨st.eff.weaken fun b x => ?_, st.eff.sk J fun b x => .inr fun o e => ?_, fun b o vs e c d t => st.eff.keep b o e t fun x => ?_⟩
  · rcases x with x | ⟨y, k, _⟩ | x
    · rw [x]; exact st.lowL
    · exact absurd k ((gEnv_nc C).1 y)
    · rw [x]; exact hI
  · rcases x with x | ⟨y, k, _⟩ | x
    · rw [x] at e; exact (nC o e).1
    · exact absurd k ((gEnv_nc C).1 y)
    · rw [x] at e; exact (nI o e).1
  · rcases x with x | ⟨y, k, _⟩ | x
    · rw [x] at e; exact (nC o e).2 vs c d
    · exact absurd k ((gEnv_nc C).1 y)
    · rw [x] at e; exact (nI o e).2 vs c d
theorem GS.step {s' : Shared} (g : GS c0 OUT s₀ C I r ds s) (E : Eff s s') (J : Inv s'.heap) : GS c0 OUT s₀ C I r ds s' := by
  obtain ⟨o, vs, e, q, cl, d, _⟩ := g.it.fld
  refine ⟨g.st.step E J, g.it.keep (fun o' e' => E.keep _ _ e' (g.st.inv.notTab e' (.inl (by rw [e] at e'; cases e'; exact cl))) fun z => z) (E.sk g.st.inv), g.hI, g.nI, g.nC⟩
theorem seg_tst {t : Expr} {body els : List Stmt} {pos : Pos} {b : Bool} (hT : TstS w m (dS (stAt 5)) r t b) (hR : Rm m (A.over c fs)) (g : GS c0 OUT s₀ C I r ds s)
    (k : ∀ s₁, GS c0 OUT s₀ C I r ds s₁ → Seg (model PRG w) A R Y n s₀ c ((if b = true then execs body (gEnv C) else execs els (gEnv C)).wrap K H gd lv) fs s₁) :
    Seg (model PRG w) A R Y n s₀ c ((exec (.If t body els pos) (gEnv C)).wrap K H gd lv) fs s := by
  refine seg_If (wpAny_mono (hT (A.over c fs) s (gEnv C) OUT rfl hR g.st.inv (by have := g.st.vars; rw [OX_nil] at this; exact this)) (fun t s₁ q => ?_) fun _ _ z => z.elim)
  obtain ⟨rfl, E, J⟩ := q
  exact k s₁ (g.step E J)
theorem GS.back {r' : VL} {s' : Shared} {ad' : Str → Addr} (g : GS c0 OUT s₀ C I r ds s) (S' : StA c0 OUT (OW [] a0) s (gEnv C) r' [] s' ad') : GS c0 OUT s₀ C I r' ds s' := by
  obtain ⟨o, vs, e, q, cl, d, _⟩ := g.it.fld
  have nM : ¬ Mu (gEnv C) (OW [] a0) I := by
    rintro (x | ⟨y, k, _⟩ | ⟨p, hp, _⟩)
    · exact g.st.itNe g.it x
    · exact absurd k ((gEnv_nc C).1 y)
    · cases hp
  refine ⟨(g.st.back S').ad0, g.it.keep (fun o' e' => S'.eff.keep _ _ e' (g.st.inv.notTab e' (.inl (by rw [e] at e'; cases e'; exact cl))) nM) (by have := g.st.sk S'.eff; rw [OX_nil] at this; exact this), g.hI, g.nI, g.nC⟩
theorem seg_stm {st : Stmt} {rest : List Stmt} {r' : VL} (hS : Stm w m (dS (stAt 5)) r [] st (.next r' [])) (hR : Rm m (A.over c fs)) (g : GS c0 OUT s₀ C I r ds s)
    (k : ∀ s₁, GS c0 OUT s₀ C I r' ds s₁ → Seg (model PRG w) A R Y n s₀ c ((execs rest (gEnv C)).wrap K H gd lv) fs s₁) :
    Seg (model PRG w) A R Y n s₀ c ((execs (st :: rest) (gEnv C)).wrap K H gd lv) fs s := by
  refine seg_execs_cons (seg_wrap (wpAny_mono (hS (A.over c fs) c0 OUT _ s (gEnv C) s rfl hR ⟨a0, g.st.rebase⟩) (fun f s₁ q => ?_) fun _ _ z => z.elim))
  cases f with
  | next =>
    obtain ⟨ad', q⟩ := q
    exact k s₁ (g.back q)
  | _ => exact q.elim
theorem gi_turn {x : Int} {gs : List Int} {body orelse : List Stmt} {p0 : Pos} (hR : Rm m (A.over (.forLoop (.Name "interval" p0) (.ref I) body orelse (gEnv C)) fs)) (g : GS c0 OUT s₀ C I r ((x :: gs).map .int) s)
    (k : ∀ s₁, GS c0 OUT s₀ C I (("interval", .int x) :: r) (gs.map .int) s₁ → Seg (model PRG w) A R Y n s₀ (.forLoop (.Name "interval" p0) (.ref I) body orelse (gEnv C)) ((execs body (gEnv C)).wrap (forK (.Name "interval" p0) (.ref I) body orelse (gEnv C)) (noteH (gEnv C)) id id) fs s₁) :
    Seg (model PRG w) A R Y n s₀ (.forLoop (.Name "interval" p0) (.ref I) body orelse (gEnv C)) ((model PRG w).den (.forLoop (.Name "interval" p0) (.ref I) body orelse (gEnv C))) fs s := by
  refine seg_forLoop (next_item g.it fun v h' tk hv hit sb => ?_)
  obtain ⟨o, vs, e, q, cl, d, cd⟩ := g.it.fld
  have S1 : StA c0 OUT (fun b => b = I) s₀ (gEnv C) r [] { s with heap := h', toks := tk } a0 := g.st.otherW (fun b o' hb e' => (sb.2 b hb).trans e') e q cd (fun v z => by rw [d] at z; cases z) (g.st.itNe g.it) g.hI rfl
  have g1 : GS c0 OUT s₀ C I r (gs.map .int) { s with heap := h', toks := tk } := ⟨S1, hit, g.hI, g.nI, g.nC⟩
  dsimp only
  refine wpAny_pure ?_
  refine wpAny_assign_Name (wpAny_mono (S1.rebase.store (x := "interval") (d := .int x) (sc := dS (stAt 5)) (by rw [OX_nil]; exact hv) rfl (.inl (by rfl)) (by decide) (fun p hp => (nomatch hp))) (fun _ s₂ q => k s₂ (g1.back q)) fun _ _ z => z)
end
end
section
-- J3
variable {w : World}
open Sem (wp)
noncomputable def Kf : Flow → Sem PySem.Fin := fun f => .pure (.done (.ret (match f with | .ret v => v | _ => .none)))
noncomputable def Hf (env : Env) : Value → Sem PySem.Fin := fun e => (leaving env e).wrap (fun _ => .raise e) .raise id id
noncomputable def K1 (env : Env) : Flow → Sem PySem.Fin := fun f => match f with | .next => (execs [] env).wrap Kf (Hf env) id id | f => Kf f
noncomputable abbrev fsG (env : Env) (p : Pos) : List Frame := [.ret (runK env (K1 env) (Hf env) id id) none false [] (.func giB env) p []]
theorem cnt_cons {x : Int} {L : List Int} {f : Bool} : cnt (x :: L) f = cnt L f + 1 := by unfold cnt; rw [List.length_cons]; omega
theorem cnt_rep {k : Nat} {v : Int} : cnt (List.replicate (k + 1) v) false = k + 1 := by unfold cnt; simp
theorem CmpS.isN {n : Nat} {v : Int} : CmpS w n .Is (.int v) .none (.bool false) := fun A s X va vb R I B p q => by
  obtain ⟨t, rfl⟩ := p
  have q : vb = .none := q
  subst q
  exact is_int_none ⟨EffM.refl _ s, I, rfl⟩
section
variable {A : Around} {R : GenEnd} {Y : Protocol} {n m : Nat} {s₀ : Shared} {c : Code} {fs : List Frame} {s : Shared} {C I c0 : Addr} {OUT Wb : Addr → Prop} {r : VL} {ds : List D} {val : Nat → Int} {fin : Bool}
  {K : Flow → Sem PySem.Fin} {H : Value → Sem PySem.Fin} {gd : Bool → Bool} {lv : List Value → List Value}
theorem GS.consumed {s' : Shared} (g : GS c0 OUT s₀ C I r ds s) (K : Kz OUT s s') : GS c0 OUT s' C I r ds s' := by
  obtain ⟨o, vs, e, q, cl, d, _⟩ := g.it.fld
  have nO : ¬ OUT I := fun x => absurd (g.st.xlow _ x) (Nat.not_lt.mpr g.hI)
  have nT : ∀ b o, s.heap.get? b = some o → seqish o → b ∉ tabs := fun b ob e c t => by
    obtain ⟨ps, h⟩ := g.st.inv.tab b t
    rw [h] at e; cases e
    rcases c with ⟨q, _⟩ | ⟨q, _⟩ | ⟨es, ep, q, _⟩
    · rcases q with q | q | q <;> cases q
    · cases q
    · cases q
  have hIk : s'.heap.get? I = some o := K.keep _ _ e nO (g.st.inv.notTab e (.inl cl))
  have S' := g.st.consumed K (gEnv_nc C).1 (gEnv_nc C).2
  refine ⟨⟨EffM.refl _ _, S'.ownB, S'.inv, S'.vars, S'.n0, S'.xlow, S'.lowL, S'.lowC, S'.cells, S'.apart, S'.own, S'.dist⟩, g.it.keep (fun o' e' => K.keep _ _ e' nO (g.st.inv.notTab e' (.inl (by rw [e] at e'; cases e'; exact cl)))) (fun b ob e c hb => K.keep b ob e hb (nT b ob e c)), g.hI, fun o' e' => by rw [hIk] at e'; cases e'; exact g.it.notG o e, by obtain ⟨m, nm, mi, _⟩ := S'.vars.ns; exact ns_notG nm mi⟩
theorem GS.sub {r' : VL} (g : GS c0 OUT s₀ C I r ds s) (k : Sub r r') : GS c0 OUT s₀ C I r' ds s := ⟨g.st.vsub k, g.it, g.hI, g.nI, g.nC⟩
theorem gi_yield {x : Int} {y : Str} {py yp pos : Pos} {rest : List Stmt} (hE : EvS w m (dS (stAt 5)) r (.Name y py) (.int x)) (hR : Rm m (A.over c fs)) (g : GS c0 OUT s₀ C I r ds s) (hfs : splitAtGen fs = none) (hgd : gd false = false) (hfg : fs.any Frame.guarded = false)
    (J₀ : Inv s₀.heap) (hv : val n = x) (h0 : n = 0 → fin = false)
    (k : ∀ s', n ≠ 0 → Inv s'.heap → GS c0 OUT s' C I r ds s' → Seg (model PRG w) A (Rg c0 OUT fin) (Yg c0 OUT val fin) n s' c ((execs rest (gEnv C)).wrap K H gd lv) fs s') :
    Seg (model PRG w) A (Rg c0 OUT fin) (Yg c0 OUT val fin) (n + 1) s₀ c ((execs (.Expr (.Yield (some (.Name y py)) yp) pos :: rest) (gEnv C)).wrap K H gd lv) fs s := by
  refine seg_execs_cons (seg_Expr_Yield hfs hgd hfg (wpAny_mono (hE (A.over c fs) s (gEnv C) OUT rfl hR g.st.inv (by have := g.st.vars; rw [OX_nil] at this; exact this)) (fun v s₁ q => ?_) fun _ _ z => z.elim))
  obtain ⟨E, J, t, rfl⟩ := q
  have g1 := g.step E J
  intro kap hk
  obtain ⟨e1, e2⟩ := gsEff g1.st g1.hI g1.nI g1.nC J₀
  exact ⟨⟨t, by rw [hv]⟩, h0, e1, e2, J, fun hn s'' hK => hk .none s'' (k s'' hn hK.inv (g1.consumed hK))⟩
end
end
section
-- J4
variable {w : World}
open Sem (wp)
theorem roomW {n : Nat} {A : Around} {t t' : Expr} {it : Value} {b b' body : List Stmt} {env env' env'' : Env} {k k' : Result → Sem PySem.Fin} {p p' : Pos} (R : Rm (n + 2) A) : Rm n (A.over (.whileLoop t' b' [] env'') [.ret k' none false [] (.forLoop t it b [] env) p' [], .ret k none false [] (.func body env') p []]) := by
  refine ⟨R.handled, ?_, ?_⟩
  · have := R.depth
    show A.depth + 1 + 0 + n < _
    omega
  · have := R.units
    show A.units + 3 + 0 + 10 * n < _
    omega
noncomputable def q1 : Stmt → Expr | .If t .. => t | .While t .. => t | _ => .Constant .none 0 default
noncomputable def q2 : Stmt → List Stmt | .If _ b .. => b | .While _ b .. => b | _ => []
section
variable {A : Around} {n m : Nat} {s₀ : Shared} {s : Shared} {C I c0 : Addr} {OUT Wb : Addr → Prop} {val : Nat → Int} {fin : Bool}
theorem gi_while (R : Rm 6 A) {v : Int} {l : Option Int} {ru gs : List Int} {kfr : Result → Sem PySem.Fin} {p p' pn yp py pt : Pos} {ck : Nat} (hf : fin = false) (hl : l = some v) : ∀ (k : Nat) (s₀ s : Shared), Inv s₀.heap → GS c0 OUT s₀ C I (("interval", .int 0) :: gVL l ru) (gs.map .int) s → (∀ i, i < k + 1 → val i = v) →
    Seg (model PRG w) A (Rg c0 OUT fin) (Yg c0 OUT val fin) (k + 1) s₀ (.whileLoop (.Constant (.bool true) ck pt) [.Expr (.Yield (some (.Name "last_interval" pn)) yp) py] [] (gEnv C)) ((model PRG w).den (.whileLoop (.Constant (.bool true) ck pt) [.Expr (.Yield (some (.Name "last_interval" pn)) yp) py] [] (gEnv C)))
      [.ret kfr none false [] (.forLoop (foT giF) (.ref I) (foB giF) [] (gEnv C)) p' [], .ret (runK (gEnv C) (K1 (gEnv C)) (Hf (gEnv C)) id id) none false [] (.func giB (gEnv C)) p []] s := by
  subst hl
  intro k
  induction k with
  | zero =>
    intro s₀ s J₀ g hv
    refine seg_whileLoop (wpAny_mono ((TstS.val (w := w) (n := 4) (sc := dS (stAt 5)) (r := ("interval", .int 0) :: gVL (some v) ru) EvS.bool TruS.bool (by intro _ _; rfl)) _ s (gEnv C) OUT rfl (roomW (n := 4) R) g.st.inv (by have := g.st.vars; rw [OX_nil] at this; exact this)) (fun t s₁ q => ?_) fun _ _ z => z.elim)
    obtain ⟨rfl, E, J⟩ := q
    rw [if_pos rfl]
    refine gi_yield (m := 4) (x := v) (n := 0) (by walk_at "name") (roomW (n := 4) R) (g.step E J) rfl rfl rfl J₀ (hv 0 (by omega)) (fun _ => hf) (fun s' h _ _ => absurd rfl h)
  | succ k ih =>
    intro s₀ s J₀ g hv
    refine seg_whileLoop (wpAny_mono ((TstS.val (w := w) (n := 4) (sc := dS (stAt 5)) (r := ("interval", .int 0) :: gVL (some v) ru) EvS.bool TruS.bool (by intro _ _; rfl)) _ s (gEnv C) OUT rfl (roomW (n := 4) R) g.st.inv (by have := g.st.vars; rw [OX_nil] at this; exact this)) (fun t s₁ q => ?_) fun _ _ z => z.elim)
    obtain ⟨rfl, E, J⟩ := q
    rw [if_pos rfl]
    refine gi_yield (m := 4) (x := v) (n := k + 1) (by walk_at "name") (roomW (n := 4) R) (g.step E J) rfl rfl rfl J₀ (hv (k + 1) (by omega)) (fun h => nomatch h) (fun s' _ J' g' => ?_)
    refine seg_execs_nil ?_
    exact seg_again rfl (ih s' s' J' g' fun i hi => hv i (by omega))
theorem gi_loop (R : Rm 6 A) {ru : List Int} {p : Pos} {l : Option Int} {gs L : List Int} (h : Tells l gs L fin) : ∀ (s₀ s : Shared) {r : VL}, Inv s₀.heap → Sub r (gVL l ru) → GS c0 OUT s₀ C I r (gs.map .int) s → (∀ i (hi : i < L.length), val (cnt L fin - 1 - i) = L[i]) →
    Seg (model PRG w) A (Rg c0 OUT fin) (Yg c0 OUT val fin) (cnt L fin) s₀ (.forLoop (foT giF) (.ref I) (foB giF) [] (gEnv C)) ((model PRG w).den (.forLoop (foT giF) (.ref I) (foB giF) [] (gEnv C))) (fsG (gEnv C) p) s := by
  induction h with
  | nil =>
    intro s₀ s r J₀ hsub g hv
    refine seg_forLoop (next_end (roomF (n := 4) R).handled g.it fun h' ex => ?_)
    obtain ⟨o, vs, e, q, cl, d, cd⟩ := g.it.fld
    have S1 := g.st.otherW (h' := h') (tk := s.toks) (fun b o' hb e' => ex b o' hb e') e q cd (fun v z => by rw [d] at z; cases z) (g.st.itNe g.it) g.hI rfl
    dsimp only
    refine seg_again rfl ?_
    show Seg _ _ _ _ _ _ _ (leafOf (.ok .next)) _ _
    refine seg_leaf (.ok .next) ?_
    obtain ⟨e1, e2⟩ := gsEff S1 g.hI g.nI g.nC J₀
    exact seg_end (.ok (.ret .none)) ⟨rfl, rfl, rfl, e1, e2, S1.inv⟩
  | max =>
    intro s₀ s r J₀ hsub g hv
    refine gi_turn (m := 4) (roomF (n := 4) R) (g.sub hsub) fun s₃ g3 => ?_
    refine seg_execs_cons (seg_tst (m := 4) (b := true) ?_ (roomF (n := 4) R) g3 fun s₄ g4 => ?_)
    · exact TstS.cmp (a := .int 127) (b := .int 127) (by walk_at "name") (by walk_at "name") CmpS.eqI
    · rw [if_pos rfl]
      refine seg_execs_cons (seg_Return_none ?_)
      refine seg_leaf (.ok (.ret .none)) ?_
      obtain ⟨e1, e2⟩ := gsEff g4.st g4.hI g4.nI g4.nC J₀
      exact seg_end (.ok (.ret .none)) ⟨rfl, rfl, rfl, e1, e2, g4.st.inv⟩
  | @loop v gs k =>
    intro s₀ s r J₀ hsub g hv
    rw [cnt_rep]
    refine gi_turn (m := 4) (roomF (n := 4) R) (g.sub hsub) fun s₃ g3 => ?_
    refine seg_execs_cons (seg_tst (m := 4) (b := false) ?_ (roomF (n := 4) R) g3 fun s₄ g4 => ?_)
    · exact TstS.cmp (a := .int 0) (b := .int 127) (by walk_at "name") (by walk_at "name") CmpS.eqI
    · rw [if_neg (by decide)]
      refine seg_execs_nil ?_
      refine seg_execs_cons (seg_tst (m := 4) (b := true) ?_ (roomF (n := 4) R) g4 fun s₅ g5 => ?_)
      · exact TstS.cmp (a := .int 0) (b := .int 0) (by walk_at "name") EvS.int CmpS.eqI
      · rw [if_pos rfl]
        refine seg_execs_cons (seg_tst (m := 4) (b := false) ?_ (roomF (n := 4) R) g5 fun s₆ g6 => ?_)
        · exact TstS.cmp (a := .int v) (b := .none) (by walk_at "name") EvS.none CmpS.isN
        · rw [if_neg (by decide)]
          refine seg_execs_nil ?_
          refine seg_execs_cons (seg_While fun p' => ?_)
          refine gi_while R rfl rfl k s₀ s₆ J₀ g6 fun i hi => ?_
          have := hv (k - i) (by rw [List.length_replicate]; omega)
          rw [cnt_rep, List.getElem_replicate] at this
          rw [show i = k + 1 - 1 - (k - i) by omega]; exact this
  | @cons l x gs L f h1 h2 ht ih =>
    intro s₀ s r J₀ hsub g hv
    rw [cnt_cons]
    refine gi_turn (m := 4) (roomF (n := 4) R) (g.sub hsub) fun s₃ g3 => ?_
    refine seg_execs_cons (seg_tst (m := 4) (b := false) ?_ (roomF (n := 4) R) g3 fun s₄ g4 => ?_)
    · have := CmpS.eqI (w := w) (n := 4) (a := x) (b := 127)
      rw [show (x == 127) = false by simpa using h1] at this
      exact TstS.cmp (a := .int x) (b := .int 127) (by walk_at "name") (by walk_at "name") this
    · rw [if_neg (by decide)]
      refine seg_execs_nil ?_
      refine seg_execs_cons (seg_tst (m := 4) (b := false) ?_ (roomF (n := 4) R) g4 fun s₅ g5 => ?_)
      · have := CmpS.eqI (w := w) (n := 4) (a := x) (b := 0)
        rw [show (x == 0) = false by simpa using h2] at this
        exact TstS.cmp (a := .int x) (b := .int 0) (by walk_at "name") EvS.int this
      · rw [if_neg (by decide)]
        refine seg_execs_nil ?_
        refine gi_yield (m := 4) (x := x) (by walk_at "name") (roomF (n := 4) R) g5 rfl rfl rfl J₀ ?_ ?_ (fun s' hn J' g' => ?_)
        · have := hv 0 (by rw [List.length_cons]; omega)
          rw [cnt_cons] at this; exact this
        · intro h
          unfold cnt at h
          cases f
          · rfl
          · simp at h
        · refine seg_stm (Stm.assign (d := .int x) (.pure (by walk_at "name")) (by walk_at "st") (by walk_at "sw")) (roomF (n := 4) R) g' fun s₇ g7 => ?_
          refine seg_execs_nil ?_
          refine seg_again rfl (ih s' s₇ J' ?_ g7 fun i hi => ?_)
          · walk_at "sub"
          · have := hv (i + 1) (by rw [List.length_cons]; omega)
            rw [cnt_cons, List.getElem_cons_succ] at this
            rw [show cnt L f - 1 - i = cnt L f + 1 - 1 - (i + 1) by omega]; exact this
end
end
section
-- J5
variable {w : World}
open Sem (wp)
theorem roomU {n : Nat} {A : Around} {b : List Stmt} {env : Env} (R : Rm (n + 2) A) : Rm n (A.over (.func b env) []) := by
  refine ⟨R.handled, ?_, ?_⟩
  · have := R.depth
    show A.depth + 0 + 1 + n < _
    omega
  · have := R.units
    show A.units + 0 + 3 + 10 * n < _
    omega
section
variable {A : Around} {n m : Nat} {s₀ : Shared} {s : Shared} {C I c0 : Addr} {OUT Wb : Addr → Prop} {val : Nat → Int} {fin : Bool}
theorem gi_func (R : Rm 6 A) {ru L : List Int} (h : Tells none ru L fin) (S : StA c0 OUT (fun _ => False) s (gEnv C) [("grouping", .list (ru.map .int))] [] s a0) (hv : ∀ i (hi : i < L.length), val (cnt L fin - 1 - i) = L[i]) :
    Seg (model PRG w) A (Rg c0 OUT fin) (Yg c0 OUT val fin) (cnt L fin) s (.func giB (gEnv C)) ((model PRG w).den (.func giB (gEnv C))) [] s := by
  refine seg_func ?_
  have hS : Stm w 4 (dS (stAt 5)) [("grouping", .list (ru.map .int))] [] (giB.getD 0 (.Pass default)) (.next (gVL none ru) []) := Stm.assign (d := .none) (.pure EvS.none) (by walk_at "st") (by walk_at "sw")
  refine seg_execs_cons (seg_wrap (wpAny_mono (hS (A.over (.func giB (gEnv C)) []) c0 OUT _ s (gEnv C) s rfl (roomU (n := 4) R) ⟨a0, S⟩) (fun f s₁ q => ?_) fun _ _ z => z.elim))
  cases f with
  | next =>
    obtain ⟨ad', q⟩ := q
    have S1 : StA c0 OUT (fun _ => False) s (gEnv C) (gVL none ru) [] s₁ a0 := q.ad0
    have hV : Vars OUT (gEnv C) (gVL none ru) s₁.heap := by have := S1.vars; rw [OX_nil] at this; exact this
    refine seg_execs_cons (seg_For (wpAny_mono ((show EvS w 4 (dS (stAt 5)) (gVL none ru) _ (.list (ru.map .int)) from by walk_at "name") _ s₁ (gEnv C) OUT rfl (roomU (n := 4) R) S1.inv hV) (fun v s₂ e => ?_) fun _ _ z => z.elim))
    obtain ⟨E2, I2, hr⟩ := e
    have S2 := S1.step E2 I2
    refine iter_make .list hr fun o hof hos hit p => ?_
    have E3 : Eff s₂ { s₂ with heap := s₂.heap.push o } := Eff.push s₂ o s₂.toks
    have S3 := S2.step E3 (I2.push o)
    have hL : c0 ≤ s₂.heap.objs.size := by
      obtain ⟨m, nm, _⟩ := S2.vars.ns
      exact Nat.le_trans S2.lowL (Nat.le_of_lt nm.lt)
    have h196 := Nat.le_trans S2.n0 hL
    have hno : ∀ o', s.heap.get? s₂.heap.objs.size = some o' → False := fun o' e => by
      refine absurd (Heap.lt_size (S2.eff.keep _ _ e (fun t => ?_) ?_)) (Nat.lt_irrefl _)
      · simp only [tabs, List.mem_cons, List.not_mem_nil, or_false] at t
        have : s₂.heap.objs.size < 196 := by rcases t with t | t | t | t <;> rw [t] <;> decide
        exact absurd h196 (Nat.not_le.mpr this)
      · rintro (x | ⟨y, k, _⟩ | x)
        · obtain ⟨m, nm, _⟩ := S2.vars.ns
          have := nm.lt
          rw [← x] at this; exact Nat.lt_irrefl _ this
        · exact absurd k ((gEnv_nc C).1 y)
        · exact x
    refine gi_loop R h s _ S.inv (Sub.refl _) ⟨⟨S3.eff.weaken fun b x => ?_, fun p hp => (nomatch hp), S3.inv, S3.vars, S3.n0, S3.xlow, S3.lowL, S3.lowC, S3.cells, S3.apart, fun p hp => (nomatch hp), .nil⟩, hit, hL, fun o' e => (hno o' e).elim, ?_⟩ hv
    · rcases x with x | x | x
      · exact .inl x
      · exact .inr (.inl x)
      · exact x.elim
    · obtain ⟨m, nm, mi, _⟩ := S.vars.ns; exact ns_notG nm mi
  | _ => exact q.elim
end
section
variable {A : Around} {E : Value → Shared → Prop} {n : Nat} {s : Shared} {c0 : Addr} {OUT : Addr → Prop} {val : Nat → Int} {fin : Bool}
theorem room_any {st : GenStatus} {jp : PUnit → Sem PySem.Fin} {Q : PySem.Fin → Shared → Prop} (hst : st = GenStatus.fresh ∨ st = .suspended) (hl : s.heap.NoLimit) (hroom : A.depth < recursionLimit) (h : wpAny (model PRG w) A.in1 (jp ⟨⟩) Q E s) :
    wpAny (model PRG w) A.in1 (match st with | GenStatus.fresh => roomToWake >>= fun r => jp r | .suspended => roomToWake >>= fun r => jp r | _ => jp ⟨⟩) Q E s := by
  rcases hst with rfl | rfl <;> exact wpAny_bind (wpAny_roomToWake hl hroom h)
theorem gen_next {a : Addr} {g : Nat} {gs : GenState} {Q : Option Value → Shared → Prop} (hh : A.handled = none) (hl : s.heap.NoLimit) (hroom : A.depth < recursionLimit) (hg : s.heap.IsGen a g) (hgs : s.gens[g]? = some gs)
    (hgo : gs.Goes (model PRG w) A.in1 (Rg c0 OUT fin) (Yg c0 OUT val fin) n (.send .none) (s.setGen g .running))
    (hY : ∀ t s₁ gs', gs'.bare = true → (n - 1 = 0 → fin = false) → EffM (fun b => c0 ≤ b) (s.setGen g .running) s₁ → KS OUT s.heap s₁.heap → Inv s₁.heap →
      (n - 1 ≠ 0 → ∀ s'', Kz OUT s₁ s'' → gs'.Goes (model PRG w) A.in1 (Rg c0 OUT fin) (Yg c0 OUT val fin) (n - 1) (.send .none) s'') → Q (some (.int (val (n - 1)) t)) (s₁.setGen g gs'))
    (hD : n = 1 → fin = true → ∀ s₁ h', EffM (fun b => c0 ≤ b) (s.setGen g .running) s₁ → KS OUT s.heap s₁.heap → Inv s₁.heap → (∀ b o, s₁.heap.get? b = some o → h'.get? b = some o) → Q none { s₁.setGen g .finished with heap := h' }) :
    wpAny (model PRG w) A (pyNext (.ref a)) Q E s := by
  unfold pyNext
  refine wpAny_bind (wpAny_attempt (wpAny_callSpecial?_slot (name := Str.ofString "__next__") hg.typeIs slot_gen_next
    (wpAny_call_entry slot_gen_next hg.typeIs entry_gen_next ?_ (args_gen_next _))))
  show wpAny _ A.in1 (Builtin.Generator.genWake (.ref a) (.send .none)) _ _ s
  unfold Builtin.Generator.genWake
  refine wpAny_bind (wpAny_holding (wpAny_genNumber hg (wpAny_bind (wpAny_genState hgs ?_))))
  have hst : gs.status = GenStatus.fresh ∨ gs.status = .suspended := by
    cases gs with
    | fresh => exact .inl rfl
    | suspended => exact .inr rfl
    | running => exact hgo.elim
    | finished => exact hgo.elim
  generalize gs.status = st at hst ⊢
  refine room_any hst hl hroom ?_
  show wpAny _ A.in1 (.resume g (.send .none) [] _) _ _ s
  refine wpAny_resumeQ hgs hgo (fun x s₁ hx => ?_) (fun v s₁ gs' hb hv => ?_)
  · obtain ⟨rfl, h1, h2, h3, h4, h5⟩ := hx
    show wpAny _ A.in1 (newExc (.type "StopIteration") [] >>= _) _ _ _
    refine wpAny_bind ?_
    simp only [newExc, newTuple]
    refine wpAny_bind (wpAny_newObj_type ?_ (by size_fits))
    refine wpAny_bind (m := firstArgMember _ _) (wpAny_of_eq (a := Value.none) (by first | rfl | (simp only [firstArgMember]; rfl)) ?_)
    refine wpAny_newObj_type ?_ (by size_fits)
    simp only [raiseNew]
    refine wpAny_bind (wpAny_bind (wpAny_handled ?_))
    first | rw [show A.in1.handled = none from hh] | rw [hh]
    refine wpAny_throw ?_
    refine wpAny_bind (wpAny_isInstance (T := "StopIteration") (b := true) ⟨_, Heap.get?_push_size _ rfl, rfl⟩ isSubtype_stop ?_)
    exact wpAny_pure (hD h1 h2 s₁ _ h3 h4 h5 fun b o hb => Heap.get?_push_of_some _ (Heap.get?_push_of_some _ hb))
  · obtain ⟨⟨t, rfl⟩, y1, y2, y5, y3, y4⟩ := hv
    refine wpAny_pure ⟨_, rfl, wpAny_pure (hY t s₁ gs' hb y1 y2 y5 y3 fun hn s'' K => ?_)⟩
    have := y4 hn s'' K
    cases n with
    | zero => exact this.elim
    | succ m => exact this
end
end
section
-- J6
variable {w : World}
section
variable {A : Around} {s : Shared} {OUT : Addr → Prop} {val : Nat → Int} {fin : Bool}
theorem gi_make (R : Rm 2 A) {ru : List Int} (I : Inv s.heap) (B : XB OUT s.heap) {v : Value} (hr : Rp OUT s.heap (.list (ru.map .int)) v) {Q : Value → Shared → Prop}
    (hQ : ∀ a s', Eff s s' → Inv s'.heap → s'.heap.IsGen a s.gens.size → s'.gens[s.gens.size]? = some (.fresh (.func giB (gEnv s.heap.objs.size))) → s.heap.get? a = none → a ≠ s.heap.objs.size → ¬ OUT a →
      (∀ s'', Kz OUT s' s'' → StA s.heap.objs.size OUT (fun _ => False) s'' (gEnv s.heap.objs.size) [("grouping", .list (ru.map .int))] [] s'' a0) → Q (.ref a) s') :
    wpAny (model PRG w) A (call (.ref 42) [v]) Q (fun _ _ => False) s := by
  obtain ⟨ob, oc, cvs, t, a, b, c, e, f, g, hq⟩ := I.fns (42, fdGI, 41) (by walk_at "mem")
  refine wpAny_call ?_
  refine codeAny_call_generator (fd := fdGI) (body := giB) (by have := R.depth; omega) a c rfl rfl rfl ⟨_, oc, cvs, t, e, f, g, hq⟩ ?_
  refine wpAny_of_eq (a := [(Str.ofString "grouping", v)]) rfl ?_
  refine wpAny_newFunctionEnv (binds := [(Str.ofString "grouping", v)]) (by decide +kernel) (fun x hx => by simp only [List.mem_cons, List.not_mem_nil, or_false] at hx; subst hx; rfl) (fun h' hN sb => ?_) rfl
  have keep1 : ∀ b o, s.heap.get? b = some o → h'.get? b = some o := fun b o e => (sb.2 b (Nat.ne_of_lt (Heap.lt_size e))).trans (Heap.get?_push_of_some _ e)
  have I1 : Inv h' := I.keeps keep1
  have hsz : h'.objs.size = s.heap.objs.size + 1 := by rw [sb.1, Heap.size_push]
  refine ⟨I1.nolimit, ?_⟩
  have keep2 : ∀ (o' : Obj) b o, s.heap.get? b = some o → (h'.push o').get? b = some o := fun o' b o e => Heap.get?_push_of_some _ (keep1 _ _ e)
  have nO : ∀ x, s.heap.objs.size ≤ x → ¬ OUT x := fun x hx y => by obtain ⟨_, o, e⟩ := B x y; exact absurd (Heap.lt_size e) (Nat.not_lt.mpr hx)
  refine hQ h'.objs.size _ ⟨rfl, fun k gs e => ?_, fun x => x.push rfl, fun b o e _ _ => keep2 _ b o e⟩ (I.keeps (keep2 _)) ⟨_, _, _, Heap.get?_push_size _ rfl, rfl, rfl, rfl⟩ (Array.getElem?_push_size ..) (Heap.get?_none_of_le (by rw [hsz]; exact Nat.le_succ _)) (by rw [hsz]; exact Nat.succ_ne_self _) (nO _ (by rw [hsz]; exact Nat.le_succ _)) fun s'' K => ?_
  · show (s.gens.push _)[k]? = some gs
    have hlt : k < s.gens.size := by
      rcases Nat.lt_or_ge k s.gens.size with h' | h'
      · exact h'
      · rw [Array.getElem?_eq_none h'] at e; cases e
    rw [Array.getElem?_push_lt hlt, ← e, Array.getElem?_eq_getElem hlt]
  · have hC : ∀ a, OX OUT [] a0 a → OUT a := fun a x => by rw [OX_nil] at x; exact x
    let oG : Obj := { cls := .type "generator", data := .fields #[.int s.gens.size 0, .str fdGI.name (s.toks + [((Str.ofString "grouping"), v)].length), .str fdGI.qualname (s.toks + [((Str.ofString "grouping"), v)].length + 1)] }
    have S : StA s.heap.objs.size OUT (fun _ => False) { s with heap := h'.push oG } (gEnv s.heap.objs.size) [("grouping", .list (ru.map .int))] [] { s with heap := h'.push oG } a0 := by
      refine ⟨EffM.refl _ _, fun p hp => (nomatch hp), I.keeps (keep2 _), ⟨fun x y => ?_, rfl, rfl, rfl, ⟨_, hN.push _, rfl, fun y d e k => ?_⟩, fun y d e k => ?_⟩, I.big, fun x y => ?_, Nat.le_refl _, fun x c k _ => absurd k ((gEnv_nc _).1 x), fun x k => absurd k ((gEnv_nc _).1 x), fun x y c e _ => (nomatch e), fun p hp => (nomatch hp), .nil⟩
      · obtain ⟨t, o, e⟩ := B x (hC x y); exact ⟨t, o, keep2 _ _ _ e⟩
      · have hm : (y, d) ∈ ([("grouping", .list (ru.map .int))] : VL) := mem_of_lookup e
        simp only [List.mem_cons, List.not_mem_nil, or_false, Prod.mk.injEq] at hm
        obtain ⟨rfl, rfl⟩ := hm
        exact ⟨v, rfl, by rw [OX_nil]; exact hr.keep fun b o e _ _ => keep2 _ b o e⟩
      · rcases k with k | k
        · exact absurd k ((gEnv_nc _).1 y)
        · exact absurd k ((gEnv_nc _).2 y)
      · obtain ⟨t, o, e⟩ := B x y; exact Heap.lt_size e
    have S' := S.consumed (s' := s'') ⟨K.inv, K.bnd, fun b o e h1 h2 => K.keep b o e h1 h2⟩ (gEnv_nc _).1 (gEnv_nc _).2
    exact S'
theorem gi_call (R : Rm 2 A) {ru L : List Int} (h : Tells none ru L fin) (hv : ∀ i (hi : i < L.length), val (cnt L fin - 1 - i) = L[i]) (I : Inv s.heap) (B : XB OUT s.heap) {v : Value} (hr : Rp OUT s.heap (.list (ru.map .int)) v) {Q : Value → Shared → Prop}
    (hQ : ∀ a gs s', Eff s s' → Inv s'.heap → s'.heap.IsGen a s.gens.size → s'.gens[s.gens.size]? = some gs → s.heap.get? a = none → ¬ OUT a →
      (∀ (A' : Around) s'', Rm 6 A' → Kz OUT s' s'' → gs.Goes (model PRG w) A' (Rg s.heap.objs.size OUT fin) (Yg s.heap.objs.size OUT val fin) (cnt L fin) (.send .none) s'') → Q (.ref a) s') :
    wpAny (model PRG w) A (call (.ref 42) [v]) Q (fun _ _ => False) s :=
  gi_make R I B hr fun a s' h1 h2 h3 h4 h5 _ h6 h7 => hQ a _ s' h1 h2 h3 h4 h5 h6 fun A' s'' R' K => ⟨rfl, gi_func R' h (h7 s'' K) hv⟩
end
end
section
-- J7
variable {w : World}
theorem setGen_gens {s : Shared} {g k : Nat} {x y : GenState} (h : k < g ∨ k ≠ g) (e : s.gens[k]? = some y) : (s.setGen g x).gens[k]? = some y := by
  have : g ≠ k := by omega
  simp [Shared.setGen, this, e]
theorem bare_setGen {s : Shared} {g : Nat} {x : GenState} (hs : AllBare s.gens) (hx : x.bare = true) : AllBare (s.setGen g x).gens := fun y hy => by
  obtain ⟨i, hi, rfl⟩ := Array.mem_iff_getElem.mp hy
  simp only [Shared.setGen] at hi ⊢
  have hi' : i < s.gens.size := by simpa using hi
  rw [Array.getElem_setIfInBounds hi']
  · split
    · exact hx
    · exact hs _ (Array.getElem_mem _)
section
variable {A : Around} {n₀ c0 : Nat} {X₀ Wb OUT : Addr → Prop} {sc s s₁ : Shared} {env : Env} {r o : VL} {ad : Str → Addr} {g : Nat} {gs' : GenState} {h' : Heap}
theorem StA.genStep (S : StA n₀ X₀ Wb sc env r o s ad) (E : EffM (fun b => c0 ≤ b) (s.setGen g .running) s₁) (K : SK OUT s.heap s₁.heap) (I1 : Inv s₁.heap) (hb : gs'.bare = true) (hg : ∀ k y, sc.gens[k]? = some y → k < g) (hc : ∀ b o, sc.heap.get? b = some o → b < c0)
    (hlow : env.locals < c0 ∧ ∀ p ∈ o, ad p.1 < c0) (hOUT : ∀ b, OUT b → b = env.locals ∨ OW o ad b) (nc : ∀ y, env.kindOf y ≠ some .cell) (nf : ∀ y, env.kindOf y ≠ some .free) (keep : ∀ b o, s₁.heap.get? b = some o → h'.get? b = some o) :
    StA n₀ X₀ Wb sc env r o { s₁.setGen g gs' with heap := h' } ad := by
  have hT : ∀ a, 196 ≤ a → a ∉ tabs := fun a ha t => by
    simp only [tabs, List.mem_cons, List.not_mem_nil, or_false] at t
    have : a < 196 := by rcases t with t | t | t | t <;> rw [t] <;> decide
    exact absurd ha (Nat.not_le.mpr this)
  have k1 : ∀ b o, b < c0 → b ∉ tabs → s.heap.get? b = some o → h'.get? b = some o := fun b o hlt ht e => keep _ _ (E.keep b o e ht (Nat.not_le.mpr hlt))
  obtain ⟨m, nm, mi, hm⟩ := S.vars.ns
  have nS := ns_notSeq nm mi
  have hL : ∀ ob, s.heap.get? env.locals = some ob → h'.get? env.locals = some ob := fun ob e => k1 _ ob hlow.1 (S.inv.ns_notTab nm) e
  have sk : SK (OX X₀ o ad) s.heap h' := fun b ob e c hx => keep _ _ (K b ob e c fun y => (hOUT b y).elim (fun z => nS ob (z ▸ e) c) fun z => hx (.inr z))
  have nm' : h'.Ns env.locals m := nm.at' hL
  have hown : ∀ p ∈ o, ∀ ob, s.heap.get? (ad p.1) = some ob → h'.get? (ad p.1) = some ob := fun p hp ob e => k1 _ ob (hlow.2 p hp) (hT _ (Nat.le_trans S.n0 (S.own p hp).1)) e
  refine ⟨⟨E.os.trans S.eff.os, fun k y e => ?_, fun x => bare_setGen (E.bare (bare_setGen (S.eff.bare x) rfl)) hb, fun b ob e t hM => k1 b ob (hc b ob e) t (S.eff.keep b ob e t hM)⟩, S.ownB, I1.keeps keep, ⟨fun x y => ?_, S.vars.kind, S.vars.glo, S.vars.bui, ⟨m, nm', mi, fun y d e k => ?_⟩, fun y d e k => ?_⟩, S.n0, S.xlow, S.lowL, S.lowC, fun x k => absurd k (nc x), S.apart, fun p hp => ?_, S.dist⟩
  · have hk := hg k y e
    exact setGen_gens (.inl hk) (E.gens k y (setGen_gens (.inl hk) (S.eff.gens k y e)))
  · obtain ⟨t, ob, e⟩ := S.vars.bnd x y
    refine ⟨t, ob, k1 x ob ?_ t e⟩
    rcases y with y | ⟨p, hp, z⟩
    · exact Nat.lt_of_lt_of_le (S.xlow x y) (Nat.le_trans S.lowL (Nat.le_of_lt hlow.1))
    · rw [← z]; exact hlow.2 p hp
  · obtain ⟨v, e1, e2⟩ := hm y d e k
    exact ⟨v, e1, e2.keep sk⟩
  · rcases k with k | k
    · exact absurd k (nc y)
    · exact absurd k (nf y)
  · obtain ⟨h1, h2, h3⟩ := S.own p hp
    refine ⟨h1, h2.keep (hown p hp) (fun _ y => .inl y) sk, ?_⟩
    rcases h3 with ⟨h3, m', h4, h5⟩ | ⟨h3, _⟩
    · exact .inl ⟨h3, m', h4.at' hL, h5⟩
    · exact absurd h3 (nc p.1)
end
end
section
-- J8
variable {w : World}
open PySem.Calls
noncomputable abbrev fdTD : FuncData := fdT 17 "_law_told" pmW 167
noncomputable abbrev tdB : List Stmt := dB (stAt 17)
noncomputable def tryB : Stmt → List Stmt | .Try b .. => b | _ => []
noncomputable abbrev tdFor : Stmt := (tryB (tdB.getD 1 (.Pass default))).getD 0 (.Pass default)
noncomputable abbrev tdR (ru : List Int) (most : Nat) : VL := [("ruler", .list (ru.map .int)), ("most", .int (most : Nat))]
theorem td_nc {env : Env} (hs : env.scope = dS (stAt 17)) : (∀ y, env.kindOf y ≠ some .cell) ∧ ∀ y, env.kindOf y ≠ some .free := by
  have h : ∀ x ∈ (dS (stAt 17)).names, x.2 ≠ .cell ∧ x.2 ≠ .free := by decide +kernel
  refine ⟨fun y k => ?_, fun y k => ?_⟩ <;> unfold Env.kindOf at k <;> rw [hs] at k
  · exact (h _ (mem_of_lookup k)).1 rfl
  · exact (h _ (mem_of_lookup k)).2 rfl
theorem appendA {n : Nat} {sc : Scope} {r o : VL} {n₀ : Nat} {X₀ Wb : Addr → Prop} {sb : Shared} {env : Env} {s : Shared} {A : Around} {ad : Str → Addr} {x : Str} {p apos pos spos : Pos} {e : Expr} {ds : List D} {d : D} (h : EvO w n sc r o e d) (hx : (x, .list ds) ∈ o) (hd : (x == ("__debug__" : Str)) = false) (hl : ds.length ≤ sizeLine)
    (hs : env.scope = sc) (R : Rm n A) (S : StA n₀ X₀ Wb sb env r o s ad)
    (hline : (apos.endLine == pos.line) = true := by rfl) (hst : ∀ env, starEach [e] env = [(false, eval e env)] := by intro _; rfl) (hbase : ∀ env, attributeBase (.Name x p) "append" env (eval (.Name x p) env) = eval (.Name x p) env := by intro _; rfl) :
    wpAny (model PRG w) A (exec (.Expr (.Call (.Attribute (.Name x p) "append" apos) [e] [] pos) spos) env) (fun f s' => f = .next ∧ StA n₀ X₀ Wb sb env r (setO x (.list (ds ++ [d])) o) s' ad) (fun _ _ => False) s := by
  have hi : interactive env = false := by
    unfold interactive; rw [S.vars.kind]; rfl
  refine wpAny_Expr ?_ hi
  refine wpAny_Call_append (hbase env) (by rw [hst env]; rfl) hline (by rw [hst env]; rfl) (S.ownVal hx hd ?_)
  obtain ⟨g1, g2, g3⟩ := S.own _ hx
  obtain ⟨vs, k, ha, hr⟩ := g2
  refine ⟨ad x, vs, rfl, ⟨_, k, ha, rfl, rfl, rfl⟩, wpAny_mono (h.evF hs R S) (fun y s₁ q => ?_) fun _ _ z => z⟩
  obtain ⟨S₁, E₁, hy⟩ := q
  obtain ⟨_, ⟨vs₁, k₁, ha₁, hr₁⟩, _⟩ := S₁.own _ hx
  have e1 := hr₁.length
  simp only [Array.length_toList] at e1
  refine wpAny_list_append_plain (items := vs₁) ⟨k₁, ha₁⟩ (fun h₅ hl₅ hs₅ => ?_) (by rw [e1]; exact hl)
  obtain ⟨k5, hl₅⟩ := hl₅
  refine ⟨rfl, S₁.change (tk := s₁.toks) hx (fun b ob hb e => (hs₅.2 b hb).trans e) ⟨vs₁.push y, k5, hl₅, ?_⟩⟩
  have sk : SK (OX X₀ o ad) s₁.heap h₅ := fun b ob e c hb => (hs₅.2 b fun z => hb (z ▸ .inr ⟨_, hx, rfl⟩)).trans e
  simpa using (hr₁.keep sk).append (RpL.cons (hy.keep sk) RpL.nil)
theorem td_body {n : Nat} {ru L : List Int} {most i : Nat} {x : Int} (hi : L[i]? = some x) (hz : L.length ≤ 1000) {A : Around} {n₀ : Nat} {X₀ Wb : Addr → Prop} {sb : Shared} {env : Env} {s : Shared} {ad : Str → Addr} (hs : env.scope = dS (stAt 17)) (R : Rm (n + 1) A)
    (S : StA n₀ X₀ Wb sb env (("size", .int x) :: tdR ru most) [("told", .list ((L.take i).map .int))] s ad) :
    wpAny (model PRG w) A (execs (foB tdFor) env) (fun f s' => if i + 1 = most then Pst n₀ X₀ Wb sb env (.ret (.list ((L.take (i + 1)).map .int))) f s' else f = .next ∧ StA n₀ X₀ Wb sb env (("size", .int x) :: tdR ru most) [("told", .list ((L.take (i + 1)).map .int))] s' ad) (fun _ _ => False) s := by
  have hlt : i < L.length := by rw [List.getElem?_eq_some_iff] at hi; exact hi.1
  have htk : (L.take (i + 1)).map D.int = (L.take i).map D.int ++ [.int x] := by
    rw [List.take_succ_eq_append_getElem hlt, List.map_append]
    rw [List.getElem?_eq_getElem hlt] at hi; cases hi; rfl
  have hlen : ((L.take (i + 1)).map D.int).length = i + 1 := by rw [List.length_map, List.length_take]; omega
  refine wpAny_execs_cons (wpAny_mono (appendA (x := "told") (d := .int x) (.pure (by walk_at "name")) (.head _) (by rfl) (by simp [sizeLine]; omega) hs R S) (fun f s₁ q => ?_) fun _ _ z => z)
  obtain ⟨rfl, S1⟩ := q
  rw [setO_one, ← htk] at S1
  have hc := CallS.len (w := w) (n := n + 1) (ds := (L.take (i + 1)).map D.int) (by rw [hlen]; omega)
  rw [hlen] at hc
  have he := CmpS.eqI (w := w) (n := n + 1) (a := ((i + 1 : Nat) : Int)) (b := (most : Nat))
  by_cases h : i + 1 = most
  · rw [show (((i + 1 : Nat) : Int) == (most : Nat)) = true by rw [h]; simp] at he
    have hB : Blk w (n + 1) (dS (stAt 17)) (("size", .int x) :: tdR ru most) [("told", .list ((L.take (i + 1)).map .int))] ((foB tdFor).drop 1) (.ret (.list ((L.take (i + 1)).map .int))) :=
      Blk.last (Stm.ite (b := true) (TstS.cmp (EvS.call (fv := .builtin "len") (by walk_at "name") KeepOk.bui (by walk_at "evl") hc) (by walk_at "name") he) (fun _ => Blk.last (Stm.ret (by walk_at "name"))) (fun z => nomatch z))
    refine wpAny_mono (hB A n₀ X₀ Wb sb env s₁ hs R ⟨ad, S1⟩) (fun f s' p => ?_) fun _ _ z => z
    rw [if_pos h]; exact p
  · rw [show (((i + 1 : Nat) : Int) == (most : Nat)) = false by simp; omega] at he
    have hT : TstS w (n + 1) (dS (stAt 17)) (([("told", .list ((L.take (i + 1)).map .int))] : VL) ++ (("size", .int x) :: tdR ru most : VL)) (q1 ((foB tdFor).getD 1 (.Pass default))) false :=
      TstS.cmp (EvS.call (fv := .builtin "len") (by walk_at "name") KeepOk.bui (by walk_at "evl") hc) (by walk_at "name") he
    refine wpAny_execs_cons (wpAny_If (wpAny_mono (hT A s₁ env X₀ hs R S1.inv S1.frz) (fun b s₂ q => ?_) fun _ _ z => z))
    obtain ⟨rfl, E2, I2⟩ := q
    refine wpAny_execs_nil (wpAny_execs_nil ?_)
    rw [if_neg h]
    exact ⟨rfl, S1.step E2 I2⟩
end
section
-- J9
variable {w : World}
open PySem.Calls
noncomputable def outT (ru L : List Int) (most : Nat) : Out := if most ≤ L.length then .ret (.list ((L.take most).map .int)) else .next (tdR ru most) [("told", .list (L.map .int))]
structure TI (w : World) (A : Around) (fin : Bool) (L ru : List Int) (val : Nat → Int) (most : Nat) (OUT : Addr → Prop) (c0 a g : Nat) (n₀ : Nat) (X₀ Wb : Addr → Prop) (sc : Shared) (env : Env) (ad : Str → Addr) (i : Nat) (s : Shared) : Prop where
  st : StA n₀ X₀ Wb sc env (tdR ru most) [("told", .list ((L.take i).map .int))] s ad
  gn : s.heap.IsGen a g
  go : ∃ gs, s.gens[g]? = some gs ∧ ∀ s'', Kz OUT s s'' → gs.Goes (model PRG w) A.in1 (Rg c0 OUT fin) (Yg c0 OUT val fin) (cnt L fin - i) (.send .none) s''
theorem Kz.refl {OUT : Addr → Prop} {s s' : Shared} (I : Inv s'.heap) (B : XB OUT s'.heap) (e : s'.heap = s.heap) : Kz OUT s s' := ⟨I, B, fun b o h _ _ => by rw [e]; exact h⟩
theorem told_for {n : Nat} {ru L : List Int} {fin : Bool} {most : Nat} (h : Tells none ru L fin) (hm : 1 ≤ most) (hfin : fin = false → most ≤ L.length) (hz : L.length ≤ 1000) :
    Stm w (n + 8) (dS (stAt 17)) (tdR ru most) [("told", .list [])] tdFor (outT ru L most) := fun A n₀ X₀ Wb sb env s hs R S => by
  obtain ⟨ad, S⟩ := S
  obtain ⟨nc, nf⟩ := td_nc hs
  let val : Nat → Int := fun j => L.getD (cnt L fin - 1 - j) 0
  have hv : ∀ i (hi : i < L.length), val (cnt L fin - 1 - i) = L[i] := fun i hi => by
    show L.getD (cnt L fin - 1 - (cnt L fin - 1 - i)) 0 = L[i]
    have : L.length ≤ cnt L fin := by unfold cnt; omega
    rw [show cnt L fin - 1 - (cnt L fin - 1 - i) = i by omega, List.getD_eq_getElem?_getD, List.getElem?_eq_getElem hi]; rfl
  refine wpAny_For (EvS.callK (n := n + 8) (ds := [.list (ru.map .int)]) (by walk_at "name") (KeepOk.fn (p := (42, fdGI, 41)) (by walk_at "mem")) (by walk_at "evl") (by intro _; rfl) hs R S.inv S.vars fun vs s₂ E2 I2 r2 => ?_) fun x => rfl
  obtain ⟨v, _, rfl, hr, q⟩ := r2.cons_inv
  have := q.nil_inv; subst this
  have S2 := S.step E2 I2
  let OUT : Addr → Prop := fun b => b = env.locals ∨ b = ad "told"
  obtain ⟨m, nm, mi, _⟩ := S2.vars.ns
  obtain ⟨t1, t2, t3⟩ := S2.own _ (.head _)
  obtain ⟨tv, tk, t2, _⟩ := t2
  have hoX : ad "told" ≠ env.locals := S2.nsOwn (.head _)
  have BO : XB OUT s₂.heap := fun b y => by
    rcases y with rfl | rfl
    · obtain ⟨o, _, _, e, _⟩ := id nm
      exact ⟨S2.inv.ns_notTab nm, o, e⟩
    · exact S2.vars.bnd _ (.inr ⟨_, .head _, rfl⟩)
  have hr' : Rp OUT s₂.heap (.list (ru.map .int)) v := by
    unfold Rp at hr ⊢
    obtain ⟨a, vs, k, rfl, hx, e, hl⟩ := hr
    refine ⟨a, vs, k, rfl, ?_, e, rplI hl⟩
    rintro (y | y)
    · exact ns_notSeq nm mi _ (y ▸ e) .list
    · exact hx (.inr ⟨_, .head _, y.symm⟩)
  refine gi_call (R.less (by omega)) h hv I2 BO hr' fun a gs s₃ E3 I3 hgn hgs haN haO hgo => ?_
  generalize hc0 : s₂.heap.objs.size = c0 at *
  generalize hg0 : s₂.gens.size = g at *
  have S3 := (S2.rebase).step E3 I3
  have hcl : ∀ b o, s₂.heap.get? b = some o → b < c0 := fun b o e => by rw [← hc0]; exact Heap.lt_size e
  have hgk : ∀ k y, s₂.gens[k]? = some y → k < g := fun k y e => by
    rw [← hg0]
    rcases Nat.lt_or_ge k s₂.gens.size with h' | h'
    · exact h'
    · rw [Array.getElem?_eq_none h'] at e; cases e
  have hlowL : env.locals < c0 := by obtain ⟨o, _, _, e, _⟩ := id nm; exact hcl _ _ e
  have hlowT : ad "told" < c0 := hcl _ _ t2
  have BOk : ∀ {s' : Shared} {d : D}, StA n₀ X₀ (OW [("told", .list [])] ad) s₂ env (tdR ru most) [("told", d)] s' ad → XB OUT s'.heap := fun {s' d} S' b y => by
    rcases y with rfl | rfl
    · obtain ⟨m, nm', _⟩ := S'.vars.ns
      obtain ⟨o, _, _, e, _⟩ := id nm'
      exact ⟨S'.inv.ns_notTab nm', o, e⟩
    · exact S'.vars.bnd _ (.inr ⟨_, .head _, rfl⟩)
  have fin' : ∀ f s', Pst n₀ X₀ (OW [("told", .list [])] ad) s₂ env (outT ru L most) f s' → Pst n₀ X₀ Wb sb env (outT ru L most) f s' := fun f s' p => by
    unfold outT at p ⊢
    split at p <;> rename_i hle
    · rw [if_pos hle]
      cases f with
      | ret v => exact ⟨S2.effBack p.1, p.2⟩
      | _ => exact p.elim
    · rw [if_neg hle]
      cases f with
      | next => obtain ⟨ad', p⟩ := p; exact ⟨ad', S2.back p⟩
      | _ => exact p.elim
  have hOUT : ∀ {d : D} b, OUT b → b = env.locals ∨ OW [("told", d)] ad b := fun {d} b y => y.imp id fun z => ⟨_, .head _, z.symm⟩
  have hlow : ∀ {d : D}, env.locals < c0 ∧ ∀ p ∈ ([("told", d)] : VL), ad p.1 < c0 := fun {d} => ⟨hlowL, fun p hp => by simp only [List.mem_cons, List.not_mem_nil, or_false] at hp; subst hp; exact hlowT⟩
  have haL : a ≠ env.locals := fun z => by obtain ⟨o, _, _, e, _⟩ := id nm; rw [z, e] at haN; cases haN
  have haT : a ≠ ad "told" := fun z => by rw [z, t2] at haN; cases haN
  have hcnt : cnt L fin = L.length + (if fin then 1 else 0) := rfl
  refine wpAny_pyIter_gen hgn ?_
  obtain ⟨RR, hR⟩ : ∃ RR : Result → Shared → Prop, ∀ rr s', RR rr s' ↔ match rr with | .ok f => Pst n₀ X₀ (OW [("told", .list [])] ad) s₂ env (outT ru L most) f s' | .error e => False := ⟨_, fun _ _ => Iff.rfl⟩
  obtain ⟨PP, hP⟩ : ∃ PP : Nat → Shared → Prop, ∀ k s', PP k s' ↔ ∃ i, i < most ∧ i ≤ L.length ∧ (i = L.length → fin = true) ∧ k = L.length - i + 1 ∧ TI w A fin L ru val most OUT c0 a g n₀ X₀ (OW [("told", .list [])] ad) s₂ env ad i s' := ⟨_, fun _ _ => Iff.rfl⟩
  refine codeAny_mono (codeAny_forLoop_any (R := RR) PP ?_ (L.length + 1) ((hP _ _).mpr ⟨0, hm, Nat.zero_le _, ?_, rfl, S3, hgn, gs, hgs, fun s'' K => hgo A.in1 s'' (R.in1.less (by omega)) K⟩)) (fun rr s' h => ?_)
  · intro k s' hPP
    obtain ⟨i, hi, hiL, hif, rfl, T⟩ := (hP _ _).mp hPP
    clear hPP
    obtain ⟨gs', hgs', hgo'⟩ := T.go
    refine gen_next (n := cnt L fin - i) R.handled T.st.inv.nolimit (Nat.lt_of_le_of_lt (Nat.le_add_right _ _) R.depth) T.gn hgs' (hgo' _ (Kz.refl T.st.inv (show XB OUT (s'.setGen g .running).heap from BOk (s' := s') T.st) rfl)) ?_ ?_
    · intro t s₁ gs1 hb h0 E1 K1 I1 hgo1
      have hlt : i < L.length := by
        rcases Nat.lt_or_ge i L.length with h | h
        · exact h
        · have e : i = L.length := by omega
          have hft := hif e
          rw [hcnt, hft] at h0
          have := h0 (by simp; omega)
          cases this
      have hval : val (cnt L fin - i - 1) = L[i] := by rw [show cnt L fin - i - 1 = cnt L fin - 1 - i by omega]; exact hv i hlt
      rw [hval]
      have S4 : StA n₀ X₀ (OW [("told", .list [])] ad) s₂ env (tdR ru most) [("told", .list ((L.take i).map .int))] (s₁.setGen g gs1) ad := T.st.genStep (h' := s₁.heap) E1 K1.1 I1 hb hgk hcl hlow hOUT nc nf (fun _ _ e => e)
      dsimp only
      refine wpAny_pure ?_
      refine wpAny_assign_Name (wpAny_mono (S4.rebase.store (x := "size") (d := .int L[i]) ⟨t, rfl⟩ hs (.inl (by rfl)) (by decide) (fun p hp => by simp only [List.mem_cons, List.not_mem_nil, or_false] at hp; subst hp; dsimp only; decide)) (fun _ s₅ q => ?_) fun _ _ z => z.elim)
      refine wpAny_mono (td_body (n := n + 7) (List.getElem?_eq_getElem hlt) hz hs R q) (fun f s₆ p => ?_) fun _ _ z => z.elim
      by_cases he : i + 1 = most
      · rw [if_pos he] at p
        cases f with
        | ret v =>
          obtain ⟨p1, p2, p3⟩ := p
          refine (hR _ _).mpr ?_
          show Pst n₀ X₀ (OW [("told", .list [])] ad) s₂ env (outT ru L most) (.ret v) s₆
          unfold outT
          rw [if_pos (by omega), ← he]
          exact ⟨S4.effBack p1, p2, p3⟩
        | _ => exact p.elim
      · rw [if_neg he] at p
        obtain ⟨rfl, p⟩ := p
        have S6 : StA n₀ X₀ (OW [("told", .list [])] ad) s₂ env (tdR ru most) [("told", .list ((L.take (i + 1)).map .int))] s₆ ad := (S4.back p).vsub (by walk_at "sub")
        have nMa : ¬ Mu env (OW [("told", .list ((L.take i).map .int))] ad) a := by
          rintro (x | ⟨y, k, _⟩ | ⟨p, hp, z⟩)
          · exact haL x
          · exact nc y k
          · simp only [List.mem_cons, List.not_mem_nil, or_false] at hp; subst hp; exact haT z.symm
        obtain ⟨og, gn1, gn2, go1, go2⟩ := T.gn
        have e4 : (s₁.setGen g gs1).heap.get? a = some og := K1.2 a og _ go1 go2.1 go2.2.1 (T.st.inv.notTab go1 (.inl (by rw [go2.1]; nofun)))
        refine ⟨L.length - (i + 1) + 1, by omega, (hP _ _).mpr ⟨i + 1, by omega, by omega, fun e => ?_, rfl, S6, ?_, gs1, p.eff.gens g gs1 ?_, fun s'' K => ?_⟩⟩
        · cases hf : fin with
          | true => rfl
          | false => have := hfin hf; omega
        · exact ⟨og, gn1, gn2, p.eff.keep _ _ e4 (S4.inv.notTab e4 (.inl (by rw [go2.1]; nofun))) nMa, go2⟩
        · exact setGen_self (E1.gens g .running (setGen_self hgs'))
        · have hn : cnt L fin - i - 1 ≠ 0 := fun z => by
            have hff := h0 z
            have := hfin hff
            rw [hcnt, hff] at z
            simp at z; omega
          have := hgo1 hn s'' ⟨K.inv, K.bnd, fun b o e k1 k2 => K.keep b o (p.eff.keep b o e k2 fun x => ?_) k1 k2⟩
          · rw [show cnt L fin - (i + 1) = cnt L fin - i - 1 by omega]; exact this
          · rcases x with x | ⟨y, k, _⟩ | ⟨p, hp, z⟩
            · exact k1 (.inl x)
            · exact nc y k
            · simp only [List.mem_cons, List.not_mem_nil, or_false] at hp; subst hp; exact k1 (.inr z.symm)
    · intro h1 h2 s₁ h' E1 K1 I1 keep
      have hi' : i = L.length := by rw [hcnt, h2] at h1; simp at h1; omega
      have S4 := T.st.genStep (gs' := .finished) (h' := h') E1 K1.1 I1 rfl hgk hcl hlow hOUT nc nf keep
      dsimp only
      refine wpAny_execs_nil ((hR _ _).mpr ?_)
      show Pst n₀ X₀ (OW [("told", .list [])] ad) s₂ env (outT ru L most) .next _
      unfold outT
      rw [if_neg (by omega)]
      rw [hi', List.take_length] at S4
      exact ⟨ad, S4⟩
  · intro e
    cases hf : fin with
    | true => rfl
    | false => have := hfin hf; omega
  · cases rr with
    | ok f => exact fin' f s' ((hR _ _).mp h)
    | error e => exact ((hR _ _).mp h).elim
end
section
-- J10
variable {w : World}
theorem Stm.tryOk {n : Nat} {sc : Scope} {r o : VL} {out : Out} {body : List Stmt} {h₀ : ExceptHandler} {hs : List ExceptHandler} {pos : Pos} (h : Blk w n sc r o body out) : Stm w n sc r o (.Try body (h₀ :: hs) [] [] pos) out := fun A n₀ X₀ Wb sb env s hs' R S => by
  refine wpAny_Try_except (wpAny_mono (h A n₀ X₀ Wb sb env s hs' R S) (fun f s₁ p => ?_) fun _ _ z => z.elim)
  cases f with
  | next => exact wpAny_execs_nil p
  | _ => exact p
theorem told_S {n : Nat} {ru L : List Int} {fin : Bool} {most : Nat} (h : Tells none ru L fin) (hm : 1 ≤ most) (hfin : fin = false → most ≤ L.length) (hz : L.length ≤ 1000) :
    CallS w (n + 9) (.ref 168) [.list (ru.map .int), .int (most : Nat)] (.list ((L.take most).map .int)) := by
  have hF := told_for (w := w) (n := n) h hm hfin hz
  by_cases hle : most ≤ L.length
  · unfold outT at hF
    rw [if_pos hle] at hF
    refine CallS.fn (p := (168, fdTD, 167)) (xs := ["ruler", "most"]) (by walk_at "mem") (by walk_at "fnok") rfl (out := .ret (.list ((L.take most).map .int))) rfl
      (Blk.cons (r' := tdR ru most) (o' := [("told", .list [])]) (Stm.newList (ds := []) EvL.nil (fun _ h => nomatch h) (by decide) (by rfl) (by decide) (fun _ h => nomatch h) (by rfl))
      (Blk.last (Stm.tryOk (Blk.last hF)))) rfl
  · unfold outT at hF
    rw [if_neg hle] at hF
    rw [List.take_of_length_le (by omega)]
    refine CallS.fn (p := (168, fdTD, 167)) (xs := ["ruler", "most"]) (by walk_at "mem") (by walk_at "fnok") rfl (out := .ret (.list (L.map .int))) rfl
      (Blk.cons (r' := tdR ru most) (o' := [("told", .list [])]) (Stm.newList (ds := []) EvL.nil (fun _ h => nomatch h) (by decide) (by rfl) (by decide) (fun _ h => nomatch h) (by rfl))
      (Blk.cons (Stm.tryOk (Blk.cons hF Blk.nil))
      (Blk.last (Stm.ret (by walk_at "name"))))) rfl
end
section
-- J11
variable {w : World}
section
variable {M : Model} {A : Around} {E : Value → Shared → Prop} {s : Shared} {base : Heap} {l : List Env} {e L : Addr} {cls a0 : Value}
theorem setFlight_L {Q : Unit → Shared → Prop} (hh : Heap.HeldW base l e cls a0 L s.heap) (hQ : ∀ h', Heap.HeldW base l e cls a0 L h' → s.heap.UpToSlots h' → Q () { s with heap := h' }) : wpAny M A (setFlight (.ref e) (some L)) Q E s := by
  obtain ⟨hkb, hen, hl, oe, vs, T, oT, ts, he, hcls, hd, h1, hnT, hTe, hT, hdT, h3⟩ := hh
  have hsz3 : 3 < ts.size := (Array.getElem?_eq_some_iff.mp h3).1
  have other : ∀ b, b ≠ T → (s.heap.update T (Obj.mapFields (·.setIfInBounds 3 ((some L : Option Addr).elim Value.none fun f => rawInt f)))).get? b = s.heap.get? b :=
    fun b hb => Heap.get?_update_other _ _ (Ne.symm hb)
  have noRecord : ∀ b o, s.heap.get? b = some o → (∀ vs, o.data ≠ .fields vs) → b ≠ T := fun b o hb hnf q => by
    rw [q, hT] at hb; injection hb with hb; subst hb; exact hnf ts hdT
  unfold setFlight
  refine wpAny_bind (wpAny_field he hd h1 ?_)
  rw [if_pos (show (Value.ref T != Value.none) = true from by simp)]
  refine wpAny_setField hT hdT hsz3 (hQ _ ⟨fun b o hbo => (other b fun q => by rw [q, hnT] at hbo; cases hbo).trans (hkb b o hbo), hen,
    hl.of_keeps fun b o hb hnf => ⟨o, (other b (noRecord b o hb hnf)).trans hb, rfl⟩, ?_⟩ fun b o hb hnf => ⟨o.slots, (other b (noRecord b o hb hnf)).trans hb⟩)
  exact ⟨oe, vs, T, _, _, (other e (Ne.symm hTe)).trans he, hcls, hd, h1, hnT, hTe, Heap.get?_update_self _ hT (Obj.isFreed_of_fields (Obj.data_mapFields hdT _)), Obj.data_mapFields hdT _, by simp [hsz3]⟩
theorem flight_field {β : Type} {fl : Value} {K : Value → Sem β} {Q : β → Shared → Prop} (ht : s.heap.TracedAtW base e cls a0 fl) (h : ∀ T : Addr, wpAny M A (K (.ref T)) Q E s) : wpAny M A (field (.ref e) 1 >>= K) Q E s := by
  obtain ⟨oe, vs, T, oT, ts, he, hcls, hd, h1, _⟩ := ht
  exact wpAny_bind (wpAny_field he hd h1 (h T))
theorem came_back {env : Env} (hf : env.frame = some L) (hh : Heap.HeldW base l e cls a0 L s.heap) (hQ : ∀ h', Heap.HeldW base l e cls a0 L h' → s.heap.UpToSlots h' → E (.ref e) { s with heap := h' }) : cameBackBy M A env E (.ref e) s := by
  unfold cameBackBy
  refine flight_field hh.2.2.2 fun T => ?_
  rw [if_neg (by simp), hf]
  exact setFlight_L hh hQ
theorem note_first {env : Env} {outer : List Env} {h : Heap} {args : List Value} {Q : Unit → Shared → Prop} (hfr : A.frames = some (env :: outer)) (hf : env.frame = some L) (hkb : base.StaysIn h) (hl : h.FunFrames base (env :: outer)) (hx : Heap.MadeExcOf h s.heap e cls args)
    (hQ : ∀ h' t, Heap.HeldW base (env :: outer) e cls (.ref t) L h' → s.heap.UpToSlots h' → Q () { s with heap := h' }) : wpAny M A (noteFrame (.ref e) env) Q E s := by
  obtain ⟨t, he, htn, ht⟩ := hx.there
  have fresh : ∀ b, h.get? b = none → base.get? b = none := fun b hb => by
    cases hq : base.get? b with
    | none => rfl
    | some o' => have := hkb b o' hq; rw [hb] at this; cases this
  unfold noteFrame
  simp only [hf]
  refine wpAny_bind (wpAny_field he rfl rfl ?_)
  rw [if_neg (by simp)]
  refine wpAny_entryW (a0 := .ref t) hfr (hl.of_keeps fun b o hb _ => ⟨o, hx.keeps b o hb, rfl⟩) hf he (fun b o hb => hx.keeps b o (hkb b o hb)) (fresh e hx.new) rfl (by simp) rfl fun h' hN => ?_
  obtain ⟨k1, k2, k3, k4⟩ := hN
  exact hQ h' t ⟨k1, fresh e hx.new, k2, k3⟩ k4
end
end
section
-- J12
variable {w : World}
open Sem (wp)
section
variable {A : Around} {Rq : GenEnd} {Y : Protocol} {n m : Nat} {s₀ : Shared} {s : Shared} {C I c0 : Addr} {OUT Wb : Addr → Prop}
theorem gi_enter (R : Rm 6 A) {ru : List Int} (S : StA c0 OUT (fun _ => False) s (gEnv C) [("grouping", .list (ru.map .int))] [] s a0)
    (kk : ∀ s₁ I p, GS c0 OUT s C I (gVL none ru) (ru.map .int) s₁ → s.heap.get? I = none → Seg (model PRG w) A Rq Y n s (.forLoop (foT giF) (.ref I) (foB giF) [] (gEnv C)) ((model PRG w).den (.forLoop (foT giF) (.ref I) (foB giF) [] (gEnv C))) (fsG (gEnv C) p) s₁) :
    Seg (model PRG w) A Rq Y n s (.func giB (gEnv C)) ((model PRG w).den (.func giB (gEnv C))) [] s := by
  refine seg_func ?_
  have hS : Stm w 4 (dS (stAt 5)) [("grouping", .list (ru.map .int))] [] (giB.getD 0 (.Pass default)) (.next (gVL none ru) []) := Stm.assign (d := .none) (.pure EvS.none) (by walk_at "st") (by walk_at "sw")
  refine seg_execs_cons (seg_wrap (wpAny_mono (hS (A.over (.func giB (gEnv C)) []) c0 OUT _ s (gEnv C) s rfl (roomU (n := 4) R) ⟨a0, S⟩) (fun f s₁ q => ?_) fun _ _ z => z.elim))
  cases f with
  | next =>
    obtain ⟨ad', q⟩ := q
    have S1 : StA c0 OUT (fun _ => False) s (gEnv C) (gVL none ru) [] s₁ a0 := q.ad0
    have hV : Vars OUT (gEnv C) (gVL none ru) s₁.heap := by have := S1.vars; rw [OX_nil] at this; exact this
    refine seg_execs_cons (seg_For (wpAny_mono ((show EvS w 4 (dS (stAt 5)) (gVL none ru) _ (.list (ru.map .int)) from by walk_at "name") _ s₁ (gEnv C) OUT rfl (roomU (n := 4) R) S1.inv hV) (fun v s₂ e => ?_) fun _ _ z => z.elim))
    obtain ⟨E2, I2, hr⟩ := e
    have S2 := S1.step E2 I2
    refine iter_make .list hr fun o hof hos hit p => ?_
    have E3 : Eff s₂ { s₂ with heap := s₂.heap.push o } := Eff.push s₂ o s₂.toks
    have S3 := S2.step E3 (I2.push o)
    have hL : c0 ≤ s₂.heap.objs.size := by
      obtain ⟨m, nm, _⟩ := S2.vars.ns
      exact Nat.le_trans S2.lowL (Nat.le_of_lt nm.lt)
    have h196 := Nat.le_trans S2.n0 hL
    have hno : s.heap.get? s₂.heap.objs.size = none := by
      cases e : s.heap.get? s₂.heap.objs.size with
      | none => rfl
      | some o' =>
        refine absurd (Heap.lt_size (S2.eff.keep _ _ e (fun t => ?_) ?_)) (Nat.lt_irrefl _)
        · simp only [tabs, List.mem_cons, List.not_mem_nil, or_false] at t
          have : s₂.heap.objs.size < 196 := by rcases t with t | t | t | t <;> rw [t] <;> decide
          exact absurd h196 (Nat.not_le.mpr this)
        · rintro (x | ⟨y, k, _⟩ | x)
          · obtain ⟨m, nm, _⟩ := S2.vars.ns
            have := nm.lt
            rw [← x] at this; exact Nat.lt_irrefl _ this
          · exact absurd k ((gEnv_nc C).1 y)
          · exact x
    refine kk _ _ p ⟨⟨S3.eff.weaken fun b x => ?_, fun p hp => (nomatch hp), S3.inv, S3.vars, S3.n0, S3.xlow, S3.lowL, S3.lowC, S3.cells, S3.apart, fun p hp => (nomatch hp), .nil⟩, hit, hL, fun o' e => (by rw [hno] at e; cases e), ?_⟩ hno
    · rcases x with x | x | x
      · exact .inl x
      · exact .inr (.inl x)
      · exact x.elim
    · obtain ⟨m, nm, mi, _⟩ := S.vars.ns; exact ns_notG nm mi
  | _ => exact q.elim
end
end
section
-- J13
variable {w : World}
open Sem (wp)
theorem funFrames_at {h h' base : Heap} : ∀ {l : List Env}, (∀ env ∈ l, ∀ L, env.frame = some L → ∀ o, h.get? L = some o → h'.get? L = some o) → h.FunFrames base l → h'.FunFrames base l
  | [], _, _ => trivial
  | env :: l, k, ⟨hk, ⟨L, o, hf, hn, ho, hd⟩, hr⟩ => ⟨hk, ⟨L, o, hf, hn, k env (.head _) L hf o ho, hd⟩, funFrames_at (fun e he => k e (.tail _ he)) hr⟩
structure BadEnd (base : Heap) (outer : List Env) (C : Addr) (s₀ s₁ : Shared) (e t : Addr) : Prop where
  fly : Heap.FlyingW base outer e (.type "ValueError") (.ref t) s₁.heap
  os : s₁.os = s₀.os
  gens : ∀ (g : Nat) (gs : GenState), s₀.gens[g]? = some gs → s₁.gens[g]? = some gs
  bare : AllBare s₀.gens → AllBare s₁.gens
  ns : ∀ L m, L ≠ C → s₀.heap.Ns L m → s₁.heap.Ns L m
theorem funFrames_mk {h base : Heap} : ∀ {l : List Env}, (∀ env ∈ l, env.scope.kind ≠ .module ∧ ∃ L o, env.frame = some L ∧ base.get? L = none ∧ h.get? L = some o ∧ ∀ vs, o.data ≠ .fields vs) → h.FunFrames base l
  | [], _ => trivial
  | env :: l, k => ⟨(k env (.head _)).1, (k env (.head _)).2, funFrames_mk fun e he => k e (.tail _ he)⟩
noncomputable def Rb (H : List Addr) (outer : List Env) (C : Addr) : GenEnd := fun _ s₀ r s₁ => ∃ e t hB, r = .error (.ref e) ∧ Inv hB ∧ (∀ b o, s₀.heap.get? b = some o → b ∉ H → b ∉ tabs → hB.get? b = some o) ∧ (∀ b ∈ H, ∀ o, hB.get? b = some o → ¬ codish o) ∧ BadEnd (hideAll hB H) outer C s₀ s₁ e t
theorem CmpS.isNN {n : Nat} : CmpS w n .Is .none .none (.bool true) := fun A s X va vb R I B p q => by
  have p : va = .none := p
  have q : vb = .none := q
  subst p; subst q
  exact is_none_none ⟨EffM.refl _ s, I, rfl⟩
section
variable {A : Around} {Y : Protocol} {n m : Nat} {s₀ : Shared} {s : Shared} {C I c0 : Addr} {OUT Wb : Addr → Prop}
theorem gi_bad (R : Rm 6 A) {outer : List Env} (hfr : A.frames = some outer) {gs : List Int} (S : StA c0 OUT (fun _ => False) s (gEnv C) [("grouping", .list ((0 :: gs).map .int))] [] s a0) {H : List Addr} (hC : C ∈ H) (hHn : ∀ b ∈ H, b ≠ C → ∃ m, s.heap.Ns b m)
    (hout : ∀ env ∈ outer, env.scope.kind ≠ .module ∧ ∃ L o, env.frame = some L ∧ L ∈ H ∧ L ≠ C ∧ L ∉ tabs ∧ s.heap.get? L = some o ∧ ∀ vs, o.data ≠ .fields vs) :
    Seg (model PRG w) A (Rb H outer C) Y n s (.func giB (gEnv C)) ((model PRG w).den (.func giB (gEnv C))) [] s := by
  refine gi_enter R S fun s₁ I p g hno => ?_
  refine gi_turn (m := 4) (roomF (n := 4) R) g fun s₃ g3 => ?_
  refine seg_execs_cons (seg_tst (m := 4) (b := false) ?_ (roomF (n := 4) R) g3 fun s₄ g4 => ?_)
  · exact TstS.cmp (a := .int 0) (b := .int 127) (by walk_at "name") (by walk_at "name") CmpS.eqI
  rw [if_neg (by decide)]
  refine seg_execs_nil ?_
  refine seg_execs_cons (seg_tst (m := 4) (b := true) ?_ (roomF (n := 4) R) g4 fun s₅ g5 => ?_)
  · exact TstS.cmp (a := .int 0) (b := .int 0) (by walk_at "name") EvS.int CmpS.eqI
  rw [if_pos rfl]
  refine seg_execs_cons (seg_tst (m := 4) (b := true) ?_ (roomF (n := 4) R) g5 fun s₆ g6 => ?_)
  · exact TstS.cmp (a := .none) (b := .none) (by walk_at "name") EvS.none CmpS.isNN
  rw [if_pos rfl]
  have hR := roomF (t := foT giF) (it := .ref I) (b := foB giF) (env := gEnv C) (k := runK (gEnv C) (K1 (gEnv C)) (Hf (gEnv C)) id id) (body := giB) (env' := gEnv C) (p := p) (n := 4) R
  have hV6 : Vars OUT (gEnv C) (("interval", .int 0) :: gVL none (0 :: gs)) s₆.heap := by have := g6.st.vars; rw [OX_nil] at this; exact this
  refine seg_execs_cons (seg_wrap (Raise_madeB F.excCall_ValueError F.excRaise_ValueError hR.handled ?_))
  refine wpAny_mono ((show EvS w 4 (dS (stAt 5)) (("interval", .int 0) :: gVL none (0 :: gs)) _ (.raw (.type "ValueError")) from by walk_at "name") _ s₆ (gEnv C) OUT rfl hR g6.st.inv hV6) (fun f s₇ q => ?_) fun _ _ z => z.elim
  obtain ⟨E7, I7, q⟩ := q
  refine ⟨q, ?_⟩
  have g7 := g6.step E7 I7
  refine Calls.spliced_cons (wpAny_Constant_str (k := 0) (pos := default) (Calls.spliced_nil ⟨by simp [sizeLine], fun h' e hx => ?_⟩))
  have E8 : Eff s₇ { s₇ with toks := s₇.toks + 1 } := Eff.tok s₇ _
  have g8 := g7.step E8 I7
  obtain ⟨args, hx⟩ : ∃ args, Heap.MadeExcOf ({ s₇ with toks := s₇.toks + 1 } : Shared).heap h' e (.type "ValueError") args := ⟨_, hx.of⟩
  generalize hs8 : ({ s₇ with toks := s₇.toks + 1 } : Shared) = s₈ at *
  have nM : ∀ b o, s.heap.get? b = some o → b ≠ C → ¬ Mu (gEnv C) (fun b => b = I) b := fun b o e hb x => by
    rcases x with x | ⟨y, k, _⟩ | x
    · exact hb x
    · exact absurd k ((gEnv_nc C).1 y)
    · rw [x, hno] at e; cases e
  have kp : ∀ b o, s.heap.get? b = some o → b ≠ C → b ∉ tabs → s₈.heap.get? b = some o := fun b o e hb ht => g8.st.eff.keep b o e ht (nM b o e hb)
  have hkb : (hideAll s₈.heap H).StaysIn s₈.heap := fun b o e => of_hideAll H e
  have hfr' : (A.over (.forLoop (foT giF) (.ref I) (foB giF) [] (gEnv C)) (fsG (gEnv C) p)).frames = some (gEnv C :: outer) := by
    show (A.frames.map ([gEnv C] ++ ·)) = _
    rw [hfr]; rfl
  have hfun8 : s₈.heap.FunFrames (hideAll s₈.heap H) (gEnv C :: outer) := by
    refine ⟨by show ScopeKind.function ≠ _; nofun, ?_, funFrames_mk fun env he => ?_⟩
    · obtain ⟨m, ⟨o, es, ep, e, d, _⟩, _⟩ := g8.st.vars.ns
      exact ⟨C, o, rfl, hideAll_none H hC, e, fun vs z => by rw [d] at z; cases z⟩
    · obtain ⟨h1, L, o, h2, h3, h4, h5, h6, h7⟩ := hout env he
      exact ⟨h1, L, o, h2, hideAll_none H h3, kp L o h6 h4 h5, h7⟩
  have hns8 : ∀ L m, L ≠ C → s.heap.Ns L m → s₈.heap.Ns L m := fun L m hL hn => hn.at' fun o e => kp L o e hL (S.inv.ns_notTab hn)
  have hk : ∀ {h' : Heap}, s₈.heap.UpToSlots h' → ∀ L m, L ≠ C → s.heap.Ns L m → h'.Ns L m := fun u L m hL hn => u.ns (hns8 L m hL hn)
  refine seg_wrap (wpAny_bind (note_first (L := C) hfr' rfl hkb hfun8 hx fun h₁ t hh u1 => wpAny_theTreesLotGoes (?_)))
  have u1' : s₈.heap.UpToSlots h₁ := (Heap.UpToSlots.of_keeps hx.keeps).trans u1
  show Seg _ _ _ _ _ _ _ (leafOf (.error (.ref e))) _ _
  refine seg_leaf (.error (.ref e)) ?_
  refine seg_wrap (wpAny_onRaise (wpAny_throw ?_))
  show wpAny _ _ (field (.ref e) 1 >>= _) _ _ _
  refine flight_field hh.2.2.2 fun T => ?_
  rw [if_neg (by simp)]
  refine setFlight_L hh fun h₂ hh2 u2 => ?_
  refine seg_wrap ?_
  unfold leaving
  refine wpAny_bind (wpAny_noteFrame_againW (L := C) rfl hh2.2.2.2 ?_)
  refine wpAny_landsW hh2 fun h₃ hfl u3 => ?_
  obtain ⟨f1, f2, ⟨_, _, f3⟩, f4⟩ := hfl
  refine seg_end (.error (.ref e)) ⟨e, t, s₈.heap, rfl, g8.st.inv, fun b o e hb ht => kp b o e (fun z => hb (z ▸ hC)) ht, fun b hb o e => ?_, ⟨f1, f2, f3, f4⟩, ?_, ?_, ?_, ?_⟩
  · by_cases hbC : b = C
    · obtain ⟨m, nm, _⟩ := g8.st.vars.ns
      exact ns_notCod nm o (by rw [hbC] at e; exact e)
    · obtain ⟨m, nm⟩ := hHn b hb hbC
      exact ns_notCod (hns8 b m hbC nm) o e
  · rw [← hs8] at g8 ⊢; exact g8.st.eff.os
  · rw [← hs8] at g8 ⊢; exact g8.st.eff.gens
  · rw [← hs8] at g8 ⊢; exact g8.st.eff.bare
  · exact hk (u1'.trans (u2.trans u3))
end
end
section
-- J14
variable {w : World}
theorem sub_ve_stop : isSubtype (.type "ValueError") (.type "StopIteration") = pure false := by rw [isSubtype_type]; kernel_rfl
section
variable {A : Around} {E : Value → Shared → Prop} {Y : Protocol} {n m : Nat} {s : Shared} {C I c0 : Addr} {OUT Wb : Addr → Prop}
theorem gen_raise {a : Addr} {g : Nat} {gs : GenState} {H : List Addr} {outer : List Env} {Q : Option Value → Shared → Prop} (hh : A.handled = none) (hl : s.heap.NoLimit) (hroom : A.depth < recursionLimit) (hg : s.heap.IsGen a g) (haH : a ∉ H) (haT : a ∉ tabs) (hgs : s.gens[g]? = some gs)
    (hgo : gs.Goes (model PRG w) A.in1 (Rb H outer C) (fun _ _ _ _ _ => False) n (.send .none) (s.setGen g .running))
    (hE : ∀ e t hB s₁, Inv hB → (∀ b o, s.heap.get? b = some o → b ∉ H → b ∉ tabs → hB.get? b = some o) → (∀ b ∈ H, ∀ o, hB.get? b = some o → ¬ codish o) → BadEnd (hideAll hB H) outer C (s.setGen g .running) s₁ e t → E (.ref e) (s₁.setGen g .finished)) : wpAny (model PRG w) A (pyNext (.ref a)) Q E s := by
  unfold pyNext
  refine wpAny_bind (wpAny_attempt (wpAny_callSpecial?_slot (name := Str.ofString "__next__") hg.typeIs slot_gen_next
    (wpAny_call_entry slot_gen_next hg.typeIs entry_gen_next ?_ (args_gen_next _))))
  show wpAny _ A.in1 (Builtin.Generator.genWake (.ref a) (.send .none)) _ _ s
  unfold Builtin.Generator.genWake
  refine wpAny_bind (wpAny_holding (wpAny_genNumber hg (wpAny_bind (wpAny_genState hgs ?_))))
  obtain ⟨og, nm, qn, go1, go2, go3, go4⟩ := id hg
  have hst : gs.status = GenStatus.fresh ∨ gs.status = .suspended := by
    cases gs with
    | fresh => exact .inl rfl
    | suspended => exact .inr rfl
    | running => exact hgo.elim
    | finished => exact hgo.elim
  generalize gs.status = st at hst ⊢
  refine room_any hst hl hroom ?_
  show wpAny _ A.in1 (.resume g (.send .none) [] _) _ _ s
  refine wpAny_resumeQ hgs hgo (fun x s₁ hx => ?_) (fun v s₁ gs' hb hv => hv.elim)
  obtain ⟨e, t, hp, rfl, hI, hk, hcd, hB⟩ := hx
  obtain ⟨ob, hob, hoc⟩ := hB.fly.there
  have ga : s₁.heap.get? a = some og := hB.fly.1 a og (hideAll_get H (hk a og go1 haH haT) haH)
  have hty : (s₁.setGen g .finished).TypeIs (.ref e) "ValueError" := ⟨ob, hob, hoc⟩
  show wpAny _ A.in1 (Builtin.Generator.genLeft (.ref a) (.ref e)) _ _ (s₁.setGen g .finished)
  unfold Builtin.Generator.genLeft Builtin.Generator.madeByALambda
  refine wpAny_bind (wpAny_bind (wpAny_load ga (wpAny_pure ?_)))
  refine wpAny_bind (wpAny_isInstance hty sub_ve_stop ?_)
  simp only [Bool.and_false, Bool.false_eq_true, if_false]
  unfold Builtin.Generator.genEscaped
  refine wpAny_bind (wpAny_isInstance hty sub_ve_stop ?_)
  simp only [Bool.not_false, if_true]
  first | exact wpAny_bind (wpAny_throw (wpAny_bind (wpAny_isInstance hty sub_ve_stop (by simp only [Bool.false_eq_true, if_false]; exact wpAny_throw (hE e t hp s₁ hI hk hcd hB))))) | exact wpAny_throw (wpAny_bind (wpAny_isInstance hty sub_ve_stop (by simp only [Bool.false_eq_true, if_false]; exact wpAny_throw (hE e t hp s₁ hI hk hcd hB))))
end
end
section
-- J15
variable {w : World}
open PySem.Calls
theorem rp_bare {X : Addr → Prop} {h : Heap} {d : D} {v : Value} (x : Rp X h d v) : Rp (fun _ => False) h d v := x.mono (fun _ y => y.elim) fun _ _ e _ _ => e
theorem told_bad {n : Nat} {gs : List Int} {most : Int} {tm : Tok} {A : Around} {s : Shared} {envL : Env} {LL : Addr} {mL : Str → Option Value} {X : Addr → Prop} {v : Value} {Q : Value → Shared → Prop} (R : Rm (n + 12) A) (I : Inv s.heap) (hfr : A.frames = some [envL]) (hfL : envL.frame = some LL) (hkL : envL.scope.kind ≠ .module) (hLL : s.heap.Ns LL mL) (h196 : 196 ≤ LL)
    (hr : Rp X s.heap (.list ((0 :: gs).map .int)) v)
    (hQ : ∀ t s', EffM (fun b => b = LL) s s' → Inv s'.heap → (∀ m, s.heap.Ns LL m → s'.heap.Ns LL m) → Q (.str "refused" t) s') : wpAny (model PRG w) A (call (.ref 168) [v, .int most tm]) Q (fun _ _ => False) s := by
  refine call_sup (n := n + 11) (p := (168, fdTD, 167)) (by walk_at "mem") (body := tdB) (xs := ["ruler", "most"]) I R rfl (BindsTo.of_eq rfl) (by decide +kernel) rfl (by decide +kernel) rfl rfl rfl fun h₀ tk hN keep => wpAt_of_wpAny ?_
  have I₀ : Inv h₀ := I.keeps keep
  generalize hT : s.heap.objs.size = T at *
  have R' : Rm (n + 11) (A.deeper (callEnv fdTD T 168)) := R.deeper
  obtain ⟨nc, nf⟩ := td_nc (env := callEnv fdTD T 168) rfl
  have hfr' : (A.deeper (callEnv fdTD T 168)).frames = some [callEnv fdTD T 168, envL] := by
    show A.frames.map (callEnv fdTD T 168 :: ·) = _
    rw [hfr]; rfl
  let rT : VL := [("ruler", .list ((0 :: gs).map .int)), ("most", .int most)]
  have S : StA T (fun _ => False) (fun _ => False) { s with heap := h₀, toks := tk } (callEnv fdTD T 168) rT [] { s with heap := h₀, toks := tk } a0 := by
    refine ⟨EffM.refl _ _, fun p hp => (nomatch hp), I₀, ⟨fun x y => ?_, rfl, rfl, rfl, ⟨_, hN, rfl, fun y d e k => ?_⟩, fun y d e k => ?_⟩, by rw [← hT]; exact I.big, fun x y => y.elim, Nat.le_refl _, fun x c k _ => absurd k (nc x), fun x k => absurd k (nc x), fun x y c e _ => (nomatch e), fun p hp => (nomatch hp), .nil⟩
    · rw [OX_nil] at y; exact y.elim
    · have hm : (y, d) ∈ rT := mem_of_lookup e
      simp only [rT, List.mem_cons, List.not_mem_nil, or_false, Prod.mk.injEq] at hm
      rw [OX_nil]
      rcases hm with ⟨rfl, rfl⟩ | ⟨rfl, rfl⟩
      · exact ⟨v, rfl, (rp_bare hr).keep fun b o e _ _ => keep b o e⟩
      · exact ⟨_, rfl, tm, rfl⟩
    · rcases k with k | k
      · exact absurd k (nc y)
      · exact absurd k (nf y)
  have hnew : Stm w (n + 11) (dS (stAt 17)) rT [] (tdB.getD 0 (.Pass default)) (.next rT [("told", .list [])]) := Stm.newList (ds := []) EvL.nil (fun _ h => nomatch h) (by decide) (by rfl) (by decide) (fun _ h => nomatch h) (by rfl)
  refine wpAny_execs_cons (wpAny_mono (hnew _ T (fun _ => False) (fun _ => False) _ _ _ rfl R' ⟨a0, S⟩) (fun f s₁ p => ?_) fun _ _ z => z)
  cases f with
  | next =>
    obtain ⟨ad, S1⟩ := p
    refine wpAny_execs_cons (wpAny_gen fun Q1 hQ1 => wpAny_Try_except (wpAny_gen2 fun QT ET hQT hET => ?_))
    clear hQT
    refine wpAny_execs_cons (wpAny_For (wpAny_mono (EvS.callK (n := n + 11) (sc := dS (stAt 17)) (r := rT) (ds := [.list ((0 :: gs).map .int)]) (by walk_at "name") (KeepOk.fn (p := (42, fdGI, 41)) (by walk_at "mem")) (by walk_at "evl") (by intro _; rfl) rfl R' S1.inv S1.vars fun vs s₂ E2 I2 r2 => ?_) (fun _ _ z => z) fun _ _ z => z.elim) fun x => rfl)
    obtain ⟨v', _, rfl, hr', q⟩ := r2.cons_inv
    have := q.nil_inv; subst this
    have S2 := S1.step E2 I2
    refine gi_make (OUT := fun _ => False) (R'.less (by omega)) I2 (fun _ y => y.elim) (rp_bare hr') fun a s₃ E3 I3 hgn hgs haN haC _ hst => ?_
    have S3 := S2.step E3 I3
    generalize hc0 : s₂.heap.objs.size = c0 at *
    generalize hg0 : s₂.gens.size = g at *
    have nt : ∀ {b : Addr}, 196 ≤ b → b ∉ tabs := fun {b} hb t => by
      simp only [tabs, List.mem_cons, List.not_mem_nil, or_false] at t
      have : b < 196 := by rcases t with t | t | t | t <;> rw [t] <;> decide
      exact absurd hb (Nat.not_le.mpr this)
    have hT196 : 196 ≤ T := by rw [← hT]; exact I.big
    obtain ⟨oL, eL, epL, oL1, oL2, oL3⟩ := id hLL
    have hLT : LL < T := by rw [← hT]; exact Heap.lt_size oL1
    have kpS : ∀ {s' : Shared} {r o ad} , StA T (fun _ => False) (fun _ => False) { s with heap := h₀, toks := tk } (callEnv fdTD T 168) r o s' ad → ∀ b ob, s.heap.get? b = some ob → b ∉ tabs → s'.heap.get? b = some ob := fun {s' r o ad} S' b ob e t => by
      refine S'.eff.keep b ob (keep _ _ e) t ?_
      rintro (x | ⟨y, k, _⟩ | x)
      · have := Heap.lt_size e
        rw [x, hT] at this; exact Nat.lt_irrefl _ this
      · exact nc y k
      · exact x
    obtain ⟨m2, nT2, _⟩ := S2.vars.ns
    have nT2 : s₂.heap.Ns T m2 := nT2
    obtain ⟨oT, esT, epT, oT1, oT2, oT3⟩ := id nT2
    have hTc : T < c0 := by rw [← hc0]; exact Heap.lt_size oT1
    have hT3 : s₃.heap.get? T = some oT := E3.keep _ _ oT1 (nt hT196) fun z => z
    have hL3 : s₃.heap.get? LL = some oL := kpS S3 LL oL oL1 (nt h196)
    have haT : a ∉ tabs := fun t => by obtain ⟨ps, e⟩ := I2.tab a t; rw [haN] at e; cases e
    have haH : a ∉ [c0, T, LL] := fun h => by
      simp only [List.mem_cons, List.not_mem_nil, or_false] at h
      rcases h with h | h | h
      · exact haC h
      · rw [h, oT1] at haN; cases haN
      · rw [h, kpS S2 LL oL oL1 (nt h196)] at haN; cases haN
    refine wpAny_pyIter_gen hgn ?_
    refine codeAny_forLoop_any (fun k s' => s' = s₃) ?_ 0 rfl
    intro k s' hs'
    rw [hs']
    refine gen_raise (C := c0) (H := [c0, T, LL]) (outer := [callEnv fdTD T 168, envL]) (n := 1) R'.handled I3.nolimit (Nat.lt_of_le_of_lt (Nat.le_add_right _ _) R'.depth) hgn haH haT hgs
      ⟨rfl, gi_bad (OUT := fun _ => False) (c0 := c0) ((R'.less (m := 7) (by omega)).in1) hfr' (hst (s₃.setGen g .running) ⟨I3, fun _ y => y.elim, fun _ _ e _ _ => e⟩) (.head _) ?_ ?_⟩ (fun e t hp s₄ hI4 hk4 hcd hB => ?_)
    · intro b hb hne
      simp only [List.mem_cons, List.not_mem_nil, or_false] at hb
      rcases hb with rfl | rfl | rfl
      · exact absurd rfl hne
      · exact ⟨m2, nT2.at' fun o e => E3.keep _ _ e (nt hT196) fun z => z⟩
      · exact ⟨mL, hLL.at' fun o e => kpS S3 _ o e (nt h196)⟩
    · intro env he
      simp only [List.mem_cons, List.not_mem_nil, or_false] at he
      rcases he with rfl | rfl
      · exact ⟨by show ScopeKind.function ≠ _; nofun, T, oT, rfl, .tail _ (.head _), Nat.ne_of_lt hTc, nt hT196, hT3, fun vs z => by rw [oT2] at z; cases z⟩
      · exact ⟨hkL, LL, oL, hfL, .tail _ (.tail _ (.head _)), Nat.ne_of_lt (Nat.lt_trans hLT hTc), nt h196, hL3, fun vs z => by rw [oL2] at z; cases z⟩
    · refine wpAny_looks_onW (L := T) (A := A.deeper (callEnv fdTD T 168)) hfr' rfl hB.fly fun h₅ hh5 u5 => ?_
      refine came_back (L := T) rfl hh5 fun h₆ hh6 u6 => ?_
      refine hET _ _ (wpAny_noteFrame_againW (L := T) rfl hh6.2.2.2 ?_)
      clear hET
      refine wpAny_landsW hh6 fun h₇ hf7 u7 => ?_
      refine wpAny_handleBy_builtin (X := "ValueError") (T := "ValueError") (b := true) F.isExc_ValueError F.notTuple_ValueError (by rw [isSubtype_type]; kernel_rfl) ?_
      have hIof : ∀ {h : Heap}, (hideAll hp [c0, T, LL]).StaysIn h → Inv h := fun {h} st => by
        refine hI4.low (fun b ob hb e => st b ob (hideAll_get _ e fun z => ?_)) (fun b ob hc e => st b ob (hideAll_get _ e fun z => ?_))
        · simp only [List.mem_cons, List.not_mem_nil, or_false] at z
          rcases z with rfl | rfl | rfl
          · exact absurd (Nat.lt_trans (Nat.lt_of_le_of_lt hT196 hTc) hb) (Nat.lt_irrefl _)
          · exact absurd hb (Nat.not_lt.mpr hT196)
          · exact absurd hb (Nat.not_lt.mpr h196)
        · exact hcd b z ob e hc
      have I7 : Inv h₇ := hIof hf7.1
      refine wpAny_Name ?_ (by rfl)
      rw [loadName_read (env := callEnv fdTD T 168) (x := "ValueError") rfl (by rfl)]
      refine (GD.bui (x := "ValueError") (v := .type "ValueError") (by simp [btab])).load (X := fun _ => False) rfl rfl I7 fun c hc => ?_
      obtain ⟨ob, ob1, ob2⟩ := hf7.there
      refine ⟨hc, ⟨ob, ob1, ob2⟩, ?_⟩
      rw [if_pos rfl]
      refine lands_againW hf7 fun h₈ hf8 u8 => ?_
      refine wpAny_execs_cons (wpAny_Return_some (wpAny_Constant_str ?_))
      have hgk : ∀ k y, s.gens[k]? = some y → k < g := fun k y e => by
        have e2 := S2.eff.gens k y e
        rw [← hg0]
        rcases Nat.lt_or_ge k s₂.gens.size with h' | h'
        · exact h'
        · rw [Array.getElem?_eq_none h'] at e2; cases e2
      refine hQ1 _ _ (hQ _ _ ⟨?_, fun k y e => ?_, fun x => ?_, fun b ob e t hb => ?_⟩ (hIof hf8.1) fun m hm => ?_)
      · exact hB.os.trans S3.eff.os
      · exact setGen_gens (.inl (hgk k y e)) (hB.gens k y (setGen_gens (.inl (hgk k y e)) (S3.eff.gens k y e)))
      · exact bare_setGen (hB.bare (bare_setGen (S3.eff.bare x) rfl)) rfl
      · have hbT : b < T := by rw [← hT]; exact Heap.lt_size e
        have hbH : b ∉ [c0, T, LL] := fun h => by
          simp only [List.mem_cons, List.not_mem_nil, or_false] at h
          rcases h with h | h | h
          · rw [h] at hbT; exact absurd (Nat.lt_trans hbT hTc) (Nat.lt_irrefl _)
          · rw [h] at hbT; exact Nat.lt_irrefl _ hbT
          · exact hb h
        exact hf8.1 b ob (hideAll_get _ (hk4 b ob (kpS S3 b ob e t) hbH t) hbH)
      · have h3 : s₃.heap.Ns LL m := hm.at' fun o e => kpS S3 _ o e (nt h196)
        exact u8.ns (u7.ns (u6.ns (u5.ns (hB.ns LL m (Nat.ne_of_lt (Nat.lt_trans hLT hTc)) h3))))
  | _ => exact p.elim
end
section
-- M2
variable {w : World}
noncomputable def like {α : Type} [DecidableEq α] : List α → Nat
  | [] => 0
  | x :: l => l.count x + like l
section
variable {α β : Type} [DecidableEq α] [DecidableEq β]
theorem like_snoc (a : α) : ∀ l : List α, like (l ++ [a]) = like l + l.count a
  | [] => rfl
  | x :: l => by
    show (l ++ [a]).count x + like (l ++ [a]) = l.count x + like l + (x :: l).count a
    rw [like_snoc a l, List.count_append, List.count_cons (b := x) (l := l)]
    have : ([a] : List α).count x = if x == a then 1 else 0 := by
      by_cases h : x = a
      · subst h; simp
      · rw [List.count_singleton, if_neg (by simpa using fun e => h e.symm), if_neg (by simpa using h)]
    rw [this]
    omega
theorem like_perm {l l' : List α} (h : l.Perm l') : like l = like l' := by
  induction h with
  | nil => rfl
  | cons x p ih => show _ + _ = _ + _; rw [ih, p.count_eq]
  | swap x y l =>
    show (x :: l).count y + (l.count x + like l) = (y :: l).count x + (l.count y + like l)
    rw [List.count_cons, List.count_cons]
    have : (if x == y then 1 else 0) = (if y == x then 1 else 0) := by
      by_cases h : x = y
      · subst h; rfl
      · rw [if_neg (by simpa using h), if_neg (by simpa using fun e => h e.symm)]
    rw [this]; omega
  | trans _ _ a b => exact a.trans b
theorem count_map_congr {γ : Type} {f : γ → α} {g : γ → β} {x : γ} : ∀ l : List γ, (∀ y ∈ l, f y = f x ↔ g y = g x) → (l.map f).count (f x) = (l.map g).count (g x)
  | [], _ => rfl
  | y :: l, h => by
    rw [List.map_cons, List.map_cons, List.count_cons, List.count_cons, count_map_congr l fun z hz => h z (.tail _ hz)]
    have := h y (.head _)
    by_cases e : f y = f x
    · rw [if_pos (by simpa using e), if_pos (by simpa using this.mp e)]
    · rw [if_neg (by simpa using e), if_neg (by simpa using fun q => e (this.mpr q))]
theorem like_congr {γ : Type} {f : γ → α} {g : γ → β} : ∀ l : List γ, (∀ x ∈ l, ∀ y ∈ l, f y = f x ↔ g y = g x) → like (l.map f) = like (l.map g)
  | [], _ => rfl
  | x :: l, h => by
    show _ + _ = _ + _
    rw [count_map_congr l fun y hy => h x (.head _) y (.tail _ hy), like_congr l fun a ha b hb => h a (.tail _ ha) b (.tail _ hb)]
theorem like_takes (l : List α) (d : α) : like l = ((List.range l.length).map fun k => (l.take k).count (l.getD k d)).sum := by
  induction l using snoc_ind with
  | h0 => rfl
  | hs l a ih =>
    rw [like_snoc, ih, List.length_append, List.length_singleton, List.range_succ, List.map_append, List.sum_append]
    congr 1
    · congr 1
      apply List.map_congr_left
      intro k hk
      have hk := List.mem_range.mp hk
      rw [List.take_append_of_le_length (Nat.le_of_lt hk), List.getD_eq_getElem?_getD, List.getD_eq_getElem?_getD, List.getElem?_append_left hk]
    · simp
end
theorem likeI_like (l : List Int) : likeI l = (like l : Nat) := by
  rw [like_takes l 0]
  unfold likeI
  generalize List.range l.length = r
  induction r with
  | nil => rfl
  | cons k r ih => rw [List.map_cons, List.sum_cons, ih, List.map_cons, List.sum_cons]; push_cast; rfl
theorem sgn_zero {a b : Str} (h : leS a b = true) : sgn a b = 0 ↔ a = b := by
  unfold sgn
  have h1 := leS_iff.mp h
  rw [decide_eq_false h1]
  constructor
  · intro e
    have : ¬ a.cps.toList < b.cps.toList := fun q => by rw [decide_eq_true q] at e; exact absurd e (by decide)
    exact leS_anti a b h (leS_iff.mpr this)
  · intro e
    subst e
    rw [decide_eq_false h1]; rfl
theorem runA_count {l : List Str} (hs : l.Pairwise fun a b => leS a b = true) : ∀ i : Nat, i < l.length → runA l i = ((l.take i).count (l.getD i Str.empty) : Nat)
  | 0, _ => rfl
  | i + 1, h => by
    have hi : i < l.length := by omega
    have ih := runA_count hs i hi
    have ea : l.getD i Str.empty = l[i] := by rw [List.getD_eq_getElem?_getD, List.getElem?_eq_getElem hi]; rfl
    have eb : l.getD (i + 1) Str.empty = l[i + 1] := by rw [List.getD_eq_getElem?_getD, List.getElem?_eq_getElem h]; rfl
    rw [ea] at ih
    show (if sgn (l.getD i Str.empty) (l.getD (i + 1) Str.empty) = 0 then runA l i + 1 else 0) = _
    rw [ea, eb]
    rw [List.pairwise_iff_getElem] at hs
    have hle := hs i (i + 1) hi h (by omega)
    have ht : l.take (i + 1) = l.take i ++ [l[i]] := List.take_succ_eq_append_getElem hi
    by_cases he : l[i] = l[i + 1]
    · rw [if_pos ((sgn_zero hle).mpr he), ih, ht, ← he, List.count_append, List.count_singleton_self]
      push_cast; rfl
    · rw [if_neg (fun z => he ((sgn_zero hle).mp z))]
      have : (l.take (i + 1)).count l[i + 1] = 0 := by
        rw [List.count_eq_zero]
        intro hm
        obtain ⟨j, hj, e⟩ := List.mem_iff_getElem.mp hm
        have hj' : j < i + 1 := by rw [List.length_take] at hj; omega
        rw [List.getElem_take] at e
        rcases Nat.lt_or_ge j i with h3 | h3
        · have h1 := hs j i (by omega) hi h3
          rw [e] at h1
          exact he (leS_anti _ _ hle h1)
        · have : j = i := by omega
          subst this
          exact he e
      rw [this]; rfl
theorem run_like (ss : List Str) : runP (srt ss) (ss.length - 1) = (like ss : Nat) := by
  have hp : (srt ss).Perm ss := List.mergeSort_perm _ _
  have hs : (srt ss).Pairwise fun a b => leS a b = true := List.pairwise_mergeSort leS_trans leS_total _
  rw [← like_perm hp, like_takes (srt ss) Str.empty, srt_len]
  generalize hl : srt ss = l at *
  have hlen : l.length = ss.length := by rw [← hl, srt_len]
  have key : ∀ i, i < l.length → runP l i = (((List.range (i + 1)).map fun k => (l.take k).count (l.getD k Str.empty)).sum : Nat) := by
    intro i
    induction i with
    | zero => intro _; rfl
    | succ i ih =>
      intro h
      have e : runP l (i + 1) = runP l i + runA l (i + 1) := sum_range_succ (fun m => runA l (m + 1)) i
      rw [e, ih (by omega), List.range_succ (n := i + 1), List.map_append, List.sum_append, runA_count hs (i + 1) h]
      push_cast
      simp
  rcases Nat.eq_zero_or_pos ss.length with h0 | h0
  · rw [h0]; rfl
  · have := key (ss.length - 1) (by omega)
    rw [this, show ss.length - 1 + 1 = ss.length by omega]
end
section
-- M3
variable {w : World}
noncomputable def sumR (n : Nat) (f : Nat → Nat) : Nat := ((List.range n).map f).sum
theorem sumR_succ (n : Nat) (f : Nat → Nat) : sumR (n + 1) f = sumR n f + f n := by
  unfold sumR; rw [List.range_succ, List.map_append, List.sum_append]; simp
theorem sumR_add (n : Nat) (f g : Nat → Nat) : sumR n (fun i => f i + g i) = sumR n f + sumR n g := by
  induction n with
  | zero => rfl
  | succ n ih => rw [sumR_succ, sumR_succ, sumR_succ, ih]; omega
theorem sumR_zero (n : Nat) : sumR n (fun _ => 0) = 0 := by
  induction n with
  | zero => rfl
  | succ n ih => rw [sumR_succ, ih]
theorem sumR_congr {n : Nat} {f g : Nat → Nat} (h : ∀ i, i < n → f i = g i) : sumR n f = sumR n g := by
  induction n with
  | zero => rfl
  | succ n ih => rw [sumR_succ, sumR_succ, ih fun i hi => h i (by omega), h n (by omega)]
theorem sumR_le {n : Nat} {f g : Nat → Nat} (h : ∀ i, i < n → f i ≤ g i) : sumR n f ≤ sumR n g := by
  induction n with
  | zero => exact Nat.le_refl _
  | succ n ih => rw [sumR_succ, sumR_succ]; have := ih fun i hi => h i (by omega); have := h n (by omega); omega
theorem sumR_comm (n m : Nat) (f : Nat → Nat → Nat) : sumR n (fun i => sumR m fun j => f i j) = sumR m (fun j => sumR n fun i => f i j) := by
  induction n with
  | zero => exact (sumR_zero m).symm
  | succ n ih =>
    rw [sumR_succ, ih, ← sumR_add]
    exact sumR_congr fun j _ => (sumR_succ n fun i => f i j).symm
theorem sumR_pick {n i : Nat} (h : i < n) (f : Nat → Nat) : sumR n (fun d => if i = d then f d else 0) = f i := by
  induction n with
  | zero => omega
  | succ n ih =>
    rw [sumR_succ]
    by_cases e : i = n
    · subst e
      rw [if_pos rfl, sumR_congr (g := fun _ => 0) fun d hd => if_neg (by omega), sumR_zero]; omega
    · rw [ih (by omega), if_neg e]; rfl
section
variable {α β γ : Type} [DecidableEq α] [DecidableEq β]
theorem count_split {f : γ → α} {g : γ → β} {t : γ → Nat} {x : γ} : ∀ l : List γ, (∀ y ∈ l, f y = f x ↔ t y = t x ∧ g y = g x) → (l.map f).count (f x) = ((l.filter fun y => decide (t y = t x)).map g).count (g x)
  | [], _ => rfl
  | y :: l, h => by
    have ih := count_split l fun z hz => h z (.tail _ hz)
    have hy := h y (.head _)
    rw [List.map_cons, List.count_cons, ih]
    by_cases ht : t y = t x
    · rw [List.filter_cons_of_pos (by simpa using ht), List.map_cons, List.count_cons]
      by_cases hg : g y = g x
      · rw [if_pos (by simpa using hy.mpr ⟨ht, hg⟩), if_pos (by simpa using hg)]
      · rw [if_neg (by simpa using fun e => hg (hy.mp e).2), if_neg (by simpa using hg)]
    · rw [List.filter_cons_of_neg (by simpa using ht), if_neg (by simpa using fun e => ht (hy.mp e).1)]; rfl
theorem like_split {f : γ → α} {g : γ → β} {t : γ → Nat} {c : Nat} : ∀ l : List γ, (∀ x ∈ l, t x < c) → (∀ x ∈ l, ∀ y ∈ l, f y = f x ↔ t y = t x ∧ g y = g x) → like (l.map f) = sumR c fun d => like ((l.filter fun y => decide (t y = d)).map g)
  | [], _, _ => (sumR_zero c).symm
  | x :: l, hc, h => by
    have ih := like_split l (fun y hy => hc y (.tail _ hy)) fun a ha b hb => h a (.tail _ ha) b (.tail _ hb)
    show _ + like (l.map f) = _
    rw [ih, count_split l fun y hy => h x (.head _) y (.tail _ hy), ← sumR_pick (hc x (.head _)) (fun d => ((l.filter fun y => decide (t y = d)).map g).count (g x)), ← sumR_add]
    refine sumR_congr fun d _ => ?_
    by_cases e : t x = d
    · rw [if_pos e, List.filter_cons_of_pos (by simpa using e)]; rfl
    · rw [if_neg e, List.filter_cons_of_neg (by simpa using e)]; omega
noncomputable def cross (A B : List α) : Nat := (A.map fun x => B.count x).sum
theorem like_append (B : List α) : ∀ A : List α, like (A ++ B) = like A + like B + cross A B
  | [] => by simp [like, cross]
  | x :: A => by
    show (A ++ B).count x + like (A ++ B) = A.count x + like A + like B + (B.count x + cross A B)
    rw [like_append B A, List.count_append]; omega
theorem cross_nil (A : List α) : cross A [] = 0 := by
  induction A with
  | nil => rfl
  | cons x A ih => show _ + cross A [] = 0; rw [ih]; rfl
theorem cross_cons (b : α) (B : List α) : ∀ A : List α, cross A (b :: B) = A.count b + cross A B
  | [] => rfl
  | x :: A => by
    show (b :: B).count x + cross A (b :: B) = (x :: A).count b + (B.count x + cross A B)
    rw [cross_cons b B A, List.count_cons, List.count_cons]
    have : (if b == x then 1 else 0) = (if x == b then 1 else 0) := by
      by_cases h : x = b
      · subst h; rfl
      · rw [if_neg (by simpa using fun e => h e.symm), if_neg (by simpa using h)]
    rw [this]; omega
theorem cross_append (B C : List α) : ∀ A : List α, cross A (B ++ C) = cross A B + cross A C
  | [] => rfl
  | x :: A => by
    show (B ++ C).count x + cross A (B ++ C) = (B.count x + cross A B) + (C.count x + cross A C)
    rw [cross_append B C A, List.count_append]; omega
theorem count_le_one {x : α} {l : List α} (h : l.Nodup) : l.count x ≤ 1 := List.nodup_iff_count.mp h x
theorem cross_le_left {B : List α} (hB : B.Nodup) : ∀ A : List α, cross A B ≤ A.length
  | [] => Nat.le_refl _
  | x :: A => by
    show B.count x + cross A B ≤ A.length + 1
    have := cross_le_left hB A
    have := count_le_one (x := x) hB
    omega
theorem cross_le_right {A : List α} (hA : A.Nodup) : ∀ B : List α, cross A B ≤ B.length
  | [] => by rw [cross_nil]; exact Nat.le_refl _
  | b :: B => by
    rw [cross_cons]
    have := cross_le_right hA B
    have := count_le_one (x := b) hA
    rw [List.length_cons]; omega
theorem like_nodup : ∀ {l : List α}, l.Nodup → like l = 0
  | [], _ => rfl
  | x :: l, h => by
    rw [List.nodup_cons] at h
    show l.count x + like l = 0
    rw [like_nodup h.2, List.count_eq_zero.mpr h.1]
noncomputable def pairsMin : List Nat → Nat
  | [] => 0
  | m :: ms => (ms.map (min m)).sum + pairsMin ms
theorem cross_flat {A : List α} (hA : A.Nodup) : ∀ Ls : List (List α), (∀ L ∈ Ls, L.Nodup) → cross A Ls.flatten ≤ ((Ls.map List.length).map (min A.length)).sum
  | [], _ => by rw [List.flatten_nil, cross_nil]; exact Nat.le_refl _
  | L :: Ls, h => by
    rw [List.flatten_cons, cross_append, List.map_cons, List.map_cons, List.sum_cons]
    have h1 := cross_flat hA Ls fun M hM => h M (.tail _ hM)
    have h2 := cross_le_left (h L (.head _)) A
    have h3 := cross_le_right hA L
    have : cross A L ≤ min A.length L.length := Nat.le_min.mpr ⟨h2, h3⟩
    omega
theorem like_flat : ∀ Ls : List (List α), (∀ L ∈ Ls, L.Nodup) → like Ls.flatten ≤ pairsMin (Ls.map List.length)
  | [], _ => Nat.le_refl _
  | L :: Ls, h => by
    rw [List.flatten_cons, like_append, like_nodup (h L (.head _))]
    have h1 := like_flat Ls fun M hM => h M (.tail _ hM)
    have h2 := cross_flat (h L (.head _)) Ls fun M hM => h M (.tail _ hM)
    show 0 + like Ls.flatten + cross L Ls.flatten ≤ ((Ls.map List.length).map (min L.length)).sum + pairsMin (Ls.map List.length)
    omega
theorem filter_split {p q : γ → Bool} (hd : ∀ x, p x = true → q x = false) : ∀ l : List γ, (l.filter fun x => p x || q x).Perm (l.filter p ++ l.filter q)
  | [] => .nil
  | x :: l => by
    have ih := filter_split hd l
    cases hp : p x with
    | true =>
      rw [List.filter_cons_of_pos (by rw [hp]; rfl), List.filter_cons_of_pos hp, List.filter_cons_of_neg (by rw [hd x hp]; nofun)]
      exact ih.cons x
    | false =>
      cases hq : q x with
      | true =>
        rw [List.filter_cons_of_pos (by rw [hp, hq]; rfl), List.filter_cons_of_neg (by rw [hp]; nofun), List.filter_cons_of_pos hq]
        exact (ih.cons x).trans List.perm_middle.symm
      | false =>
        rw [List.filter_cons_of_neg (by rw [hp, hq]; nofun), List.filter_cons_of_neg (by rw [hp]; nofun), List.filter_cons_of_neg (by rw [hq]; nofun)]
        exact ih
theorem perm_classes {t : γ → Nat} {g : γ → β} (l : List γ) : ∀ c : Nat, ((l.filter fun x => decide (t x < c)).map g).Perm ((List.range c).map fun d => (l.filter fun y => decide (t y = d)).map g).flatten
  | 0 => by
    have : (l.filter fun x => decide (t x < 0)) = [] := List.filter_eq_nil_iff.mpr fun x _ => by simp
    rw [this]; exact .nil
  | c + 1 => by
    rw [List.range_succ, List.map_append, List.flatten_append]
    have h1 : (l.filter fun x => decide (t x < c + 1)) = l.filter fun x => decide (t x < c) || decide (t x = c) := by
      apply List.filter_congr
      intro x _
      rw [← Bool.decide_or]
      exact decide_eq_decide.mpr (by omega)
    rw [h1]
    refine ((filter_split (fun x hx => decide_eq_false (by have := of_decide_eq_true hx; omega)) l).map g).trans ?_
    rw [List.map_append]
    refine (perm_classes l c).append ?_
    simp
end
end
section
-- M4
variable {w : World}
noncomputable def strkN (k j x : Nat) : Nat := x - (x / 2 ^ (k * j) % 2 ^ k) * 2 ^ (k * j)
noncomputable def En (k N : Nat) (S : List Nat) : Nat := sumR N fun j => like (S.map (strkN k j))
noncomputable def hTab (k m : Nat) : Nat := (match k with | 1 => [0,0,1,2,4,5,7,9,12] | 2 => [0,0,1,3,6,7,9,12,16] | _ => [0,0,1,3,6,10,15,21,28]).getD m 0
theorem strk_top {k N x : Nat} (h : x < 2 ^ (k * (N + 1))) : strkN k N x = x % 2 ^ (k * N) := by
  unfold strkN
  have hp : 0 < 2 ^ (k * N) := Nat.pow_pos (by decide)
  have : x / 2 ^ (k * N) < 2 ^ k := by
    rw [Nat.div_lt_iff_lt_mul hp, ← Nat.pow_add, show k + k * N = k * (N + 1) by rw [Nat.mul_add]; omega]; exact h
  rw [Nat.mod_eq_of_lt this]
  have := Nat.div_add_mod x (2 ^ (k * N))
  rw [Nat.mul_comm (x / 2 ^ (k * N))]
  omega
theorem strk_low {k N j x : Nat} (hj : j < N) : strkN k j x = 2 ^ (k * N) * (x / 2 ^ (k * N)) + strkN k j (x % 2 ^ (k * N)) := by
  unfold strkN
  have e1 : 2 ^ (k * N) = 2 ^ (k * j) * (2 ^ k * 2 ^ (k * (N - j - 1))) := by
    rw [← Nat.pow_add, ← Nat.pow_add]
    congr 1
    have : N = j + (1 + (N - j - 1)) := by omega
    calc k * N = k * (j + (1 + (N - j - 1))) := by rw [← this]
      _ = k * j + (k + k * (N - j - 1)) := by rw [Nat.mul_add, Nat.mul_add, Nat.mul_one]
  have hx := Nat.div_add_mod x (2 ^ (k * N))
  generalize hq : x / 2 ^ (k * N) = q at *
  generalize hr : x % 2 ^ (k * N) = r at *
  have e2 : x / 2 ^ (k * j) % 2 ^ k = r / 2 ^ (k * j) % 2 ^ k := by
    rw [← hx, e1, Nat.mul_assoc, Nat.mul_add_div (Nat.pow_pos (by decide)), Nat.mul_assoc (2 ^ k), Nat.mul_add_mod]
  rw [e2]
  have h3 : r / 2 ^ (k * j) % 2 ^ k * 2 ^ (k * j) ≤ r := by
    have h4 := Nat.mod_le (r / 2 ^ (k * j)) (2 ^ k)
    exact Nat.le_trans (Nat.mul_le_mul_right _ h4) (Nat.div_mul_le_self _ _)
  omega
theorem strkN_le {k j x : Nat} : strkN k j x ≤ x := Nat.sub_le _ _
theorem En_step {k N : Nat} {S : List Nat} (h : ∀ x ∈ S, x < 2 ^ (k * (N + 1))) :
    En k (N + 1) S = sumR (2 ^ k) (fun d => En k N ((S.filter fun y => decide (y / 2 ^ (k * N) = d)).map (· % 2 ^ (k * N)))) + like (S.map (· % 2 ^ (k * N))) := by
  have hp : 0 < 2 ^ (k * N) := Nat.pow_pos (by decide)
  have ht : ∀ x ∈ S, x / 2 ^ (k * N) < 2 ^ k := fun x hx => by
    rw [Nat.div_lt_iff_lt_mul hp, ← Nat.pow_add, show k + k * N = k * (N + 1) by rw [Nat.mul_add]; omega]; exact h x hx
  unfold En
  rw [sumR_succ]
  congr 1
  · rw [sumR_comm (2 ^ k) N]
    refine sumR_congr fun j hj => ?_
    have := like_split (f := strkN k j) (g := fun x => strkN k j (x % 2 ^ (k * N))) (t := fun x => x / 2 ^ (k * N)) S ht fun x _ y _ => by
      rw [strk_low hj, strk_low (x := x) hj]
      have hx := Nat.lt_of_le_of_lt (strkN_le (k := k) (j := j)) (Nat.mod_lt x hp)
      have hy := Nat.lt_of_le_of_lt (strkN_le (k := k) (j := j)) (Nat.mod_lt y hp)
      generalize strkN k j (x % 2 ^ (k * N)) = a at *
      generalize strkN k j (y % 2 ^ (k * N)) = b at *
      constructor
      · intro e
        have e1 : (2 ^ (k * N) * (y / 2 ^ (k * N)) + b) / 2 ^ (k * N) = (2 ^ (k * N) * (x / 2 ^ (k * N)) + a) / 2 ^ (k * N) := by rw [e]
        rw [Nat.mul_add_div hp, Nat.mul_add_div hp, Nat.div_eq_of_lt hy, Nat.div_eq_of_lt hx] at e1
        have e2 : y / 2 ^ (k * N) = x / 2 ^ (k * N) := by omega
        rw [e2] at e
        exact ⟨e2, by omega⟩
      · rintro ⟨e1, e2⟩; rw [e1, e2]
    rw [this]
    refine sumR_congr fun d _ => ?_
    rw [List.map_map]; rfl
  · congr 1
    exact List.map_congr_left fun x hx => strk_top (h x hx)
theorem pm_one : ∀ a b : Fin 9, a.val + b.val ≤ 8 → hTab 1 a + hTab 1 b + min a.val b.val ≤ hTab 1 (a.val + b.val) := by decide +kernel
theorem pm_two : ∀ a b c d : Fin 9, a.val + b.val + c.val + d.val ≤ 8 → hTab 2 a + hTab 2 b + hTab 2 c + hTab 2 d + (min a.val b.val + min a.val c.val + min a.val d.val + min b.val c.val + min b.val d.val + min c.val d.val) ≤ hTab 2 (a.val + b.val + c.val + d.val) := by decide +kernel
theorem pm_three : ∀ a s : Fin 9, a.val + s.val ≤ 8 → hTab 3 a + hTab 3 s + a.val * s.val ≤ hTab 3 (a.val + s.val) := by decide +kernel
theorem min_sum (m : Nat) : ∀ ms : List Nat, (ms.map (min m)).sum ≤ m * ms.sum
  | [] => Nat.zero_le _
  | a :: ms => by
    rw [List.map_cons, List.sum_cons, List.sum_cons, Nat.mul_add]
    have := min_sum m ms
    have : min m a ≤ m * a := by
      rcases Nat.eq_zero_or_pos m with h | h
      · subst h; simp
      · exact Nat.le_trans (Nat.min_le_right _ _) (Nat.le_mul_of_pos_left _ h)
    omega
theorem pairs_three : ∀ ms : List Nat, ms.sum ≤ 8 → (ms.map (hTab 3)).sum + pairsMin ms ≤ hTab 3 ms.sum
  | [], _ => Nat.le_refl _
  | m :: ms, h => by
    rw [List.sum_cons] at h
    have ih := pairs_three ms (by omega)
    have h1 := min_sum m ms
    have h2 := pm_three ⟨m, by omega⟩ ⟨ms.sum, by omega⟩ h
    simp only at h2
    rw [List.map_cons, List.sum_cons, List.sum_cons]
    show hTab 3 m + _ + ((ms.map (min m)).sum + pairsMin ms) ≤ _
    omega
theorem pairs_all {k : Nat} (hk : k = 1 ∨ k = 2 ∨ k = 3) {ms : List Nat} (hl : ms.length = 2 ^ k) (hs : ms.sum ≤ 8) : (ms.map (hTab k)).sum + pairsMin ms ≤ hTab k ms.sum := by
  rcases hk with rfl | rfl | rfl
  · match ms, hl with
    | [a, b], _ =>
      simp only [List.sum_cons, List.sum_nil] at hs
      have := pm_one ⟨a, by omega⟩ ⟨b, by omega⟩ (by show a + b ≤ 8; omega)
      simp only [List.map_cons, List.map_nil, List.sum_cons, List.sum_nil, pairsMin] at this ⊢
      rw [show a + (b + 0) = a + b by omega]
      omega
  · match ms, hl with
    | [a, b, c, d], _ =>
      simp only [List.sum_cons, List.sum_nil] at hs
      have := pm_two ⟨a, by omega⟩ ⟨b, by omega⟩ ⟨c, by omega⟩ ⟨d, by omega⟩ (by show a + b + c + d ≤ 8; omega)
      simp only [List.map_cons, List.map_nil, List.sum_cons, List.sum_nil, pairsMin] at this ⊢
      rw [show a + (b + (c + (d + 0))) = a + b + c + d by omega]
      omega
  · exact pairs_three ms hs
theorem nodup_map {α β : Type} {f : α → β} : ∀ {l : List α}, l.Nodup → (∀ x ∈ l, ∀ y ∈ l, f x = f y → x = y) → (l.map f).Nodup
  | [], _, _ => .nil
  | x :: l, h, k => by
    rw [List.nodup_cons] at h
    rw [List.map_cons, List.nodup_cons]
    refine ⟨fun hm => ?_, nodup_map h.2 fun a ha b hb => k a (.tail _ ha) b (.tail _ hb)⟩
    obtain ⟨y, hy, e⟩ := List.mem_map.mp hm
    exact h.1 (k y (.tail _ hy) x (.head _) e ▸ hy)
theorem En_le {k : Nat} (hk : k = 1 ∨ k = 2 ∨ k = 3) : ∀ (N : Nat) (S : List Nat), S.Nodup → (∀ x ∈ S, x < 2 ^ (k * N)) → S.length ≤ 8 → En k N S ≤ hTab k S.length
  | 0, S, _, _, _ => Nat.zero_le _
  | N + 1, S, hn, hx, hl => by
    have hp : 0 < 2 ^ (k * N) := Nat.pow_pos (by decide)
    have ht : ∀ x ∈ S, x / 2 ^ (k * N) < 2 ^ k := fun x h => by
      rw [Nat.div_lt_iff_lt_mul hp, ← Nat.pow_add, show k + k * N = k * (N + 1) by rw [Nat.mul_add]; omega]; exact hx x h
    rw [En_step hx]
    let L : Nat → List Nat := fun d => (S.filter fun y => decide (y / 2 ^ (k * N) = d)).map (· % 2 ^ (k * N))
    have hnd : ∀ d, (L d).Nodup := fun d => by
      show ((S.filter fun y => decide (y / 2 ^ (k * N) = d)).map (· % 2 ^ (k * N))).Nodup
      refine nodup_map (hn.filter _) fun x hx' y hy' e => ?_
      have ex := of_decide_eq_true (List.mem_filter.mp hx').2
      have ey := of_decide_eq_true (List.mem_filter.mp hy').2
      have dx := Nat.div_add_mod x (2 ^ (k * N))
      have dy := Nat.div_add_mod y (2 ^ (k * N))
      rw [ex] at dx; rw [ey] at dy
      have e : x % 2 ^ (k * N) = y % 2 ^ (k * N) := e
      omega
    have hperm := perm_classes (t := fun x => x / 2 ^ (k * N)) (g := (· % 2 ^ (k * N))) S (2 ^ k)
    have hall : (S.filter fun x => decide (x / 2 ^ (k * N) < 2 ^ k)) = S := List.filter_eq_self.mpr fun x h => decide_eq_true (ht x h)
    rw [hall] at hperm
    have hlen := hperm.length_eq
    rw [List.length_map, List.length_flatten] at hlen
    have hle : ∀ d, d < 2 ^ k → (L d).length ≤ 8 := fun d _ => by
      show ((S.filter _).map _).length ≤ 8
      rw [List.length_map]; exact Nat.le_trans (List.length_filter_le _ _) hl
    have h1 : sumR (2 ^ k) (fun d => En k N (L d)) ≤ sumR (2 ^ k) fun d => hTab k (L d).length := sumR_le fun d hd => En_le hk N (L d) (hnd d) (fun x h => by
      obtain ⟨y, _, rfl⟩ := List.mem_map.mp h
      exact Nat.mod_lt _ hp) (hle d hd)
    have h2 : like (S.map (· % 2 ^ (k * N))) ≤ pairsMin (((List.range (2 ^ k)).map L).map List.length) := by
      rw [like_perm hperm]
      exact like_flat _ fun M hM => by obtain ⟨d, _, rfl⟩ := List.mem_map.mp hM; exact hnd d
    have hsum : (((List.range (2 ^ k)).map L).map List.length).sum = S.length := hlen.symm
    have h3 := pairs_all hk (ms := ((List.range (2 ^ k)).map L).map List.length) (by simp) (by rw [hsum]; exact hl)
    rw [hsum] at h3
    have h4 : sumR (2 ^ k) (fun d => hTab k (L d).length) = ((((List.range (2 ^ k)).map L).map List.length).map (hTab k)).sum := by
      unfold sumR; rw [List.map_map, List.map_map]; rfl
    show sumR (2 ^ k) (fun d => En k N (L d)) + _ ≤ _
    omega
end
section
-- M5
variable {w : World}
noncomputable def nI (nn : List Nat) : List Int := nn.map fun x : Nat => (x : Int)
theorem strk_cast (k j x : Nat) : strk (k : Int) (0 + (k : Int) * (j : Int)) (x : Int) = (strkN k j x : Nat) := by
  have e : (0 + (k : Int) * (j : Int)).toNat = k * j := by
    rw [Int.zero_add, show (k : Int) * (j : Int) = ((k * j : Nat) : Int) by push_cast; rfl, Int.toNat_natCast]
  unfold strk strkN
  rw [e, Int.toNat_natCast, Int.one_mul]
  have e1 : ((x : Int).fdiv (2 ^ (k * j))) = ((x / 2 ^ (k * j) : Nat) : Int) := by
    rw [Int.fdiv_eq_ediv_of_nonneg _ (Int.le_of_lt (Int.pow_pos (by decide)))]; push_cast; rfl
  rw [e1, Int.fmod_eq_emod_of_nonneg _ (Int.le_of_lt (Int.pow_pos (by decide)))]
  have h3 : x / 2 ^ (k * j) % 2 ^ k * 2 ^ (k * j) ≤ x := Nat.le_trans (Nat.mul_le_mul_right _ (Nat.mod_le _ _)) (Nat.div_mul_le_self _ _)
  rw [Int.natCast_sub h3]
  push_cast; rfl
theorem near_En (k N : Nat) (nn : List Nat) : nearN (nI nn) (k : Int) N = (En k N nn : Nat) := by
  unfold nearN En sumR
  have e : ∀ j : Nat, likeI ((nI nn).map (strk (k : Int) (0 + (k : Int) * (j : Int)))) = ((like (nn.map (strkN k j)) : Nat) : Int) := fun j => by
    rw [likeI_like, nI, List.map_map]
    congr 1
    refine like_congr nn fun x _ y _ => ?_
    show strk _ _ (y : Int) = strk _ _ (x : Int) ↔ _
    rw [strk_cast, strk_cast]
    omega
  generalize List.range N = r
  induction r with
  | nil => rfl
  | cons j r ih => rw [List.map_cons, List.sum_cons, ih, e, List.map_cons, List.sum_cons]; push_cast; rfl
noncomputable def isBits (k N : Nat) : Prop := k = 1 ∧ N = 6 ∨ k = 2 ∧ N = 3 ∨ k = 3 ∧ N = 2
theorem isBits.k {k N} (h : isBits k N) : k = 1 ∨ k = 2 ∨ k = 3 := by unfold isBits at h; omega
theorem isBits.mul {k N} (h : isBits k N) : k * N = 6 := by rcases h with ⟨rfl, rfl⟩ | ⟨rfl, rfl⟩ | ⟨rfl, rfl⟩ <;> rfl
theorem range_tab1 : ∀ m : Fin 9, En 1 6 (List.range m) = hTab 1 m := by decide +kernel
theorem range_tab2 : ∀ m : Fin 9, En 2 3 (List.range m) = hTab 2 m := by decide +kernel
theorem range_tab3 : ∀ m : Fin 9, En 3 2 (List.range m) = hTab 3 m := by decide +kernel
theorem range_tab {k N m : Nat} (h : isBits k N) (hm : m ≤ 8) : En k N (List.range m) = hTab k m := by
  rcases h with ⟨rfl, rfl⟩ | ⟨rfl, rfl⟩ | ⟨rfl, rfl⟩
  · exact range_tab1 ⟨m, by omega⟩
  · exact range_tab2 ⟨m, by omega⟩
  · exact range_tab3 ⟨m, by omega⟩
theorem first_tab1 : ∀ m : Fin 9, firstN (m.val : Int) 1 6 = (hTab 1 m : Nat) := by decide +kernel
theorem first_tab2 : ∀ m : Fin 9, firstN (m.val : Int) 2 3 = (hTab 2 m : Nat) := by decide +kernel
theorem first_tab3 : ∀ m : Fin 9, firstN (m.val : Int) 3 2 = (hTab 3 m : Nat) := by decide +kernel
theorem first_tab {k N m : Nat} (h : isBits k N) (hm : m ≤ 8) : firstN (m : Int) (k : Int) N = (hTab k m : Nat) := by
  rcases h with ⟨rfl, rfl⟩ | ⟨rfl, rfl⟩ | ⟨rfl, rfl⟩
  · exact first_tab1 ⟨m, by omega⟩
  · exact first_tab2 ⟨m, by omega⟩
  · exact first_tab3 ⟨m, by omega⟩
theorem lindsey {k N : Nat} {nn : List Nat} (h : isBits k N) (hn : nn.Nodup) (hx : ∀ x ∈ nn, x < 64) (hl : nn.length ≤ 8) : En k N nn ≤ hTab k nn.length :=
  En_le h.k N nn hn (fun x hx' => by rw [h.mul]; exact hx x hx') hl
noncomputable def wl (k N x j : Nat) : List Nat := ((figsOf k N x).take (N - 1 - j)).flatMap fcl ++ [35] ++ ((figsOf k N x).drop (N - j)).flatMap fcl
theorem cl_word {k N x j : Nat} (h : isBits k N) (hx : x < 64) (hj : j ≤ N) : cl (wordS (pcs (figsOf k N x)) j) = wl k N x j := by
  have hl := figs_len (k := k) (N := N) (a := x) (by have := h.k; omega) (by rw [h.mul]; exact hx)
  rw [cl_wordS _ _ (by rw [pcs_len, hl]; exact hj), pcs_take, pcs_drop, pcs_flat, pcs_flat, pcs_len, hl]; rfl
noncomputable def dstp (k : Nat) (s : Nat × Nat) (c : Nat) : Nat × Nat := if c = 32 then (s.1, s.2 + 1) else if c = 46 then (s.1 * 2 ^ k + s.2, 0) else (s.1 * 2 ^ k, 0)
noncomputable def decw (k : Nat) (l : List Nat) : Nat := (l.foldl (dstp k) (0, 0)).1
theorem words1 : ∀ x : Fin 64, ∀ j : Fin 6, decw 1 (wl 1 6 x j) = strkN 1 j x ∧ wl 1 6 (strkN 1 j x) j = wl 1 6 x j := by decide +kernel
theorem words2 : ∀ x : Fin 64, ∀ j : Fin 3, decw 2 (wl 2 3 x j) = strkN 2 j x ∧ wl 2 3 (strkN 2 j x) j = wl 2 3 x j := by decide +kernel
theorem words3 : ∀ x : Fin 64, ∀ j : Fin 2, decw 3 (wl 3 2 x j) = strkN 3 j x ∧ wl 3 2 (strkN 3 j x) j = wl 3 2 x j := by decide +kernel
theorem words {k N x j : Nat} (h : isBits k N) (hx : x < 64) (hj : j < N) : decw k (wl k N x j) = strkN k j x ∧ wl k N (strkN k j x) j = wl k N x j := by
  rcases h with ⟨rfl, rfl⟩ | ⟨rfl, rfl⟩ | ⟨rfl, rfl⟩
  · exact words1 ⟨x, hx⟩ ⟨j, hj⟩
  · exact words2 ⟨x, hx⟩ ⟨j, hj⟩
  · exact words3 ⟨x, hx⟩ ⟨j, hj⟩
noncomputable def colW (k N : Nat) (nn : List Nat) (j : Nat) : List Str := nn.map fun x => wordS (pcs (figsOf k N x)) j
theorem alike_En {k N : Nat} {nn : List Nat} (h : isBits k N) (hx : ∀ x ∈ nn, x < 64) : alikeN (colW k N nn) N = (En k N nn : Nat) := by
  unfold alikeN En sumR
  have e : ∀ j, j < N → runP (srt (colW k N nn j)) ((colW k N nn j).length - 1) = ((like (nn.map (strkN k j)) : Nat) : Int) := fun j hj => by
    rw [run_like]
    congr 1
    refine like_congr nn fun x hxm y hym => ?_
    have hx1 := words h (hx x hxm) hj
    have hy1 := words h (hx y hym) hj
    constructor
    · intro e
      have := congrArg cl e
      rw [cl_word h (hx y hym) (by omega), cl_word h (hx x hxm) (by omega)] at this
      rw [← hy1.1, ← hx1.1, this]
    · intro e
      refine cl_inj ?_
      rw [cl_word h (hx y hym) (by omega), cl_word h (hx x hxm) (by omega), ← hy1.2, ← hx1.2, e]
  have : ∀ r : List Nat, (∀ j ∈ r, j < N) → (r.map fun j => runP (srt (colW k N nn j)) ((colW k N nn j).length - 1)).sum = (((r.map fun j => like (nn.map (strkN k j))).sum : Nat) : Int) := by
    intro r
    induction r with
    | nil => intro _; rfl
    | cons j r ih =>
      intro hr
      rw [List.map_cons, List.sum_cons, ih fun i hi => hr i (.tail _ hi), e j (hr j (.head _)), List.map_cons, List.sum_cons]; push_cast; rfl
  exact this _ fun j hj => List.mem_range.mp hj
end
section
-- M6
variable {w : World}
open Builtin Builtin.Str
noncomputable def figSum (k N x : Nat) : Int := (figsOf k N x).sum
theorem least_tab1 : ∀ m : Fin 9, ((List.range m).map (figSum 1 6)).sum = (hTab 1 m : Nat) := by decide +kernel
theorem least_tab2 : ∀ m : Fin 9, ((List.range m).map (figSum 2 3)).sum = (hTab 2 m : Nat) := by decide +kernel
theorem least_tab3 : ∀ m : Fin 9, ((List.range m).map (figSum 3 2)).sum = (hTab 3 m : Nat) := by decide +kernel
theorem least_tab {k N m : Nat} (h : isBits k N) (hm : m ≤ 8) : ((List.range m).map (figSum k N)).sum = (hTab k m : Nat) := by
  rcases h with ⟨rfl, rfl⟩ | ⟨rfl, rfl⟩ | ⟨rfl, rfl⟩
  · exact least_tab1 ⟨m, by omega⟩
  · exact least_tab2 ⟨m, by omega⟩
  · exact least_tab3 ⟨m, by omega⟩
theorem told1 {k N x : Nat} {i : Int} : i + lenI (pcs (figsOf k N x)) - i - (figsOf k N x).length = figSum k N x := by
  rw [lenI_pcs _ fun f hf => (figs_ok f hf).1]; unfold figSum; omega
noncomputable def rl (k N x : Nat) : List Nat := (figsOf k N x).flatMap fcl
theorem rows1 : ∀ x : Fin 63, rl 1 6 (x.val + 1) < rl 1 6 x := by decide +kernel
theorem rows2 : ∀ x : Fin 63, rl 2 3 (x.val + 1) < rl 2 3 x := by decide +kernel
theorem rows3 : ∀ x : Fin 63, rl 3 2 (x.val + 1) < rl 3 2 x := by decide +kernel
theorem rows_step {k N x : Nat} (h : isBits k N) (hx : x < 63) : rl k N (x + 1) < rl k N x := by
  rcases h with ⟨rfl, rfl⟩ | ⟨rfl, rfl⟩ | ⟨rfl, rfl⟩
  · exact rows1 ⟨x, hx⟩
  · exact rows2 ⟨x, hx⟩
  · exact rows3 ⟨x, hx⟩
noncomputable def rowT (k N x : Nat) : Str := rowS (pcs (figsOf k N x))
theorem cl_rowT (k N x : Nat) : cl (rowT k N x) = rl k N x := by unfold rowT rl; rw [cl_rowS, pcs_flat]
theorem leS_of_lt {a b : Str} (h : cl a < cl b) : leS a b = true := by
  rcases Bool.or_eq_true_iff.mp (leS_total a b) with q | q
  · exact q
  · exact absurd h (leS_iff.mp q)
theorem sgn_lt {a b : Str} (h : cl a < cl b) : sgn a b = -1 ∧ sgn b a = 1 := by
  have h1 : ¬ b.cps.toList < a.cps.toList := leS_iff.mp (leS_of_lt h)
  have h2 : a.cps.toList < b.cps.toList := h
  unfold sgn
  rw [decide_eq_false h1, decide_eq_true h2]
  exact ⟨rfl, rfl⟩
theorem sgn_self (a : Str) : sgn a a = 0 := by unfold sgn; omega
theorem rows_le {k N x : Nat} (h : isBits k N) : ∀ d : Nat, x + d < 64 → leS (rowT k N (x + d)) (rowT k N x) = true
  | 0, _ => by rw [Nat.add_zero]; exact leS_iff.mpr (List.lt_irrefl _)
  | d + 1, hx => leS_trans _ _ _ (leS_of_lt (by rw [cl_rowT, cl_rowT]; exact rows_step (x := x + d) h (by omega))) (rows_le h d (by omega))
theorem rows_fall {k N x y : Nat} (h : isBits k N) (hxy : x < y) (hy : y < 64) : cl (rowT k N y) < cl (rowT k N x) := by
  have h1 : leS (rowT k N y) (rowT k N (x + 1)) = true := by
    have := rows_le (x := x + 1) h (y - (x + 1)) (by omega)
    rw [show x + 1 + (y - (x + 1)) = y by omega] at this; exact this
  have h2 : cl (rowT k N (x + 1)) < cl (rowT k N x) := by rw [cl_rowT, cl_rowT]; exact rows_step h (by omega)
  have h3 := leS_trans _ _ _ h1 (leS_of_lt h2)
  by_cases hlt : cl (rowT k N y) < cl (rowT k N x)
  · exact hlt
  · have h4 : leS (rowT k N x) (rowT k N y) = true := leS_iff.mpr hlt
    have e := leS_anti _ _ h3 h4
    have h5 : leS (rowT k N x) (rowT k N (x + 1)) = true := leS_trans _ _ _ h4 h1
    exact absurd h2 (leS_iff.mp h5)
noncomputable def sigS (x : Nat) : Str := ⟨#[(64 + (x : Int)).toNat]⟩
theorem signs_rise {x y : Nat} (h : x < y) : cl (sigS x) < cl (sigS y) := by
  show [(64 + (x : Int)).toNat] < [(64 + (y : Int)).toNat]
  rw [List.cons_lt_cons_iff]
  exact .inl (by omega)
theorem cl_points {n : Int} (h : 0 ≤ n) : cl (Txt.mul (Str.ofString ".") n) = List.replicate n.toNat 46 := by
  unfold Txt.mul
  by_cases h1 : n < 1
  · rw [if_pos h1, show n.toNat = 0 by omega]; rfl
  · rw [if_neg h1]
    by_cases h2 : n = 1
    · subst h2; rfl
    · have : (n == 1 || (Str.ofString ".").length == 0) = false := by
        rw [Bool.or_eq_false_iff]; exact ⟨by simpa using h2, rfl⟩
      rw [this, if_neg (by decide)]
      have key : ∀ (k : Nat) (acc : Array Nat), ((List.replicate k (Str.ofString ".").cps).foldl (· ++ ·) acc).toList = acc.toList ++ List.replicate k 46 := by
        intro k
        induction k with
        | zero => intro acc; simp
        | succ k ih =>
          intro acc
          rw [List.replicate_succ, List.foldl_cons, ih, Array.toList_append]
          rw [show (Str.ofString ".").cps.toList = [46] from rfl, List.append_assoc, List.replicate_succ]; rfl
      have := key n.toNat #[]
      simpa [cl] using this
theorem rep_lt {c : Nat} : ∀ {a b : Nat}, a < b → List.replicate a c < List.replicate b c
  | 0, b + 1, _ => by rw [List.replicate_succ]; exact List.nil_lt_cons _ _
  | a + 1, b + 1, h => by
    rw [List.replicate_succ, List.replicate_succ, List.cons_lt_cons_iff]
    exact .inr ⟨rfl, rep_lt (by omega)⟩
theorem points_sgn {a b : Nat} (h : a ≤ b) : sgn (Txt.mul (Str.ofString ".") (a : Int)) (Txt.mul (Str.ofString ".") (b : Int)) = if ((a : Int) == (b : Int)) = true then 0 else -1 := by
  by_cases e : a = b
  · subst e
    rw [if_pos (by simp), sgn_self]
  · rw [if_neg (by simp; omega)]
    refine (sgn_lt ?_).1
    rw [cl_points (by omega), cl_points (by omega), Int.toNat_natCast, Int.toNat_natCast]
    exact rep_lt (by omega)
noncomputable def valN (wd : Nat) : List Nat → Nat
  | [] => 0
  | d :: ds => d + 2 ^ wd * valN wd ds
theorem valI_nI (wd : Nat) : ∀ nn : List Nat, valI wd (nI nn) = (valN wd nn : Nat)
  | [] => rfl
  | d :: ds => by
    show (d : Int) + 2 ^ wd * valI wd (nI ds) = _
    rw [valI_nI wd ds]; show _ = ((d + 2 ^ wd * valN wd ds : Nat) : Int); push_cast; rfl
theorem valN_lt {wd : Nat} : ∀ {nn : List Nat}, (∀ x ∈ nn, x < 2 ^ wd) → valN wd nn < 2 ^ (wd * nn.length)
  | [], _ => by simp [valN]
  | d :: ds, h => by
    have ih := valN_lt (nn := ds) fun x hx => h x (.tail _ hx)
    have hd := h d (.head _)
    show d + 2 ^ wd * valN wd ds < _
    rw [List.length_cons, Nat.mul_add, Nat.mul_one, Nat.pow_add, Nat.mul_comm (2 ^ (wd * ds.length))]
    have : 2 ^ wd * (valN wd ds + 1) ≤ 2 ^ wd * 2 ^ (wd * ds.length) := Nat.mul_le_mul_left _ ih
    rw [Nat.mul_add] at this
    omega
theorem valN_ge {wd : Nat} {t : Nat} (ht : 0 < t) : ∀ nn : List Nat, 2 ^ (wd * nn.length) ≤ valN wd (nn ++ [t])
  | [] => by simp [valN]; omega
  | d :: ds => by
    have ih := valN_ge (wd := wd) ht ds
    show _ ≤ d + 2 ^ wd * valN wd (ds ++ [t])
    rw [List.length_cons, Nat.mul_add, Nat.mul_one, Nat.pow_add, Nat.mul_comm (2 ^ (wd * ds.length))]
    have := Nat.mul_le_mul_left (2 ^ wd) ih
    omega
theorem valN_dig {wd : Nat} : ∀ {nn : List Nat}, (∀ x ∈ nn, x < 2 ^ wd) → ∀ j, j < nn.length → valN wd nn / 2 ^ (wd * j) % 2 ^ wd = nn.getD j 0
  | [], _, j, hj => by simp at hj
  | d :: ds, h, 0, _ => by
    show (d + 2 ^ wd * valN wd ds) / 2 ^ 0 % 2 ^ wd = d
    rw [Nat.pow_zero, Nat.div_one, Nat.add_mul_mod_self_left, Nat.mod_eq_of_lt (h d (.head _))]
  | d :: ds, h, j + 1, hj => by
    have ih := valN_dig (nn := ds) (fun x hx => h x (.tail _ hx)) j (by simpa using hj)
    show (d + 2 ^ wd * valN wd ds) / 2 ^ (wd * (j + 1)) % 2 ^ wd = ds.getD j 0
    rw [← ih, Nat.mul_add, Nat.mul_one, Nat.add_comm (wd * j), Nat.pow_add, ← Nat.div_div_eq_div_mul]
    rw [Nat.add_mul_div_left _ _ (Nat.pow_pos (by decide)), Nat.div_eq_of_lt (h d (.head _)), Nat.zero_add]
theorem digs_val {wd t : Nat} {nn : List Nat} (hw : 0 < wd) (ht : 0 < t) (h : ∀ x ∈ nn ++ [t], x < 2 ^ wd) : digs wd (valN wd (nn ++ [t])) = nI (nn ++ [t]) := by
  have h1 := valN_lt h
  have h2 := valN_ge (wd := wd) ht nn
  have hl : (nn ++ [t]).length = nn.length + 1 := by simp
  have hN : digN wd (valN wd (nn ++ [t])) = nn.length + 1 := by
    have a1 := digN_fit (N := nn.length + 1) hw (by rw [← hl]; exact h1)
    have a2 := lt_digN (a := valN wd (nn ++ [t])) hw
    rcases Nat.lt_or_ge (digN wd (valN wd (nn ++ [t]))) (nn.length + 1) with q | q
    · have : 2 ^ (wd * digN wd (valN wd (nn ++ [t]))) ≤ 2 ^ (wd * nn.length) := Nat.pow_le_pow_right (by decide) (Nat.mul_le_mul_left _ (by omega))
      omega
    · omega
  unfold digs nI
  rw [hN]
  apply List.ext_getElem
  · simp
  · intro j h3 h4
    have hj : j < (nn ++ [t]).length := by simpa using h4
    rw [List.getElem_map, List.getElem_map, List.getElem_range, valN_dig h j hj, List.getD_eq_getElem?_getD, List.getElem?_eq_getElem hj]; rfl
theorem val_field {wd : Nat} : ∀ nn : List Nat, ∃ q : Nat, (valN wd nn : Int) = (nI nn).sum + ((2 : Int) ^ wd - 1) * q
  | [] => ⟨0, by simp [valN, nI]⟩
  | d :: ds => by
    obtain ⟨q, e⟩ := val_field (wd := wd) ds
    refine ⟨q + valN wd ds, ?_⟩
    show ((d + 2 ^ wd * valN wd ds : Nat) : Int) = (d : Int) + (nI ds).sum + _
    push_cast
    rw [Int.mul_add]
    have e2 : ((2 : Int) ^ wd - 1) * (valN wd ds : Int) = (2 : Int) ^ wd * valN wd ds - valN wd ds := by rw [Int.sub_mul, Int.one_mul]
    rw [e2]
    omega
end
section
-- K0
variable {w : World}
open PySem.Calls
noncomputable abbrev LS : Scope := dS (stAt 22)
noncomputable abbrev lawB : List Stmt := dB (stAt 22)
noncomputable abbrev lst (j : Nat) : Stmt := lawB.getD j (.Pass default)
noncomputable abbrev nD (nn : List Nat) : D := .list ((nI nn).map .int)
noncomputable abbrev vT (k N : Nat) (i : Int) (nn : List Nat) : D := .list (nn.map fun x => D.list (wordsD k N i x))
noncomputable abbrev vR (k : Nat) (i : Int) (wd : Nat) (nn : List Nat) : VL := [("numbers", nD nn), ("bits", .int (k : Nat)), ("head", .int i), ("width", .int (wd : Nat))]
noncomputable abbrev vR14 (k N : Nat) (i : Int) (wd : Nat) (nn : List Nat) : VL := ("least", vT k N i (List.range nn.length)) :: ("table", vT k N i nn) :: ("begin", nD (List.range nn.length)) :: vR k i wd nn
noncomputable abbrev vR16 (k N : Nat) (i : Int) (wd : Nat) (nn : List Nat) : VL := ("near", .int (En k N nn : Nat)) :: ("most", .int (hTab k nn.length : Nat)) :: ("drawn", .int (En k N nn : Nat)) :: ("bound", .int (hTab k nn.length : Nat)) :: vR14 k N i wd nn
theorem nI_len (nn : List Nat) : (nI nn).length = nn.length := by simp [nI]
theorem nI_map (nn : List Nat) : (nI nn).map D.int = nn.map fun x : Nat => D.int (x : Int) := by unfold nI; rw [List.map_map]; rfl
structure Drw (k N : Nat) (i : Int) (wd : Nat) (nn : List Nat) : Prop where
  hb : isBits k N
  hi : i = 0 ∨ i = 1 ∨ i = 2 ∨ i = 3
  w6 : 6 ≤ wd
  w15 : wd ≤ 15
  up : nn.Pairwise (· < ·)
  lt : ∀ x ∈ nn, x < 64
  l2 : 2 ≤ nn.length
  l8 : nn.length ≤ 8
theorem Drw.nodup {k N i wd nn} (h : Drw k N i wd nn) : nn.Nodup := h.up.imp fun h => Nat.ne_of_lt h
theorem Drw.rlt {k N i wd nn} (h : Drw k N i wd nn) : ∀ x ∈ List.range nn.length, x < 64 := fun x hx => by
  have := List.mem_range.mp hx; have := h.l8; omega
section
variable {n k N wd : Nat} {i : Int} {nn : List Nat}
theorem words_K (h : Drw k N i wd nn) {x : Nat} (hx : x < 64) : CallS w (n + 20) (.ref 173) [.int (x : Nat), .int (k : Nat), .int i] (.list (wordsD k N i x)) := words_S (n := n + 8) h.hb hx h.hi
theorem k11 (h : Drw k N i wd nn) : Stm w (n + 20) LS (vR k i wd nn) [] (lst 11) (.next (("begin", nD (List.range nn.length)) :: vR k i wd nn) []) := by
  have h8 := h.l8
  refine Stm.assign (d := nD (List.range nn.length)) (.pure ?_) (by walk_at "st") (by walk_at "sw")
  have hlen := CallS.len (w := w) (n := n + 20) (ds := (nI nn).map D.int) (by rw [List.length_map, nI_len]; omega)
  rw [List.length_map, nI_len] at hlen
  have e : rngItems 0 1 nn.length = (nI (List.range nn.length)).map D.int := by
    rw [nI_map, rngItems]
    exact List.map_congr_left fun j _ => by simp
  have hr := CallS.listRange (w := w) (n := n + 20) (a := 0) (b := (nn.length : Nat)) (k := nn.length) (small_one (by decide) (by decide) (by omega) (by omega)) (by rw [rangeSize_one]; split <;> omega) (by omega)
  rw [e] at hr
  exact EvS.call (fv := .type "list") (by walk_at "name") KeepOk.typ (EvL.cons (EvS.call (fv := .type "range") (by walk_at "name") KeepOk.typ (EvL.cons (EvS.call (fv := .builtin "len") (by walk_at "name") KeepOk.bui (by walk_at "evl") hlen) EvL.nil (by intro _; rfl)) CallS.range1) EvL.nil (by intro _; rfl)) hr
theorem k12 (h : Drw k N i wd nn) : Stm w (n + 20) LS (("begin", nD (List.range nn.length)) :: vR k i wd nn) [] (lst 12) (.next (("table", vT k N i nn) :: ("begin", nD (List.range nn.length)) :: vR k i wd nn) []) := by
  have h8 := h.l8
  refine Stm.compT [("bits", .int (k : Nat)), ("head", .int i)] (fun x : Nat => D.int (x : Int)) toN (fun j => by simp [toN, toI]) nn _ ?it .list (by walk_at "capt") (by omega) (by walk_at "st") (fun x hx => ?_) (by walk_at "sw")
  case it => rw [← nI_map]; walk_at "name"
  exact EvS.call (fv := .ref 173) (by walk_at "name") (KeepOk.fn (p := (173, fdLW, 172)) (by walk_at "mem")) (by walk_at "evl") (words_K h (h.lt x hx))
theorem k13 (h : Drw k N i wd nn) : Stm w (n + 20) LS (("table", vT k N i nn) :: ("begin", nD (List.range nn.length)) :: vR k i wd nn) [] (lst 13) (.next (vR14 k N i wd nn) []) := by
  have h8 := h.l8
  refine Stm.compT [("bits", .int (k : Nat)), ("head", .int i)] (fun x : Nat => D.int (x : Int)) toN (fun j => by simp [toN, toI]) (List.range nn.length) _ ?it .list (by walk_at "capt") (by simp; omega) (by walk_at "st") (fun x hx => ?_) (by walk_at "sw")
  case it => rw [← nI_map]; walk_at "name"
  exact EvS.call (fv := .ref 173) (by walk_at "name") (KeepOk.fn (p := (173, fdLW, 172)) (by walk_at "mem")) (by walk_at "evl") (words_K h (h.rlt x hx))
end
end
section
-- K1
variable {w : World}
open PySem.Calls
theorem rowS_ok (k N x : Nat) : PyData.strOk (rowS (pcs (figsOf k N x))) = true := strOk_of fun c hc => by
  rw [cl_rowS, pcs_flat] at hc
  rcases fcl_ok _ c hc with rfl | rfl <;> decide
theorem wordS_ok {k N x j : Nat} (h : isBits k N) (hx : x < 64) (hj : j ≤ N) : PyData.strOk (wordS (pcs (figsOf k N x)) j) = true := strOk_of fun c hc => by
  rw [cl_word h hx hj] at hc
  unfold wl at hc
  rcases List.mem_append.mp hc with hc | hc
  · rcases List.mem_append.mp hc with hc | hc
    · rcases fcl_ok _ c hc with rfl | rfl <;> decide
    · simp only [List.mem_cons, List.not_mem_nil, or_false] at hc; subst hc; decide
  · rcases fcl_ok _ c hc with rfl | rfl <;> decide
theorem isDs_all {k : Nat} : ∀ {ds : List D}, (∀ d ∈ ds, isD k d = true) → isDs k ds = true
  | [], _ => by simp [isDs]
  | d :: ds, h => by simp only [isDs, Bool.and_eq_true]; exact ⟨h d (.head _), isDs_all fun e he => h e (.tail _ he)⟩
theorem words_isD {k N x : Nat} {i : Int} (h : isBits k N) (hx : x < 64) : isD 59 (.list (wordsD k N i x)) = true := by
  simp only [isD]
  refine isDs_all fun d hd => ?_
  unfold wordsD at hd
  rcases List.mem_cons.mp hd with rfl | hd
  · simp only [isD]; exact rowS_ok k N x
  · rcases List.mem_cons.mp hd with rfl | hd
    · simp only [isD]
    · obtain ⟨j, hj, rfl⟩ := List.mem_map.mp hd
      simp only [isD]; exact wordS_ok h hx (Nat.le_of_lt (List.mem_range.mp hj))
theorem table_isD {k N : Nat} {i : Int} {nn : List Nat} (h : isBits k N) (hx : ∀ x ∈ nn, x < 64) : isD 60 (vT k N i nn) = true := by
  show isDs 59 (nn.map fun x => D.list (wordsD k N i x)) = true
  refine isDs_all fun d hd => ?_
  obtain ⟨x, hm, rfl⟩ := List.mem_map.mp hd
  exact words_isD h (hx x hm)
theorem table_noNil (k N : Nat) (i : Int) : ∀ nn : List Nat, ((pds (nn.map fun x => D.list (wordsD k N i x))).any fun y => PyData.eqv y (pd (.list []))) = false
  | [] => by simp [pds]
  | x :: nn => by
    rw [List.map_cons]
    simp only [pds, List.any_cons, table_noNil k N i nn, Bool.or_false]
    unfold wordsD
    simp [pd, pds, PyData.eqv, PyData.eqvAll]
section
variable {n k N wd : Nat} {i : Int} {nn : List Nat}
theorem k14 (h : Drw k N i wd nn) : Stm w (n + 20) LS (vR14 k N i wd nn) [] (lst 14) (.next (vR14 k N i wd nn) []) := by
  refine Stm.skipIf (?t : TstS w (n + 20) LS ([] ++ vR14 k N i wd nn) _ (false || false))
  refine TstS.or2 ?a fun _ => ?b
  case a => exact TstS.cmp (a := .list []) (b := vT k N i nn) (EvS.listD EvL.nil (by decide)) (by walk_at "name") (CmpS.inD (by omega) (by simp [isD, isDs]) (table_isD h.hb h.lt) (table_noNil k N i nn))
  case b => exact TstS.cmp (a := .list []) (b := vT k N i (List.range nn.length)) (EvS.listD EvL.nil (by decide)) (by walk_at "name") (CmpS.inD (by omega) (by simp [isD, isDs]) (table_isD h.hb h.rlt) (table_noNil k N i _))
theorem bits_int (h : isBits k N) : (k : Int) = 1 ∧ N = 6 ∨ (k : Int) = 2 ∧ N = 3 ∨ (k : Int) = 3 ∧ N = 2 := by
  rcases h with ⟨rfl, rfl⟩ | ⟨rfl, rfl⟩ | ⟨rfl, rfl⟩ <;> decide
theorem near_K (h : Drw k N i wd nn) {mm : List Nat} (hm : mm.length ≤ 8) : CallS w (n + 20) (.ref 183) [nD mm, .int (k : Nat)] (.int (En k N mm : Nat)) := by
  have := law_near_S (w := w) (n := n + 19) (ns := nI mm) (bits := (k : Nat)) (N := N) (bits_int h.hb) (by rw [nI_len]; omega)
  rw [near_En] at this; exact this
theorem k15 (h : Drw k N i wd nn) : Stm w (n + 20) LS (vR14 k N i wd nn) [] (lst 15) (.next (("drawn", .int (En k N nn : Nat)) :: ("bound", .int (hTab k nn.length : Nat)) :: vR14 k N i wd nn) []) := by
  have h8 := h.l8
  have h1 := near_K (w := w) (n := n) h (mm := nn) h8
  have h2 := near_K (w := w) (n := n) h (mm := List.range nn.length) (by simp; omega)
  rw [range_tab h.hb h8] at h2
  refine Stm.assignW (xs := ["drawn", "bound"]) (ds := [.int (En k N nn : Nat), .int (hTab k nn.length : Nat)]) (.pure (EvS.tupD (EvL.cons (EvS.call (fv := .ref 183) (by walk_at "name") (KeepOk.fn (p := (183, fdT 20 "_law_near" pmW 182, 182)) (by walk_at "mem")) (by walk_at "evl") h1) (EvL.cons (EvS.call (fv := .ref 183) (by walk_at "name") (KeepOk.fn (p := (183, fdT 20 "_law_near" pmW 182, 182)) (by walk_at "mem")) (by walk_at "evl") h2) EvL.nil (by intro _; rfl)) (by intro _; rfl)) (by simp [sizeLine]))) ?hk rfl ?hw
  case hk => intro y hy; simp at hy; rcases hy with rfl | rfl <;> walk_at "st"
  case hw => intro env hs; cases env; cases hs; rfl
theorem alike_K (h : Drw k N i wd nn) {mm : List Nat} (h0 : 0 < mm.length) (hm : mm.length ≤ 8) (hx : ∀ x ∈ mm, x < 64) : CallS w (n + 20) (.ref 178) [vT k N i mm] (.int (En k N mm : Nat)) := by
  have hN : N ≤ 6 := by have := h.hb; unfold isBits at this; omega
  have := law_alike_S (w := w) (n := n + 16) (rows := mm.map fun x => wordsD k N i x) (col := colW k N mm) (P := N) (by simpa using h0) (by simp; omega) (fun row hr => by
      obtain ⟨x, _, rfl⟩ := List.mem_map.mp hr
      unfold wordsD; simp; omega) (by omega) (fun j hj => by
      rw [List.map_map, colW, List.map_map]
      refine List.map_congr_left fun x _ => ?_
      show (wordsD k N i x).getD (2 + j) .none = _
      unfold wordsD
      rw [Nat.add_comm 2 j]
      simp [List.getD_eq_getElem?_getD, hj])
  rw [alike_En h.hb hx, List.map_map] at this
  exact this
theorem first_K (h : Drw k N i wd nn) : CallS w (n + 20) (.ref 190) [.int (nn.length : Nat), .int (k : Nat)] (.int (hTab k nn.length : Nat)) := by
  have hD : DivOk w (n + 19) := divmod_pos_S (n := n + 17) (int2digits_S (n := n + 8)) (digits2int_S (n := n + 8))
  have := law_first_S (w := w) (n := n + 18) hD (many := nn.length) (bits := (k : Nat)) (N := N) (bits_int h.hb) h.l8
  rw [first_tab h.hb h.l8] at this; exact this
theorem k16 (h : Drw k N i wd nn) : Stm w (n + 20) LS (("drawn", .int (En k N nn : Nat)) :: ("bound", .int (hTab k nn.length : Nat)) :: vR14 k N i wd nn) [] (lst 16) (.next (vR16 k N i wd nn) []) := by
  have h8 := h.l8
  have h2 := h.l2
  have hlen := CallS.len (w := w) (n := n + 20) (ds := (nI nn).map D.int) (by rw [List.length_map, nI_len]; omega)
  rw [List.length_map, nI_len] at hlen
  refine Stm.assignW (xs := ["near", "most"]) (ds := [.int (En k N nn : Nat), .int (hTab k nn.length : Nat)]) (.pure (EvS.tupD (EvL.cons (EvS.call (fv := .ref 178) (by walk_at "name") (KeepOk.fn (p := (178, fdT 19 "_law_alike" pmW 177, 177)) (by walk_at "mem")) (by walk_at "evl") (alike_K h (by omega) h8 h.lt)) (EvL.cons (EvS.call (fv := .ref 190) (by walk_at "name") (KeepOk.fn (p := (190, fdT 21 "_law_first" pmW 189, 189)) (by walk_at "mem")) (EvL.cons (EvS.call (fv := .builtin "len") (by walk_at "name") KeepOk.bui (by walk_at "evl") hlen) (by walk_at "evl") (by intro _; rfl)) (first_K h)) EvL.nil (by intro _; rfl)) (by intro _; rfl)) (by simp [sizeLine]))) ?hk rfl ?hw
  case hk => intro y hy; simp at hy; rcases hy with rfl | rfl <;> walk_at "st"
  case hw => intro env hs; cases env; cases hs; rfl
theorem k17 (h : Drw k N i wd nn) : Stm w (n + 20) LS (vR16 k N i wd nn) [] (lst 17) (.next (vR16 k N i wd nn) []) := by
  refine Stm.skipIf (?t : TstS w (n + 20) LS ([] ++ vR16 k N i wd nn) _ (false || false))
  exact TstS.or2 (TstS.cmp (by walk_at "name") (by walk_at "name") (CmpS.neI' rfl)) fun _ => TstS.cmp (by walk_at "name") (by walk_at "name") (CmpS.neI' rfl)
theorem k18 (h : Drw k N i wd nn) : Stm w (n + 20) LS (vR16 k N i wd nn) [] (lst 18) (.next (vR16 k N i wd nn) []) := by
  have h8 := h.l8
  have h2 := h.l2
  refine Stm.skipIf (?t : TstS w (n + 20) LS ([] ++ vR16 k N i wd nn) _ (false || false))
  refine TstS.or2 ?a fun _ => ?b
  case a =>
    have := alike_K (w := w) (n := n) h (mm := List.range nn.length) (by simp; omega) (by simp; omega) h.rlt
    rw [range_tab h.hb h8] at this
    exact TstS.cmp (EvS.call (fv := .ref 178) (by walk_at "name") (KeepOk.fn (p := (178, fdT 19 "_law_alike" pmW 177, 177)) (by walk_at "mem")) (by walk_at "evl") this) (by walk_at "name") (CmpS.neI' rfl)
  case b =>
    refine TstS.cmp (a := .int (((List.range nn.length).map (figSum k N)).sum)) (EvS.call (fv := .builtin "sum") (ds := [.list (((List.range nn.length).map (figSum k N)).map .int)]) (by walk_at "name") KeepOk.bui (EvL.cons ?lc EvL.nil (by intro _; rfl)) CallS.sum) (by walk_at "name") (CmpS.neI' (least_tab h.hb h8))
    have e : ((List.range nn.length).map (figSum k N)).map D.int = ((List.range nn.length).map (wordsD k N i)).map fun row => row.getD 1 .none := by
      rw [List.map_map, List.map_map]
      refine List.map_congr_left fun x _ => ?_
      show D.int (figSum k N x) = (wordsD k N i x).getD 1 .none
      unfold wordsD
      rw [← told1 (i := i)]; rfl
    rw [e]
    refine EvS.compT [] D.list toL (fun _ => rfl) ((List.range nn.length).map (wordsD k N i)) _ ?it .list (by walk_at "capt") (by simp; omega) fun row hr => ?_
    case it => rw [List.map_map]; exact EvS.loc (by rfl) (by rfl) (by rfl)
    obtain ⟨x, _, rfl⟩ := List.mem_map.mp hr
    exact EvS.item (ds := wordsD k N i x) (k := 1) (by walk_at "name") EvS.int (by decide) (by rfl) (by unfold wordsD; simp; have := h.hb; unfold isBits at this; omega)
end
end
section
-- K2
variable {w : World}
open PySem.Calls
theorem hTab_le {k : Nat} : ∀ m : Nat, hTab k m ≤ 28 := fun m => by
  unfold hTab
  have key : ∀ (l : List Nat), (∀ x ∈ l, x ≤ 28) → l.getD m 0 ≤ 28 := fun l h => by
    rw [List.getD_eq_getElem?_getD]
    cases e : l[m]? with
    | none => exact Nat.zero_le _
    | some v => exact h v (List.mem_of_getElem? e)
  split <;> exact key _ (by decide)
theorem mulOk_pt {f : Int} (h0 : 0 ≤ f) (h : f ≤ 1000) : MulOk (Str.ofString ".") f := by
  have e : (Str.ofString ".").length = 1 := rfl
  refine ⟨?_, fun h1 _ => ?_, fun h1 _ => ?_⟩
  · rw [Bool.or_eq_false_iff]
    exact ⟨decide_eq_false (by omega), decide_eq_false (by omega)⟩
  · rw [e]
    have : (1 : Int) ≤ (2 ^ 63 - 1) / f := by
      rw [Int.le_ediv_iff_mul_le (by omega)]; omega
    omega
  · rw [e]
    refine decide_eq_false ?_
    have : (sizeLine : Nat) = 16777216 := by first | rfl | decide
    omega
noncomputable abbrev vS (nn : List Nat) : D := .list ((nn.map sigS).map .str)
noncomputable abbrev vR20 (k N : Nat) (i : Int) (wd : Nat) (nn : List Nat) : VL := ("signs", vS nn) :: vR16 k N i wd nn
noncomputable def textS (k N : Nat) (nn : List Nat) : Str := Str.ofString " " ++ Txt.join (Str.ofString " ") ((nn.map fun x => rowT k N x) ++ nn.map sigS) ++ Str.ofString " "
section
variable {n k N wd : Nat} {i : Int} {nn : List Nat}
theorem k19 (h : Drw k N i wd nn) : Stm w (n + 20) LS (vR16 k N i wd nn) [] (lst 19) (.next (vR16 k N i wd nn) []) := by
  have hl := lindsey h.hb h.nodup h.lt h.l8
  have h28 := hTab_le (k := k) nn.length
  refine Stm.skipIf (?t : TstS w (n + 20) LS ([] ++ vR16 k N i wd nn) _ false)
  have h1 := strcoll_S (w := w) (n := n + 19) (a := Txt.mul (Str.ofString ".") ((En k N nn : Nat) : Int)) (b := Txt.mul (Str.ofString ".") ((hTab k nn.length : Nat) : Int))
  rw [points_sgn hl] at h1
  refine TstS.cmp (EvS.call (fv := .ref 28) (ds := [.str (Txt.mul (Str.ofString ".") ((En k N nn : Nat) : Int)), .str (Txt.mul (Str.ofString ".") ((hTab k nn.length : Nat) : Int))]) (by walk_at "name") (KeepOk.fn (p := (28, fdT 2 "_strcoll" pmL 27, 27)) (by walk_at "mem"))
    (EvL.cons (EvS.bin EvS.str (by walk_at "name") (BinS.mulS (mulOk_pt (by omega) (by omega)))) (EvL.cons (EvS.bin EvS.str (by walk_at "name") (BinS.mulS (mulOk_pt (by omega) (by omega)))) EvL.nil (by intro _; rfl)) (by intro _; rfl)) h1) ?e (CmpS.neI' rfl)
  exact EvS.ifeI (TstS.cmp (by walk_at "name") (by walk_at "name") CmpS.eqI) EvS.int (by walk_at "ev")
theorem k20 (h : Drw k N i wd nn) : Stm w (n + 20) LS (vR16 k N i wd nn) [] (lst 20) (.next (vR20 k N i wd nn) []) := by
  have h8 := h.l8
  show Stm _ _ _ _ _ _ (.next (("signs", .list ((nn.map sigS).map .str)) :: vR16 k N i wd nn) [])
  rw [List.map_map]
  refine Stm.compT [] (fun x : Nat => D.int (x : Int)) toN (fun j => by simp [toN, toI]) nn _ ?it .list (by walk_at "capt") (by omega) (by walk_at "st") (fun x hx => ?_) (by walk_at "sw")
  case it => rw [← nI_map]; walk_at "name"
  have := h.lt x hx
  have hc := CallS.chr (w := w) (n := n + 20) (i := 64 + (x : Int)) (by omega) (by omega)
  exact EvS.call (fv := .builtin "chr") (by walk_at "name") KeepOk.bui (EvL.cons (EvS.bin EvS.int (by walk_at "name") BinS.add) EvL.nil (by intro _; rfl)) hc
theorem cl_sigS (x : Nat) : cl (sigS x) = [(64 + (x : Int)).toNat] := rfl
theorem join_ok : ∀ (l : List Str), (∀ s ∈ l, ∀ c ∈ cl s, c < 0x110000) → ∀ c ∈ cl (Txt.join (Str.ofString " ") l), c < 0x110000 := fun l => by
  show _ → ∀ c ∈ cl (Builtin.Str.glued _ l), _
  rw [StrLaws.glued_eq_join]
  induction l with
  | nil => intro _ c hc; cases hc
  | cons x r ih =>
    intro h
    cases r with
    | nil => exact h x (.head _)
    | cons y r =>
      intro c hc
      have hc : c ∈ cl (x ++ Str.ofString " " ++ Str.join (Str.ofString " ") (y :: r)) := hc
      rw [cl_app, cl_app] at hc
      rcases List.mem_append.mp hc with hc | hc
      · rcases List.mem_append.mp hc with hc | hc
        · exact h x (.head _) c hc
        · rw [show cl (Str.ofString " ") = [32] from rfl] at hc
          simp only [List.mem_cons, List.not_mem_nil, or_false] at hc; subst hc; decide
      · exact ih (fun s hs => h s (.tail _ hs)) c hc
theorem text_ok (h : Drw k N i wd nn) : PyData.strOk (textS k N nn) = true := strOk_of fun c hc => by
  unfold textS at hc
  rw [cl_app, cl_app] at hc
  have sp : ∀ c ∈ cl (Str.ofString " "), c < 0x110000 := fun c hc => by
    rw [show cl (Str.ofString " ") = [32] from rfl] at hc
    simp only [List.mem_cons, List.not_mem_nil, or_false] at hc; subst hc; decide
  rcases List.mem_append.mp hc with hc | hc
  · rcases List.mem_append.mp hc with hc | hc
    · exact sp c hc
    · refine join_ok _ (fun s hs c hc => ?_) c hc
      rcases List.mem_append.mp hs with hs | hs
      · obtain ⟨x, _, rfl⟩ := List.mem_map.mp hs
        rw [cl_rowT] at hc
        rcases fcl_ok _ c hc with rfl | rfl <;> decide
      · obtain ⟨x, hx, rfl⟩ := List.mem_map.mp hs
        have := h.lt x hx
        rw [cl_sigS] at hc
        simp only [List.mem_cons, List.not_mem_nil, or_false] at hc; omega
  · exact sp c hc
theorem rowT_len (h : isBits k N) {x : Nat} (hx : x < 64) : (rowT k N x).length ≤ 100 := by
  have hl := figs_len (k := k) (N := N) (a := x) (by have := h.k; omega) (by rw [h.mul]; exact hx)
  have hf := figs_ok (k := k) (N := N) (a := x)
  have hp : (2 : Int) ^ k ≤ 8 := by rcases h.k with rfl | rfl | rfl <;> decide
  have hN : N ≤ 6 := by unfold isBits at h; omega
  rw [cl_len, cl_rowT]
  unfold rl
  have key : ∀ l : List Int, (∀ f ∈ l, 0 ≤ f ∧ f < 2 ^ k) → (l.flatMap fcl).length ≤ 9 * l.length := fun l => by
    induction l with
    | nil => intro _; exact Nat.le_refl _
    | cons f r ih =>
      intro h
      have h1 := ih fun g hg => h g (.tail _ hg)
      have h2 := h f (.head _)
      rw [List.flatMap_cons, List.length_append, List.length_cons]
      have : (fcl f).length = f.toNat + 1 := by unfold fcl; simp
      omega
  have := key _ hf
  omega
theorem sum_len : ∀ (l : List Str) (m : Nat), (∀ s ∈ l, s.length ≤ m) → (l.map (·.length)).sum ≤ m * l.length
  | [], _, _ => Nat.zero_le _
  | s :: l, m, h => by
    have h1 := sum_len l m fun t ht => h t (.tail _ ht)
    have h2 := h s (.head _)
    rw [List.map_cons, List.sum_cons, List.length_cons, Nat.mul_add]
    omega
set_option maxHeartbeats 2000000 in
theorem k22 (h : Drw k N i wd nn) : Stm w (n + 20) LS (vR20 k N i wd nn) [] (lst 22) (.next (("text", .str (textS k N nn)) :: vR20 k N i wd nn) []) := by
  have h8 := h.l8
  refine Stm.assign (d := .str (textS k N nn)) (.pure ?_) (by walk_at "st") (by walk_at "sw")
  have hsl : (sizeLine : Nat) = 16777216 := rfl
  have hls : ∀ s ∈ (nn.map fun x => rowT k N x) ++ nn.map sigS, s.length ≤ 100 := fun s hs => by
    rcases List.mem_append.mp hs with hs | hs
    · obtain ⟨x, hx, rfl⟩ := List.mem_map.mp hs; exact rowT_len h.hb (h.lt x hx)
    · obtain ⟨x, hx, rfl⟩ := List.mem_map.mp hs; show 1 ≤ 100; decide
  have hsum := sum_len _ 100 hls
  have hll : ((nn.map fun x => rowT k N x) ++ nn.map sigS).length ≤ 16 := by rw [List.length_append, List.length_map, List.length_map]; omega
  have hjl : (Txt.join (Str.ofString " ") ((nn.map fun x => rowT k N x) ++ nn.map sigS)).length ≤ 10000 := by
    show (Builtin.Str.glued _ _).length ≤ _
    rw [size_glued, show (Str.ofString " ").length = 1 from rfl]; omega
  have hj := CallS.join (w := w) (n := n + 20) (x := Str.ofString " ") (ys := (nn.map fun x => rowT k N x) ++ nn.map sigS) (by rw [show (Str.ofString " ").length = 1 from rfl]; omega)
  rw [List.map_append] at hj
  have ht : textS k N nn = Str.ofString " " ++ Txt.join (Str.ofString " ") ((nn.map fun x => rowT k N x) ++ nn.map sigS) ++ Str.ofString " " := rfl
  rw [ht]
  generalize Txt.join (Str.ofString " ") ((nn.map fun x => rowT k N x) ++ nn.map sigS) = J at *
  have hsp1 : (Str.ofString " ").length = 1 := rfl
  refine EvS.bin (a := .str (Str.ofString " " ++ J)) (b := .str (Str.ofString " ")) ?zz EvS.str (BinS.addS ?l2)
  case zz =>
    refine EvS.bin (a := .str (Str.ofString " ")) (b := .str J) EvS.str ?yy (BinS.addS (by rw [hsp1]; omega))
    case yy =>
      refine EvS.meth (T := "str") (d0 := .str (Str.ofString " ")) (ds := [.list ((nn.map fun x => rowT k N x).map .str ++ (nn.map sigS).map .str)]) EvS.str rfl F.plainAttrs_str F.slot_str_join F.type_str_join (EvL.cons ?r EvL.nil (by intro _; rfl)) hj
      case r =>
        refine EvS.bin (a := .list ((nn.map fun x => rowT k N x).map .str)) (b := vS nn) ?rows (by walk_at "name") (BinS.addL ?ln)
        case rows =>
          have e : (nn.map fun x => rowT k N x).map D.str = (nn.map (wordsD k N i)).map fun row => row.getD 0 .none := by
            rw [List.map_map, List.map_map]
            refine List.map_congr_left fun x _ => ?_
            rfl
          rw [e]
          refine EvS.compT [] D.list toL (fun _ => rfl) (nn.map (wordsD k N i)) _ ?it .list (by walk_at "capt") (by simp; omega) fun row hr => ?_
          case it => rw [List.map_map]; exact EvS.loc (by rfl) (by rfl) (by rfl)
          obtain ⟨x, _, rfl⟩ := List.mem_map.mp hr
          exact EvS.item (ds := wordsD k N i x) (k := 0) (by walk_at "name") EvS.int (by decide) (by rfl) (by unfold wordsD; simp; have := h.hb; unfold isBits at this; omega)
        case ln => simp [sizeLine]; omega
  case l2 => rw [cl_len (_ ++ _), cl_app, List.length_append, ← cl_len, ← cl_len, hsp1]; omega
theorem k23 (h : Drw k N i wd nn) : Stm w (n + 20) LS (("text", .str (textS k N nn)) :: vR20 k N i wd nn) [] (lst 23) (.next (("text", .str (textS k N nn)) :: vR20 k N i wd nn) []) := by
  refine Stm.skipIf (?t : TstS w (n + 20) LS (([] : VL) ++ (("text", .str (textS k N nn)) :: vR20 k N i wd nn : VL)) _ false)
  exact TstS.cmp (a := .str (textS k N nn)) (EvS.call (fv := .ref 35) (by walk_at "name") (KeepOk.fn (p := (35, fdT 3 "_strxfrm" pmL 34, 34)) (by walk_at "mem")) (by walk_at "evl") (strxfrm_S (n := n + 19))) (by walk_at "name") (CmpS.neSame (by omega) (by simp only [isD]; exact text_ok h))
end
end
section
-- K3
variable {w : World}
open PySem.Calls
theorem CmpS.neFalse {n : Nat} {a b : D} (e : a = b) (h7 : 7 ≤ n) (h : isD 60 a = true) : CmpS w n .NotEq a b (.bool false) := by subst e; exact CmpS.neSame h7 h
noncomputable abbrev vTu : D := .list [.int (-1), .int 1, .int 0]
section
variable {n k N wd : Nat} {i : Int} {nn : List Nat}
theorem k21_in {sc : Scope} (hsc : sc = LS) {r : VL} {a b : Str} {ko : Int} (hab : cl a < cl b) : Blk w (n + 20) LS (("latter", .str b) :: ("former", .str a) :: ("k", .int ko) :: r) [] (foB ((foB (lst 21)).getD 0 (.Pass default))) (.next (("turns", vTu) :: ("latter", .str b) :: ("former", .str a) :: ("k", .int ko) :: r) []) := by
  obtain ⟨s1, s2⟩ := sgn_lt hab
  have h1 := strcoll_S (w := w) (n := n + 19) (a := a) (b := b)
  have h2 := strcoll_S (w := w) (n := n + 19) (a := b) (b := a)
  have h3 := strcoll_S (w := w) (n := n + 19) (a := a) (b := a)
  rw [s1] at h1; rw [s2] at h2; rw [sgn_self] at h3
  have kk : KeepOk w (.ref 28) := KeepOk.fn (p := (28, fdT 2 "_strcoll" pmL 27, 27)) (by walk_at "mem")
  refine Blk.cons (Stm.assign (d := vTu) (.pure (EvS.listD (EvL.cons (EvS.call (fv := .ref 28) (by walk_at "name") kk (by walk_at "evl") h1) (EvL.cons (EvS.call (fv := .ref 28) (by walk_at "name") kk (by walk_at "evl") h2) (EvL.cons (EvS.call (fv := .ref 28) (by walk_at "name") kk (by walk_at "evl") h3) EvL.nil (by intro _; rfl)) (by intro _; rfl)) (by intro _; rfl)) (by simp [sizeLine]))) (by walk_at "st") (by walk_at "sw"))
    (Blk.cons (Stm.skipIf ?t) Blk.nil)
  case t =>
    refine (?tt : TstS _ _ _ _ _ (false || false))
    refine TstS.or2 ?x fun _ => ?y
    case x => exact TstS.cmp (a := vTu) (b := vTu) (by walk_at "name") (EvS.listD (EvL.cons (EvS.neg (i := 1) EvS.int) (by walk_at "evl") (by intro _; rfl)) (by simp [sizeLine])) (CmpS.neSame (by omega) (by simp [isD, isDs]))
    case y =>
      refine TstS.cmp (a := .list []) (b := .list []) ?l (EvS.listD EvL.nil (by simp [sizeLine])) (CmpS.neSame (by omega) (by simp [isD, isDs]))
      refine EvS.comp (q := []) D.int toI (fun _ => rfl) [(-1 : Int), 1, 0] (fun _ => false) (fun x => D.int x) (by walk_at "name") (.list (ds := [.int (-1), .int 1, .int 0])) (by walk_at "capt") (by simp) (fun x _ => ?ifs) (fun x _ h => nomatch h)
      case ifs =>
        refine IfsS.one (?uu : TstS _ _ _ _ _ (false || !true))
        exact TstS.or2 (TstS.val (EvS.call (fv := .builtin "isinstance") (by walk_at "name") KeepOk.bui (by walk_at "evl") CallS.isiBool) TruS.bool (by intro _ _; rfl)) fun _ => TstS.not (TstS.val (EvS.call (fv := .builtin "isinstance") (by walk_at "name") KeepOk.bui (by walk_at "evl") CallS.isiInt) TruS.bool (by intro _ _; rfl))
theorem vT_get {k N : Nat} {i : Int} {nn : List Nat} {j x : Nat} (h : nn[j]? = some x) : (nn.map fun x => D.list (wordsD k N i x))[j]? = some (.list (wordsD k N i x)) := by rw [List.getElem?_map, h]; rfl
theorem vS_get {nn : List Nat} {j x : Nat} (h : nn[j]? = some x) : ((nn.map sigS).map D.str)[j]? = some (.str (sigS x)) := by rw [List.getElem?_map, List.getElem?_map, h]; rfl
theorem k21 (h : Drw k N i wd nn) : Stm w (n + 20) LS (vR20 k N i wd nn) [] (lst 21) (.next (vR20 k N i wd nn) []) := by
  have h8 := h.l8
  have h2 := h.l2
  have hlen := CallS.len (w := w) (n := n + 20) (ds := (nI nn).map D.int) (by rw [List.length_map, nI_len]; omega)
  rw [List.length_map, nI_len] at hlen
  have hwl : ∀ x, (wordsD k N i x).length < 2 ^ 62 := fun x => by
    have : N ≤ 6 := by have := h.hb; unfold isBits at this; omega
    unfold wordsD; simp; omega
  refine Stm.forRng (fun _ => vR20 k N i wd nn) (fun _ => []) (nn.length - 1) (a := 1) (b := (nn.length : Nat)) (c := 1) (small_one (by decide) (by decide) (by omega) (by omega)) (by rw [rangeSize_one]; split <;> omega) ?hi (Sub.refl _) rfl (fun _ => by walk_at "st") ?bd
  case hi => exact EvS.call (fv := .type "range") (by walk_at "name") KeepOk.typ (EvL.cons EvS.int (EvL.cons (EvS.call (fv := .builtin "len") (by walk_at "name") KeepOk.bui (by walk_at "evl") hlen) EvL.nil (by intro _; rfl)) (by intro _; rfl)) CallS.range2
  case bd =>
    intro j hj
    obtain ⟨x, hx⟩ : ∃ x, nn[j]? = some x := ⟨_, List.getElem?_eq_getElem (by omega)⟩
    obtain ⟨y, hy⟩ : ∃ y, nn[j + 1]? = some y := ⟨_, List.getElem?_eq_getElem (by omega)⟩
    have hxy : x < y := by
      have := h.up
      rw [List.pairwise_iff_getElem] at this
      have := this j (j + 1) (by omega) (by omega) (by omega)
      rw [List.getElem?_eq_some_iff] at hx hy
      obtain ⟨_, e1⟩ := hx; obtain ⟨_, e2⟩ := hy
      rw [e1, e2] at this; exact this
    have hy64 := h.lt y (List.mem_of_getElem? hy)
    let ps : List (Str × Str) := [(rowT k N y, rowT k N x), (sigS x, sigS y)]
    have hps : ∀ q ∈ ps, cl q.1 < cl q.2 := fun q hq => by
      simp only [ps, List.mem_cons, List.not_mem_nil, or_false] at hq
      rcases hq with rfl | rfl
      · exact rows_fall h.hb hxy hy64
      · exact signs_rise hxy
    let rk : VL := ("k", .int (1 + 1 * (j : Int))) :: vR20 k N i wd nn
    let rt : Nat → VL := fun m => match ps[m]? with | some q => (("latter", .str q.2) :: ("former", .str q.1) :: rk : VL) | none => rk
    refine Blk.weak (Blk.cons (r' := rk) (o' := []) (Stm.for (fun _ => rk) (fun _ => []) rt (di := .list (ps.map prD)) (ds := ps.map prD) ?it .list (.inr ⟨_, _, _, rfl⟩) (Sub.refl _) rfl ?tg ?bb) Blk.nil) (by walk_at "sub")
    case it =>
      have k1 : (1 + 1 * (j : Int)).toNat = j + 1 := by omega
      have k2 : (1 + 1 * (j : Int) - 1).toNat = j := by omega
      refine EvS.listD (EvL.cons (EvS.tupD (EvL.cons (EvS.item (ds := wordsD k N i y) (k := 0) (EvS.item (ds := nn.map fun x => D.list (wordsD k N i x)) (k := 1 + 1 * (j : Int)) (by walk_at "name") (by walk_at "name") (by omega) (by rw [k1]; exact vT_get hy) (by simp; omega)) EvS.int (by decide) (by rfl) (hwl y))
        (EvL.cons (EvS.item (ds := wordsD k N i x) (k := 0) (EvS.item (ds := nn.map fun x => D.list (wordsD k N i x)) (k := 1 + 1 * (j : Int) - 1) (by walk_at "name") (by walk_at "ev") (by omega) (by rw [k2]; exact vT_get hx) (by simp; omega)) EvS.int (by decide) (by rfl) (hwl x)) EvL.nil (by intro _; rfl)) (by intro _; rfl)) (by simp [sizeLine]))
        (EvL.cons (EvS.tupD (EvL.cons (EvS.item (ds := (nn.map sigS).map .str) (k := 1 + 1 * (j : Int) - 1) (by walk_at "name") (by walk_at "ev") (by omega) (by rw [k2]; exact vS_get hx) (by simp; omega))
          (EvL.cons (EvS.item (ds := (nn.map sigS).map .str) (k := 1 + 1 * (j : Int)) (by walk_at "name") (by walk_at "name") (by omega) (by rw [k1]; exact vS_get hy) (by simp; omega)) EvL.nil (by intro _; rfl)) (by intro _; rfl)) (by simp [sizeLine])) EvL.nil (by intro _; rfl)) (by intro _; rfl)) (by show 2 ≤ sizeLine; decide)
    case tg =>
      intro m d hd
      rw [List.getElem?_map] at hd
      cases hq : ps[m]? with
      | none => rw [hq] at hd; cases hd
      | some q =>
        rw [hq] at hd; cases hd
        simp only [rt, hq]
        exact TgtS.tuple (xs := ["former", "latter"]) (ds := [.str q.1, .str q.2]) (.cons (.cons .nil)) (fun y hy => by simp at hy; rcases hy with rfl | rfl <;> walk_at "st") rfl
    case bb =>
      intro m d hd
      rw [List.getElem?_map] at hd
      cases hq : ps[m]? with
      | none => rw [hq] at hd; cases hd
      | some q =>
        simp only [rt, hq]
        exact Blk.weak (k21_in (sc := LS) rfl (r := vR20 k N i wd nn) (ko := 1 + 1 * (j : Int)) (hps q (List.mem_of_getElem? hq))) (by walk_at "sub")
end
end
section
-- K4
variable {w : World}
open PySem.Calls
theorem val_sum (wd : Nat) : ∀ nn : List Nat, ((List.range nn.length).map fun j => ((nn.getD j 0 : Nat) : Int) * 2 ^ (wd * j)).sum = (valN wd nn : Nat)
  | [] => rfl
  | d :: ds => by
    have ih := val_sum wd ds
    rw [List.length_cons, List.range_succ_eq_map, List.map_cons, List.sum_cons, List.map_map]
    have e : ∀ l : List Nat, (l.map ((fun j => (((d :: ds).getD j 0 : Nat) : Int) * 2 ^ (wd * j)) ∘ Nat.succ)).sum = 2 ^ wd * (l.map fun j => ((ds.getD j 0 : Nat) : Int) * 2 ^ (wd * j)).sum := fun l => by
      induction l with
      | nil => simp
      | cons j l ih =>
        rw [List.map_cons, List.sum_cons, ih, List.map_cons, List.sum_cons, Int.mul_add]
        congr 1
        show ((ds.getD j 0 : Nat) : Int) * 2 ^ (wd * (j + 1)) = _
        rw [Nat.mul_add, Nat.mul_one, Int.pow_add, Int.mul_comm (2 ^ wd), Int.mul_assoc]
    rw [e, ih]
    show (d : Int) * 2 ^ (wd * 0) + _ = ((d + 2 ^ wd * valN wd ds : Nat) : Int)
    push_cast
    simp
noncomputable abbrev vR24 (k N : Nat) (i : Int) (wd : Nat) (nn : List Nat) : VL := ("together", .int (valN wd nn : Nat)) :: ("field", .int ((2 : Int) ^ wd - 1)) :: ("text", .str (textS k N nn)) :: vR20 k N i wd nn
section
variable {n k N wd : Nat} {i : Int} {nn : List Nat}
theorem field_small (h : Drw k N i wd nn) : 0 < (2 : Int) ^ wd - 1 ∧ (2 : Int) ^ wd - 1 < 2 ^ 30 ∧ 2 ^ 6 ≤ 2 ^ wd ∧ (2 : Nat) ^ wd ≤ 2 ^ 15 := by
  have h1 : (2 : Nat) ^ 6 ≤ 2 ^ wd := Nat.pow_le_pow_right (by decide) h.w6
  have h2 : (2 : Nat) ^ wd ≤ 2 ^ 15 := Nat.pow_le_pow_right (by decide) h.w15
  have e : ((2 ^ wd : Nat) : Int) = (2 : Int) ^ wd := by push_cast; rfl
  refine ⟨?_, ?_, h1, h2⟩ <;> omega
theorem valN_small (h : Drw k N i wd nn) : valN wd nn < 2 ^ 250 := by
  obtain ⟨_, _, f3, _⟩ := field_small h
  have := valN_lt (wd := wd) (nn := nn) fun x hx => Nat.lt_of_lt_of_le (h.lt x hx) f3
  refine Nat.lt_of_lt_of_le this (Nat.pow_le_pow_right (by decide) ?_)
  have h8 := h.l8
  have := h.w15
  exact Nat.le_trans (Nat.mul_le_mul this h8) (by decide)
theorem k24 (h : Drw k N i wd nn) : Stm w (n + 20) LS (("text", .str (textS k N nn)) :: vR20 k N i wd nn) [] (lst 24) (.next (vR24 k N i wd nn) []) := by
  have h8 := h.l8
  have hw := h.w15
  have hlen := CallS.len (w := w) (n := n + 20) (ds := (nI nn).map D.int) (by rw [List.length_map, nI_len]; omega)
  rw [List.length_map, nI_len] at hlen
  refine Stm.assignW (xs := ["together", "field"]) (ds := [.int (valN wd nn : Nat), .int ((2 : Int) ^ wd - 1)]) (.pure (EvS.tupD (EvL.cons ?sm (EvL.cons ?fd EvL.nil (by intro _; rfl)) (by intro _; rfl)) (by simp [sizeLine]))) ?hk rfl ?hw
  case hk => intro y hy; simp at hy; rcases hy with rfl | rfl <;> walk_at "st"
  case hw => intro env hs; cases env; cases hs; rfl
  case fd =>
    have := BinS.shl (w := w) (n := n + 20) (a := 1) (b := (wd : Nat)) (by omega) (by omega) (by decide)
    rw [Int.toNat_natCast, Int.one_mul] at this
    exact EvS.bin (EvS.bin EvS.int (by walk_at "name") this) EvS.int BinS.sub
  case sm =>
    rw [← val_sum]
    refine EvS.call (fv := .builtin "sum") (ds := [.list (((List.range nn.length).map fun j => ((nn.getD j 0 : Nat) : Int) * 2 ^ (wd * j)).map .int)]) (by walk_at "name") KeepOk.bui (EvL.cons ?lc EvL.nil (by intro _; rfl)) CallS.sum
    case lc =>
      rw [List.map_map]
      refine EvS.compT [("numbers", nD nn), ("width", .int (wd : Nat))] (fun j : Nat => D.int (j : Int)) toN (fun j => by simp [toN, toI]) (List.range nn.length) _ ?it (Items.nat (by omega)) (by walk_at "capt") (by simp; omega) fun j hj => ?_
      case it => exact EvS.call (fv := .type "range") (by walk_at "name") KeepOk.typ (EvL.cons (EvS.call (fv := .builtin "len") (by walk_at "name") KeepOk.bui (by walk_at "evl") hlen) EvL.nil (by intro _; rfl)) CallS.range1
      have hj' := List.mem_range.mp hj
      have hxm : nn.getD j 0 ∈ nn := by rw [List.getD_eq_getElem?_getD, List.getElem?_eq_getElem hj']; exact List.getElem_mem hj'
      have hx := h.lt _ hxm
      have hwj : (wd : Int) * (j : Int) = ((wd * j : Nat) : Int) := by push_cast; rfl
      have hwj2 : wd * j ≤ 15 * 8 := Nat.mul_le_mul hw (by omega)
      have hib : Builtin.Int.intBits ((nn.getD j 0 : Nat) : Int) ≤ 64 := intBits_le_64 (k := ((nn.getD j 0 : Nat) : Int)) (by omega) (by omega)
      have := BinS.shlB (w := w) (n := n + 20) (a := ((nn.getD j 0 : Nat) : Int)) (b := (wd : Int) * (j : Int)) (by rw [hwj]; omega) (by rw [hwj]; omega)
      rw [hwj, Int.toNat_natCast, ← hwj] at this
      refine EvS.bin (EvS.item (ds := (nI nn).map .int) (k := (j : Int)) (by walk_at "name") (by walk_at "name") (by omega) ?_ (by rw [List.length_map, nI_len]; omega)) (EvS.bin (by walk_at "name") (by walk_at "name") (BinS.mul (by omega))) this
      rw [Int.toNat_natCast, nI_map, List.getElem?_map, List.getD_eq_getElem?_getD, List.getElem?_eq_getElem hj']; rfl
theorem k25 (h : Drw k N i wd nn) : Stm w (n + 20) LS (vR24 k N i wd nn) [] (lst 25) (.next (vR24 k N i wd nn) []) := by
  have h8 := h.l8
  have hw := h.w15
  have h6 := h.w6
  obtain ⟨f1, f2, f3, f4⟩ := field_small h
  have hT := valN_small h
  refine Stm.skipIf (?t : TstS w (n + 20) LS ([] ++ vR24 k N i wd nn) _ (false || false))
  refine TstS.or2 ?a fun _ => ?b
  case a =>
    have hv := (digits2int_S (w := w) (n := n + 10)) wd (nI nn) (by omega) (by omega) (by rw [nI_len]; omega) fun d hd => by
      unfold nI at hd
      obtain ⟨x, hx, rfl⟩ := List.mem_map.mp hd
      have := h.lt x hx
      have : (64 : Int) < 2 ^ 250 := by decide
      omega
    rw [valI_nI] at hv
    exact TstS.cmp (EvS.call (fv := .ref 70) (by walk_at "name") (KeepOk.fn (p := (70, fdT 11 "_digits2int" pmP 69, 69)) (by walk_at "mem")) (by walk_at "evl") hv) (by walk_at "name") (CmpS.neI' rfl)
  case b =>
    have hD : DivOk w (n + 20) := divmod_pos_S (n := n + 18) (int2digits_S (n := n + 9)) (digits2int_S (n := n + 9))
    have h250 : ((2 ^ 250 : Nat) : Int) = 2 ^ 250 := by norm_cast
    have hd := hD ((valN wd nn : Nat) : Int) ((2 : Int) ^ wd - 1) (by omega) (by omega) f1 f2
    have e : (((valN wd nn : Nat) : Int)).fmod ((2 : Int) ^ wd - 1) = ((nI nn).sum).fmod ((2 : Int) ^ wd - 1) := by
      obtain ⟨q, e⟩ := val_field (wd := wd) nn
      rw [e, Int.fmod_eq_emod_of_nonneg _ (by omega), Int.fmod_eq_emod_of_nonneg _ (by omega), Int.add_mul_emod_self_left]
    rw [e] at hd
    have hf := BinS.fdiv (w := w) (n := n + 20) (a := ((valN wd nn : Nat) : Int)) (b := (2 : Int) ^ wd - 1) (by omega) (by omega)
    have hm := BinS.fmod (w := w) (n := n + 20) (a := (nI nn).sum) (b := (2 : Int) ^ wd - 1) (by omega)
    refine TstS.cmp (EvS.call (fv := .ref 77) (by walk_at "name") (KeepOk.fn (p := (77, fdT 12 "_divmod_pos" pmP 76, 76)) (by walk_at "mem")) (by walk_at "evl") hd) (EvS.tupD (EvL.cons (EvS.bin (by walk_at "name") (by walk_at "name") hf) (EvL.cons (EvS.bin (EvS.call (fv := .builtin "sum") (by walk_at "name") KeepOk.bui (by walk_at "evl") (CallS.sum (ns := nI nn))) (by walk_at "name") hm) EvL.nil (by intro _; rfl)) (by intro _; rfl)) (by simp [sizeLine])) (CmpS.neSame (by omega) (by simp [isD, isDs]))
theorem last_pos (h : Drw k N i wd nn) : ∃ l t, nn = l ++ [t] ∧ 0 < t := by
  have h2 := h.l2
  have hne : nn ≠ [] := fun z => by rw [z] at h2; simp at h2
  refine ⟨nn.dropLast, nn.getLast hne, (List.dropLast_concat_getLast hne).symm, ?_⟩
  have h0 : 0 < nn.length := by omega
  have := h.up
  rw [List.pairwise_iff_getElem] at this
  have h3 := this 0 (nn.length - 1) (by omega) (by omega) (by omega)
  rw [List.getLast_eq_getElem]
  omega
theorem k26 (h : Drw k N i wd nn) : Stm w (n + 20) LS (vR24 k N i wd nn) [] (lst 26) (.ret (.bool true)) := by
  have hw := h.w15
  have h6 := h.w6
  have h8 := h.l8
  obtain ⟨f1, f2, f3, f4⟩ := field_small h
  have hT := valN_small h
  obtain ⟨l, t, hl, ht⟩ := last_pos h
  have hI := (int2digits_S (w := w) (n := n + 10)) (valN wd nn) wd hT (by omega) (by omega)
  have hd : digs wd (valN wd nn) = nI nn := by
    rw [hl]; exact digs_val (by omega) ht fun x hx => Nat.lt_of_lt_of_le (h.lt x (hl ▸ hx)) f3
  rw [hd] at hI
  have hD : isD 60 (nD nn) = true := by
    simp only [isD]
    refine isDs_all fun d hd => ?_
    obtain ⟨x, _, rfl⟩ := List.mem_map.mp hd
    simp only [isD]
  refine Stm.ret (EvS.cmp (EvS.call (fv := .ref 63) (by walk_at "name") (KeepOk.fn (p := (63, fdT 10 "_int2digits" pmP 62, 62)) (by walk_at "mem")) (by walk_at "evl") hI) (by walk_at "name") (CmpS.eqD (by omega) hD hD (eqv_refl hD)))
theorem law_tail (h : Drw k N i wd nn) : Blk w (n + 20) LS (vR k i wd nn) [] (lawB.drop 11) (.ret (.bool true)) :=
  Blk.cons (k11 h) (Blk.cons (k12 h) (Blk.cons (k13 h) (Blk.cons (k14 h) (Blk.cons (k15 h) (Blk.cons (k16 h) (Blk.cons (k17 h) (Blk.cons (k18 h) (Blk.cons (k19 h) (Blk.cons (k20 h) (Blk.cons (k21 h) (Blk.cons (k22 h) (Blk.cons (k23 h) (Blk.cons (k24 h) (Blk.cons (k25 h) (Blk.last (k26 h))))))))))))))))
end
end
section
-- K5
variable {w : World}
open PySem.Calls
noncomputable abbrev iL (l : List Int) : D := .list (l.map .int)
noncomputable def pt (sc : List Int) (c : Int) : Int := ((pickG sc (some c) none (some 2)).map fun x => x.fmod (10 ^ 9)).sum
noncomputable abbrev fst' (sc : List Int) : Int := 5023100 + pt sc 0
noncomputable abbrev snd' (sc : List Int) : Int := 3132 + pt sc 1
theorem pt_nonneg (sc : List Int) (c : Int) : 0 ≤ pt sc c := by
  unfold pt
  generalize pickG sc (some c) none (some 2) = l
  induction l with
  | nil => decide
  | cons x l ih =>
    rw [List.map_cons, List.sum_cons]
    have := Int.fmod_nonneg_of_pos x (b := 10 ^ 9) (by decide)
    omega
noncomputable def szs (a : Int) : List Int := (List.range 7).map fun j => 1 + ((a.fdiv (10 ^ j)).fmod 10).fmod 6
noncomputable abbrev fg (b : Int) (m : Int) : Int := (b.fdiv m).fmod 10
noncomputable abbrev v2 (sc : List Int) : VL := [("sizes", iL (szs (fst' sc))), ("second", .int (snd' sc)), ("first", .int (fst' sc)), ("script", iL sc)]
section
variable {n : Nat} {sc : List Int}
set_option maxHeartbeats 4000000 in
theorem k0 (hl : sc.length ≤ 63) : Stm w (n + 20) LS [("script", iL sc)] [] (lst 0) (.next [("first", .int (fst' sc)), ("script", iL sc)] []) := by
  have hp := pickG_len (xs := sc) (lo := some 0) (hi := none) (m := 2) (by decide) (.inl rfl) rfl
  refine Stm.assign (d := .int (fst' sc)) (.pure ?_) (by walk_at "st") (by walk_at "sw")
  refine EvS.bin (a := .int 5023100) (b := .int (pt sc 0)) EvS.int ?s BinS.add
  refine EvS.call (fv := .builtin "sum") (ds := [iL ((pickG sc (some 0) none (some 2)).map fun x => x.fmod (10 ^ 9))]) (by walk_at "name") KeepOk.bui (EvL.cons ?lc EvL.nil (by intro _; rfl)) CallS.sum
  show EvS _ _ _ _ _ (.list _)
  rw [List.map_map]
  refine EvS.compT [] D.int toI (fun _ => rfl) (pickG sc (some 0) none (some 2)) _ ?it .list (by walk_at "capt") (by omega) fun x _ => ?_
  case it => rw [← pick_map]; exact EvS.slice (by walk_at "name") (.some EvS.int) .none (.some EvS.int) (by decide) (by simp [sizeLine]; omega)
  exact EvS.bin (by walk_at "name") (EvS.bin EvS.int EvS.int (BinS.pow10 (b := 9) (by decide) (by decide))) (BinS.fmod (by decide))
theorem k1 (hl : sc.length ≤ 63) : Stm w (n + 20) LS [("first", .int (fst' sc)), ("script", iL sc)] [] (lst 1) (.next [("second", .int (snd' sc)), ("first", .int (fst' sc)), ("script", iL sc)] []) := by
  have hp := pickG_len (xs := sc) (lo := some 1) (hi := none) (m := 2) (by decide) (.inr rfl) rfl
  refine Stm.assign (d := .int (snd' sc)) (.pure ?_) (by walk_at "st") (by walk_at "sw")
  refine EvS.bin (a := .int 3132) (b := .int (pt sc 1)) EvS.int ?s BinS.add
  refine EvS.call (fv := .builtin "sum") (ds := [iL ((pickG sc (some 1) none (some 2)).map fun x => x.fmod (10 ^ 9))]) (by walk_at "name") KeepOk.bui (EvL.cons ?lc EvL.nil (by intro _; rfl)) CallS.sum
  show EvS _ _ _ _ _ (.list _)
  rw [List.map_map]
  refine EvS.compT [] D.int toI (fun _ => rfl) (pickG sc (some 1) none (some 2)) _ ?it .list (by walk_at "capt") (by omega) fun x _ => ?_
  case it => rw [← pick_map]; exact EvS.slice (by walk_at "name") (.some EvS.int) .none (.some EvS.int) (by decide) (by simp [sizeLine]; omega)
  exact EvS.bin (by walk_at "name") (EvS.bin EvS.int EvS.int (BinS.pow10 (b := 9) (by decide) (by decide))) (BinS.fmod (by decide))
theorem k2 : Stm w (n + 20) LS [("second", .int (snd' sc)), ("first", .int (fst' sc)), ("script", iL sc)] [] (lst 2) (.next (v2 sc) []) := by
  show Stm _ _ _ _ _ _ (.next (("sizes", .list _) :: _) [])
  unfold szs
  rw [List.map_map]
  refine Stm.compT [("first", .int (fst' sc))] (fun j : Nat => D.int (j : Int)) toN (fun j => by simp [toN, toI]) (List.range 7) _ ?it (Items.nat (by decide)) (by walk_at "capt") (by decide) (by walk_at "st") (fun j hj => ?_) (by walk_at "sw")
  case it => exact EvS.call (fv := .type "range") (by walk_at "name") KeepOk.typ (by walk_at "evl") (CallS.range1 (b := 7))
  have hj := List.mem_range.mp hj
  have hp : (10 : Nat) ^ j ≤ 10 ^ 6 := Nat.pow_le_pow_right (by decide) (by omega)
  have h0 : 0 < (10 : Nat) ^ j := Nat.pow_pos (by decide)
  have e : ((10 ^ j : Nat) : Int) = (10 : Int) ^ j := by push_cast; rfl
  have hw := BinS.pow10 (w := w) (n := n + 20) (b := (j : Int)) (by omega) (by omega)
  rw [Int.toNat_natCast] at hw
  exact EvS.bin (d := .int _) EvS.int (EvS.bin (EvS.bin (EvS.bin (by walk_at "name") (EvS.bin EvS.int (by walk_at "name") hw) (BinS.fdiv (by omega) (by omega))) EvS.int (BinS.fmod (by decide))) EvS.int (BinS.fmod (by decide))) BinS.add
noncomputable abbrev v4 (sz : List Int) (b kd bt hd wd : Int) : VL := [("width", .int wd), ("head", .int hd), ("bits", .int bt), ("kind", .int kd), ("sizes", iL sz), ("second", .int b)]
variable {sz : List Int} {b : Int}
theorem k3 : Stm w (n + 20) LS [("sizes", iL sz), ("second", .int b)] [] (lst 3) (.next [("bits", .int (1 + (fg b 100).fmod 3)), ("kind", .int ((b.fmod 10).fmod 4)), ("sizes", iL sz), ("second", .int b)] []) := by
  refine Stm.assignT rfl (d := .tup [.int ((b.fmod 10).fmod 4), .int (1 + (fg b 100).fmod 3)]) (.pure ?e) (TgtS.tuple (xs := ["kind", "bits"]) (.cons (.cons .nil)) ?hk rfl) ?hw
  case hk => intro y hy; simp at hy; rcases hy with rfl | rfl <;> walk_at "st"
  case hw => intro env hs; cases env; cases hs; rfl
  case e => walk_at "ev"
theorem k4 {kd bt : Int} : Stm w (n + 20) LS [("bits", .int bt), ("kind", .int kd), ("sizes", iL sz), ("second", .int b)] [] (lst 4) (.next (v4 sz b kd bt ((fg b 1000).fmod 4) (6 + fg b 10000)) []) := by
  refine Stm.assignT rfl (d := .tup [.int ((fg b 1000).fmod 4), .int (6 + fg b 10000)]) (.pure ?e) (TgtS.tuple (xs := ["head", "width"]) (.cons (.cons .nil)) ?hk rfl) ?hw
  case hk => intro y hy; simp at hy; rcases hy with rfl | rfl <;> walk_at "st"
  case hw => intro env hs; cases env; cases hs; rfl
  case e => walk_at "ev"
theorem k5 {kd bt hd wd : Int} (hz : sz.length ≤ 7) : Stm w (n + 20) LS (v4 sz b kd bt hd wd) [] (lst 5) (.next (("short", iL (sz.take (1 + (fg b 10).fmod 6).toNat)) :: v4 sz b kd bt hd wd) []) := by
  have h0 : 0 ≤ 1 + (fg b 10).fmod 6 := by have := Int.fmod_nonneg_of_pos (fg b 10) (b := 6) (by decide); omega
  refine Stm.assign (d := iL (sz.take (1 + (fg b 10).fmod 6).toNat)) (.pure ?_) (by walk_at "st") (by walk_at "sw")
  show EvS _ _ _ _ _ (.list _)
  rw [← pick_takeI, Int.toNat_of_nonneg h0]
  exact EvS.slice (by walk_at "name") .none (.some (by walk_at "ev")) .none (by decide) (by simp [sizeLine]; omega)
end
end
section
-- K6
variable {w : World}
open PySem.Calls
noncomputable def rul (sz sh : List Int) : Nat → List Int
  | 0 => sz
  | 1 => sz ++ [127, 4]
  | 2 => sh ++ [0, 9]
  | _ => sz ++ [128, -1, 127, 5]
noncomputable def du (sz sh : List Int) (t : Int) : Nat → List Int
  | 0 => sz
  | 1 => sz
  | 2 => (sh ++ List.replicate 10 t).take 10
  | _ => sz ++ [128, -1]
noncomputable abbrev v6 (sz sh : List Int) (b : Int) (kd : Nat) (bt hd wd : Int) : VL := ("ruler", iL (rul sz sh kd)) :: ("short", iL sh) :: v4 sz b kd bt hd wd
theorem four {a b c d : D} {e : D} {kd : Nat} (h : kd < 4) (h0 : kd = 0 → a = e) (h1 : kd = 1 → b = e) (h2 : kd = 2 → c = e) (h3 : kd = 3 → d = e) : ([a, b, c, d] : List D)[((kd : Nat) : Int).toNat]? = some e := by
  rw [Int.toNat_natCast]
  rcases (by omega : kd = 0 ∨ kd = 1 ∨ kd = 2 ∨ kd = 3) with rfl | rfl | rfl | rfl
  · rw [← h0 rfl]; rfl
  · rw [← h1 rfl]; rfl
  · rw [← h2 rfl]; rfl
  · rw [← h3 rfl]; rfl
section
variable {n : Nat} {sz sh : List Int} {b bt hd wd : Int} {kd : Nat}
theorem k6 (hz : sz.length ≤ 7) (hs : sh.length ≤ 7) (hk : kd < 4) : Stm w (n + 20) LS (("short", iL sh) :: v4 sz b kd bt hd wd) [] (lst 6) (.next (v6 sz sh b kd bt hd wd) []) := by
  refine Stm.assign (d := iL (rul sz sh kd)) (.pure ?_) (by walk_at "st") (by walk_at "sw")
  refine EvS.item (ds := [iL sz, .list (sz.map .int ++ [.int 127, .int 4]), .list (sh.map .int ++ [.int 0, .int 9]), .list (sz.map .int ++ [.int 128, .int (-1), .int 127, .int 5])]) (k := ((kd : Nat) : Int)) ?l (by walk_at "name") (by omega) ?g (by simp)
  case g =>
    refine four hk (fun h => ?_) (fun h => ?_) (fun h => ?_) (fun h => ?_) <;> subst h
    · rfl
    · show _ = D.list ((sz ++ [127, 4]).map .int); rw [List.map_append]; rfl
    · show _ = D.list ((sh ++ [0, 9]).map .int); rw [List.map_append]; rfl
    · show _ = D.list ((sz ++ [128, -1, 127, 5]).map .int); rw [List.map_append]; rfl
  case l =>
    have hsl : (sizeLine : Nat) = 16777216 := rfl
    refine EvS.listD (EvL.cons (by walk_at "name") (EvL.cons (EvS.bin (by walk_at "name") (by walk_at "ev") (BinS.addL ?a)) (EvL.cons (EvS.bin (by walk_at "name") (by walk_at "ev") (BinS.addL ?c)) (EvL.cons (EvS.bin (by walk_at "name") (EvS.listD (EvL.cons EvS.int (EvL.cons (EvS.neg (i := 1) EvS.int) (by walk_at "evl") (by intro _; rfl)) (by intro _; rfl)) (by simp [sizeLine])) (BinS.addL ?d)) EvL.nil (by intro _; rfl)) (by intro _; rfl)) (by intro _; rfl)) (by intro _; rfl)) (by simp [sizeLine])
    case a => simp; omega
    case c => simp; omega
    case d => simp; omega
theorem k7 {sh' : List Int} {t : Int} (hsh : sh = sh' ++ [t]) (hz : sz.length ≤ 7) (hs : sh.length ≤ 7) (hk : kd < 4) : Stm w (n + 20) LS (v6 sz sh b kd bt hd wd) [] (lst 7) (.next (("due", iL (du sz sh t kd)) :: v6 sz sh b kd bt hd wd) []) := by
  refine Stm.assign (d := iL (du sz sh t kd)) (.pure ?_) (by walk_at "st") (by walk_at "sw")
  have hsl : (sizeLine : Nat) = 16777216 := rfl
  refine EvS.item (ds := [iL sz, iL sz, iL ((sh ++ List.replicate 10 t).take 10), .list (sz.map .int ++ [.int 128, .int (-1)])]) (k := ((kd : Nat) : Int)) ?l (by walk_at "name") (by omega) ?g (by simp)
  case g =>
    refine four hk (fun h => ?_) (fun h => ?_) (fun h => ?_) (fun h => ?_) <;> subst h
    · rfl
    · rfl
    · rfl
    · show _ = D.list ((sz ++ [128, -1]).map .int); rw [List.map_append]; rfl
  case l =>
    refine EvS.listD (EvL.cons (by walk_at "name") (EvL.cons (by walk_at "name") (EvL.cons ?c (EvL.cons (EvS.bin (by walk_at "name") (EvS.listD (EvL.cons EvS.int (EvL.cons (EvS.neg (i := 1) EvS.int) EvL.nil (by intro _; rfl)) (by intro _; rfl)) (by simp [sizeLine])) (BinS.addL ?d)) EvL.nil (by intro _; rfl)) (by intro _; rfl)) (by intro _; rfl)) (by intro _; rfl)) (by simp [sizeLine])
    case d => simp; omega
    case c =>
      show EvS _ _ _ _ _ (.list (((sh ++ List.replicate 10 t).take 10).map .int))
      rw [← pick_takeI]
      refine EvS.slice ?x .none (.some EvS.int) .none (by decide) (by simp; omega)
      rw [List.map_append]
      refine EvS.bin (by walk_at "name") ?y (BinS.addL (by simp; omega))
      have e : (List.replicate 10 t).map D.int = (List.replicate (10 : Int).toNat [D.int t]).flatten := rfl
      rw [e]
      refine EvS.bin (EvS.listD (EvL.cons ?z EvL.nil (by intro _; rfl)) (by simp [sizeLine])) EvS.int (BinS.mulL (b := 10) (by decide) (by decide) (by simp))
      have hl : sh.length = sh'.length + 1 := by rw [hsh, List.length_append]; rfl
      refine EvS.itemNeg (ds := sh.map .int) (k := -1) (by walk_at "name") (EvS.neg (i := 1) EvS.int) (by decide) (by rw [List.length_map, hl]; omega) ?_ (by rw [List.length_map]; omega)
      rw [List.length_map, List.getElem?_map, hl, show (-1 + ((sh'.length + 1 : Nat) : Int)).toNat = sh'.length by omega, hsh, List.getElem?_append_right (Nat.le_refl _), Nat.sub_self]; rfl
end
end
section
-- K7
variable {w : World}
open PySem.Calls
noncomputable def cmpE : Expr → List Expr
  | .Compare (.List es _) _ _ _ => es
  | _ => []
noncomputable def cmpR : Expr → Expr
  | .Compare _ _ (e :: _) _ => e
  | e => e
noncomputable abbrev t8 : Expr := q1 (lst 8)
noncomputable abbrev t8e (j : Nat) : Expr := (cmpE t8).getD j (.Constant .none 0 default)
theorem spl_cons {A : Around} {s : Shared} {env : Env} {pos : Pos} {e : Expr} {es : List Expr} {Q : List Value → Shared → Prop} {E} (hst : starEach (e :: es) env = (false, eval e env) :: starEach es env)
    (h : wpAny (model PRG w) A (eval e env) (fun v s₁ => wpAny (model PRG w) A (spliced (backTo pos (starEach es env))) (fun vs s₂ => Q (v :: vs) s₂) E s₁) E s) : wpAny (model PRG w) A (spliced (backTo pos (starEach (e :: es) env))) Q E s := by
  rw [hst]
  exact Calls.spliced_cons h
section
variable {n : Nat} {A : Around} {n₀ : Nat} {X₀ Wb : Addr → Prop} {sb s s' : Shared} {env : Env} {r : VL} {ad : Str → Addr}
theorem StA.stepN (S : StA n₀ X₀ Wb sb env r [] s ad) (E : EffM (fun b => b = env.locals) s s') (I : Inv s'.heap) (N : ∀ m, s.heap.Ns env.locals m → s'.heap.Ns env.locals m) : StA n₀ X₀ Wb sb env r [] s' ad := by
  obtain ⟨m, nm, mi, hm⟩ := S.vars.ns
  have E' : EffM (Mu env (OW [] ad)) s s' := E.weaken fun x e => .inl e
  have sk := S.sk E'
  have hc : ∀ c v, s.heap.IsCell c v → s'.heap.IsCell c v := fun c v h => by
    have ht := S.inv.cell_notTab h
    obtain ⟨ob, e1, e2⟩ := h
    exact ⟨ob, E.keep c ob e1 ht (fun z => ns_notCell (v := v) nm (by rw [← z]; exact ⟨ob, e1, e2⟩)), e2⟩
  refine ⟨S.eff.trans (E.weaken fun x e => .inl e), S.ownB, I, ⟨fun x y => ?_, S.vars.kind, S.vars.glo, S.vars.bui, ⟨m, N m nm, mi, fun y d e k => ?_⟩, fun y d e k => ?_⟩, S.n0, S.xlow, S.lowL, S.lowC, fun x k => ?_, S.apart, fun p hp => (nomatch hp), S.dist⟩
  · obtain ⟨t, ob, e⟩ := S.vars.bnd x y
    exact ⟨t, ob, E.keep x ob e t fun z => S.nXL (z ▸ y)⟩
  · obtain ⟨v, e1, e2⟩ := hm y d e k
    exact ⟨v, e1, e2.keep sk⟩
  · obtain ⟨c, v, e1, e2, e3⟩ := S.vars.cel y d e k
    exact ⟨c, v, e1, hc _ _ e2, e3.keep sk⟩
  · obtain ⟨c, v, e1, e2⟩ := S.cells x k
    exact ⟨c, v, e1, hc _ _ e2⟩
variable {ru due L : List Int} {fin : Bool}
theorem k8_e1 (ht : Tells none ru L fin) (hfin : fin = false → 10 ≤ L.length) (hz : L.length ≤ 1000) (hd : L.take 10 = due) : EvS w (n + 20) LS (("due", iL due) :: ("ruler", iL ru) :: r) (t8e 0) (iL due) := by
  have kk : KeepOk w (.ref 168) := KeepOk.fn (p := (168, fdTD, 167)) (by walk_at "mem")
  have t1 : CallS w (n + 20) (.ref 168) [.list (ru.map .int), .int 10] (.list ((L.take 10).map .int)) := told_S (w := w) (n := n + 11) (most := 10) ht (by decide) hfin hz
  rw [hd] at t1
  exact EvS.call (fv := .ref 168) (by walk_at "name") kk (by walk_at "evl") t1
theorem k8_e2 (hru : ru.length ≤ 100) : EvS w (n + 20) LS (("due", iL due) :: ("ruler", iL ru) :: r) (t8e 1) (.list []) := by
  have kk : KeepOk w (.ref 168) := KeepOk.fn (p := (168, fdTD, 167)) (by walk_at "mem")
  have hsl : (sizeLine : Nat) = 16777216 := rfl
  have t2 : CallS w (n + 20) (.ref 168) [.list ([D.int 127] ++ ru.map D.int), .int 1] (.list []) := told_S (w := w) (n := n + 11) (ru := 127 :: ru) (most := 1) Tells.max (by decide) (fun z => nomatch z) (by decide)
  exact EvS.call (fv := .ref 168) (ds := [.list ([D.int 127] ++ ru.map D.int), .int 1]) (by walk_at "name") kk (EvL.cons (EvS.bin (by walk_at "ev") (by walk_at "name") (BinS.addL (by simp; omega))) (by walk_at "evl") (by intro _; rfl)) t2
theorem k8_e3 (hru : ru.length ≤ 100) (hfr : A.frames = some [env]) (hfL : env.frame = some env.locals) (hs : env.scope = LS) (R : Rm (n + 20) A) (S : StA n₀ X₀ Wb sb env (("due", iL due) :: ("ruler", iL ru) :: r) [] s ad) :
    wpAny (model PRG w) A (eval (t8e 2) env) (fun v s' => ∃ t, v = .str "refused" t ∧ EffM (fun b => b = env.locals) s s' ∧ Inv s'.heap ∧ StA n₀ X₀ Wb sb env (("due", iL due) :: ("ruler", iL ru) :: r) [] s' ad) (fun _ _ => False) s := by
  have kk : KeepOk w (.ref 168) := KeepOk.fn (p := (168, fdTD, 167)) (by walk_at "mem")
  have hsl : (sizeLine : Nat) = 16777216 := rfl
  refine EvS.callK (n := n + 20) (sc := LS) (r := ("due", iL due) :: ("ruler", iL ru) :: r) (fv := .ref 168) (ds := [.list ([D.int 0] ++ ru.map D.int), .int 1]) (by walk_at "name") kk (EvL.cons (EvS.bin (by walk_at "ev") (by walk_at "name") (BinS.addL (by simp; omega))) (by walk_at "evl") (by intro _; rfl)) (by intro _; rfl) hs R S.inv S.vars fun vs s₂ E I₂ hv => ?_
  obtain ⟨v, vs', rfl, h1, h2⟩ := hv.cons_inv
  obtain ⟨v2, vs2, rfl, h3, h4⟩ := h2.cons_inv
  have := h4.nil_inv; subst this
  obtain ⟨tm, rfl⟩ := (show ∃ t, v2 = Value.int 1 t from h3)
  have S₂ := S.step E I₂
  obtain ⟨m, nm, _⟩ := S₂.vars.ns
  refine told_bad (n := n + 8) (gs := ru) (X := OX X₀ [] ad) R I₂ hfr hfL ?_ nm (Nat.le_trans S₂.n0 S₂.lowL) h1 fun t s' E' I' N => ?_
  · rw [hs]; decide
  · exact ⟨t, rfl, E.toM.trans E', I', S₂.stepN E' I' N⟩
theorem k8_test (hfr : A.frames = some [env]) (hfL : env.frame = some env.locals) (hs : env.scope = LS) (R : Rm (n + 20) A) (ht : Tells none ru L fin) (hfin : fin = false → 10 ≤ L.length) (hz : L.length ≤ 1000) (hd : L.take 10 = due) (hru : ru.length ≤ 100) (hdl : due.length ≤ 100)
    (S : StA n₀ X₀ Wb sb env (("due", iL due) :: ("ruler", iL ru) :: r) [] s ad) :
    wpAny (model PRG w) A (PySem.isTrue t8 env (eval t8 env)) (fun t s' => t = false ∧ StA n₀ X₀ Wb sb env (("due", iL due) :: ("ruler", iL ru) :: r) [] s' ad) (fun _ _ => False) s := by
  have hsl : (sizeLine : Nat) = 16777216 := rfl
  have e4 : EvS w (n + 20) LS (("due", iL due) :: ("ruler", iL ru) :: r) (cmpR t8) (.list [iL due, .list [], .str "refused"]) := by
    refine EvS.listD (EvL.cons (by walk_at "name") (EvL.cons (EvS.listD EvL.nil (by simp [sizeLine])) (EvL.cons EvS.str EvL.nil (by intro _; rfl)) (by intro _; rfl)) (by intro _; rfl)) (by simp [sizeLine])
  refine wpAny_isTrue_Compare1 (wpAny_List_spliced (spl_cons (e := t8e 0) (by rfl) (wpAny_mono (k8_e1 ht hfin hz hd A s env _ hs R S.inv S.vars) (fun v1 s₁ p1 => ?_) fun _ _ z => z.elim))) (by rfl)
  have S₁ := S.step p1.1 p1.2.1
  refine spl_cons (e := t8e 1) (by rfl) (wpAny_mono (k8_e2 hru A s₁ env _ hs R S₁.inv S₁.vars) (fun v2 s₂ p2 => ?_) fun _ _ z => z.elim)
  have S₂ := S₁.step p2.1 p2.2.1
  refine spl_cons (e := t8e 2) (by rfl) (wpAny_mono (k8_e3 hru hfr hfL hs R S₂) (fun v3 s₃ p3 => Calls.spliced_nil ⟨by simp [sizeLine], ?_⟩) fun _ _ z => z.elim)
  obtain ⟨t, rfl, E₃, I₃, S₃⟩ := p3
  have sk : SK (OX X₀ [] ad) s₂.heap s₃.heap := S₂.sk (E₃.weaken fun x e => .inl e)
  have hv : RpL (OX X₀ [] ad) s₃.heap [iL due, .list [], .str "refused"] [v1, v2, .str "refused" t] := RpL.cons ((p1.2.2.keep (p2.1.sk p1.2.1)).keep sk) (RpL.cons (p2.2.2.keep sk) (RpL.cons ⟨t, rfl⟩ RpL.nil))
  have q := EvP.list (tk := s₃.toks) I₃ S₃.vars.bnd (vs := #[v1, v2, .str "refused" t]) (by simpa using hv)
  have S₄ := S₃.step q.1 q.2.1
  refine wpAny_mono (e4 A _ env _ hs R S₄.inv S₄.vars) (fun vb s₅ p5 => ?_) fun _ _ z => z.elim
  have S₅ := S₄.step p5.1 p5.2.1
  have hD : isD 60 (.list [iL due, .list [], .str "refused"]) = true := by
    have : isDs 58 (due.map D.int) = true := isDs_all fun d hd => by obtain ⟨x, _, rfl⟩ := List.mem_map.mp hd; simp only [isD]
    have h2 : PyData.strOk (Str.ofString "refused") = true := by decide +kernel
    simp only [isD, isDs, this, h2, Bool.and_true]
  refine wpAny_mono (CmpS.neSame (n := n + 20) (by omega) hD A s₅ _ _ _ R S₅.inv S₅.vars.bnd (q.2.2.keep (p5.1.sk S₄.inv)) p5.2.2) (fun v s₆ z => ?_) fun _ _ z => z.elim
  obtain ⟨z1, z2, z3⟩ := z
  have z3 : v = .bool false := z3
  subst z3
  exact wpAny_truthy_bool ⟨rfl, S₅.step z1 z2⟩
end
end
section
-- K8
variable {w : World}
open PySem.Calls
noncomputable def six (l : List Int) : Prop := ∀ x ∈ l, 1 ≤ x ∧ x ≤ 6
theorem szs_len (a : Int) : (szs a).length = 7 := by simp [szs]
theorem szs_six (a : Int) : six (szs a) := fun x hx => by
  unfold szs at hx
  obtain ⟨j, _, rfl⟩ := List.mem_map.mp hx
  have h1 := Int.fmod_nonneg_of_pos ((a.fdiv (10 ^ j)).fmod 10) (b := 6) (by decide)
  have h2 := Int.fmod_lt_of_pos ((a.fdiv (10 ^ j)).fmod 10) (b := 6) (by decide)
  omega
theorem tells_app {gs L : List Int} {f : Bool} (h : ∀ l, Tells l gs L f) : ∀ (sz : List Int) (l : Option Int), six sz → Tells l (sz ++ gs) (sz ++ L) f
  | [], l, _ => h l
  | x :: sz, l, hs => by
    have hx := hs x (.head _)
    exact .cons (by omega) (by omega) (tells_app h sz (some x) fun y hy => hs y (.tail _ hy))
theorem rul_tells {sz sh sh' : List Int} {t : Int} (hz : sz.length = 7) (h6 : six sz) (hsh : sh = sh' ++ [t]) (hs6 : six sh) (hs : sh.length ≤ 7) (kd : Nat) :
    ∃ L f, Tells none (rul sz sh kd) L f ∧ (f = false → 10 ≤ L.length) ∧ L.length ≤ 1000 ∧ L.take 10 = du sz sh t kd := by
  have hsl : sh.length = sh'.length + 1 := by rw [hsh, List.length_append]; rfl
  rcases kd with _ | _ | _ | kd
  · refine ⟨sz ++ [], true, ?_, (fun z => nomatch z), by rw [List.append_nil]; omega, ?_⟩
    · show Tells none sz _ _
      have := tells_app (gs := []) (L := []) (f := true) (fun l => .nil) sz none h6
      rwa [List.append_nil] at this ⊢
    · rw [List.append_nil]; exact List.take_of_length_le (by omega)
  · refine ⟨sz ++ [], true, tells_app (fun l => .max) sz none h6, (fun z => nomatch z), by simp; omega, ?_⟩
    rw [List.append_nil]; exact List.take_of_length_le (by omega)
  · have ht := hs6 t (by rw [hsh]; simp)
    refine ⟨sh' ++ (t :: List.replicate (9 + 1) t), false, ?_, fun _ => by simp, by simp; omega, ?_⟩
    · show Tells none (sh ++ [0, 9]) _ _
      rw [hsh, List.append_assoc]
      exact tells_app (gs := t :: 0 :: [9]) (fun l => .cons (by omega) (by omega) .loop) sh' none fun x hx => hs6 x (by rw [hsh]; exact List.mem_append_left _ hx)
    · show _ = (sh ++ List.replicate 10 t).take 10
      rw [hsh, List.append_assoc]; rfl
  · refine ⟨sz ++ [128, -1], true, tells_app (fun l => .cons (by decide) (by decide) (.cons (by decide) (by decide) .max)) sz none h6, (fun z => nomatch z), by simp; omega, ?_⟩
    exact List.take_of_length_le (by simp; omega)
theorem rul_len {sz sh : List Int} (hz : sz.length ≤ 7) (hs : sh.length ≤ 7) (kd : Nat) : (rul sz sh kd).length ≤ 100 := by
  rcases kd with _ | _ | _ | kd <;> simp only [rul, List.length_append, List.length_cons, List.length_nil] <;> omega
theorem du_len {sz sh : List Int} {t : Int} (hz : sz.length = 7) (hs1 : 1 ≤ sh.length) (kd : Nat) : 7 ≤ (du sz sh t kd).length ∧ (du sz sh t kd).length ≤ 10 := by
  rcases kd with _ | _ | _ | kd <;> simp only [du, List.length_append, List.length_cons, List.length_nil, List.length_take, List.length_replicate] <;> omega
noncomputable def sumsL (l : List Int) : List Int := (List.range l.length).map fun j => (l.take (j + 1)).sum
theorem sumsL_take (l : List Int) (m : Nat) : (sumsL l).take m = sumsL (l.take m) := by
  unfold sumsL
  rw [← List.map_take, List.take_range, List.length_take]
  refine List.map_congr_left fun j hj => ?_
  have := List.mem_range.mp hj
  rw [List.take_take, Nat.min_eq_left (by omega)]
theorem sumsL_snoc (l : List Int) (x : Int) : sumsL (l ++ [x]) = sumsL l ++ [l.sum + x] := by
  unfold sumsL
  rw [List.length_append, List.length_singleton, List.range_succ, List.map_append]
  congr 1
  · refine List.map_congr_left fun j hj => ?_
    have := List.mem_range.mp hj
    rw [List.take_append_of_le_length (by omega)]
  · rw [List.map_singleton, List.take_of_length_le (by simp), List.sum_append]; simp
theorem take_sum_succ {p : List Int} (h6 : six p) {i : Nat} (hi : i < p.length) : (p.take i).sum + 1 ≤ (p.take (i + 1)).sum ∧ (p.take (i + 1)).sum ≤ (p.take i).sum + 6 := by
  have := h6 p[i] (List.getElem_mem hi)
  rw [List.take_succ_eq_append_getElem hi, List.sum_append, List.sum_singleton]
  omega
theorem take_sum_le {p : List Int} (h6 : six p) : ∀ i : Nat, i ≤ p.length → (i : Int) ≤ (p.take i).sum ∧ (p.take i).sum ≤ 6 * i
  | 0, _ => by simp
  | i + 1, h => by
    have h1 := take_sum_le h6 i (by omega)
    have h2 := take_sum_succ h6 (i := i) (by omega)
    omega
theorem take_sum_mono {p : List Int} (h6 : six p) (i : Nat) : ∀ d : Nat, i + d ≤ p.length → (p.take i).sum + d ≤ (p.take (i + d)).sum
  | 0, _ => by simp
  | d + 1, h => by
    have h1 := take_sum_mono h6 i d (by omega)
    have h2 := take_sum_succ h6 (i := i + d) (by omega)
    have e : i + (d + 1) = i + d + 1 := rfl
    rw [e]
    omega
noncomputable def nnOf (p : List Int) : List Nat := (List.range p.length).map fun j => ((p.take (j + 1)).sum - 1).toNat
noncomputable def pOf (sz sh : List Int) (t : Int) : Nat → List Int
  | 0 => sz
  | 1 => sz
  | 2 => (sh ++ List.replicate 10 t).take 8
  | _ => sz
theorem nn_ok {p : List Int} (h6 : six p) (h7 : 7 ≤ p.length) (h8 : p.length ≤ 8) {k N wd : Nat} {i : Int} (hb : isBits k N) (hi : i = 0 ∨ i = 1 ∨ i = 2 ∨ i = 3) (w6 : 6 ≤ wd) (w15 : wd ≤ 15) : Drw k N i wd (nnOf p) := by
  refine ⟨hb, hi, w6, w15, ?_, fun x hx => ?_, by simp [nnOf]; omega, by simp [nnOf]; omega⟩
  · rw [List.pairwise_iff_getElem]
    intro a b ha hb' hab
    unfold nnOf at ha hb' ⊢
    simp only [List.getElem_map, List.getElem_range]
    simp only [List.length_map, List.length_range] at ha hb'
    have h1 := take_sum_mono h6 (a + 1) (b - a) (by omega)
    rw [show a + 1 + (b - a) = b + 1 by omega] at h1
    have h2 := take_sum_le h6 (a + 1) (by omega)
    omega
  · unfold nnOf at hx
    obtain ⟨j, hj, rfl⟩ := List.mem_map.mp hx
    have := List.mem_range.mp hj
    have h2 := take_sum_le h6 (j + 1) (by omega)
    omega
theorem nn_eq {p : List Int} (h6 : six p) (h8 : p.length ≤ 8) : ((sumsL p).filter fun x => decide (x ≤ 64)).map (fun x => x - 1) = nI (nnOf p) := by
  have h : (sumsL p).filter (fun x => decide (x ≤ 64)) = sumsL p := by
    rw [List.filter_eq_self]
    intro x hx
    unfold sumsL at hx
    obtain ⟨j, hj, rfl⟩ := List.mem_map.mp hx
    have := List.mem_range.mp hj
    have h2 := take_sum_le h6 (j + 1) (by omega)
    exact decide_eq_true (by omega)
  rw [h]
  unfold sumsL nI nnOf
  rw [List.map_map, List.map_map]
  refine List.map_congr_left fun j hj => ?_
  have := List.mem_range.mp hj
  have h2 := take_sum_le h6 (j + 1) (by omega)
  show (p.take (j + 1)).sum - 1 = ((((p.take (j + 1)).sum - 1).toNat : Nat) : Int)
  omega
theorem du_nn {sz sh : List Int} {t : Int} (hz : sz.length = 7) (h6 : six sz) (hs6 : six sh) (ht : 1 ≤ t ∧ t ≤ 6) (kd : Nat) :
    six (pOf sz sh t kd) ∧ 7 ≤ (pOf sz sh t kd).length ∧ (pOf sz sh t kd).length ≤ 8 ∧ (((sumsL (du sz sh t kd)).take 8).filter fun x => decide (x ≤ 64)).map (fun x => x - 1) = nI (nnOf (pOf sz sh t kd)) := by
  rcases kd with _ | _ | _ | kd
  · refine ⟨h6, by show 7 ≤ sz.length; omega, by show sz.length ≤ 8; omega, ?_⟩
    rw [sumsL_take, show (du sz sh t 0).take 8 = sz from List.take_of_length_le (by show sz.length ≤ 8; omega)]
    exact nn_eq h6 (by omega)
  · refine ⟨h6, by show 7 ≤ sz.length; omega, by show sz.length ≤ 8; omega, ?_⟩
    rw [sumsL_take, show (du sz sh t (0 + 1)).take 8 = sz from List.take_of_length_le (by show sz.length ≤ 8; omega)]
    exact nn_eq h6 (by omega)
  · have h : six ((sh ++ List.replicate 10 t).take 8) := fun x hx => by
      rcases List.mem_append.mp (List.mem_of_mem_take hx) with hx | hx
      · exact hs6 x hx
      · rw [List.eq_of_mem_replicate hx]; exact ht
    have hl : ((sh ++ List.replicate 10 t).take 8).length = 8 := by rw [List.length_take, List.length_append, List.length_replicate]; omega
    refine ⟨h, by show 7 ≤ ((sh ++ List.replicate 10 t).take 8).length; omega, by show ((sh ++ List.replicate 10 t).take 8).length ≤ 8; omega, ?_⟩
    rw [sumsL_take, show (du sz sh t (0 + 1 + 1)).take 8 = (sh ++ List.replicate 10 t).take 8 by show List.take 8 (List.take 10 _) = _; rw [List.take_take]; rfl]
    exact nn_eq h (by omega)
  · refine ⟨h6, by show 7 ≤ sz.length; omega, by show sz.length ≤ 8; omega, ?_⟩
    rw [sumsL_take, show (du sz sh t (kd + 1 + 1 + 1)).take 8 = sz ++ [128] by
      show (sz ++ [128, -1]).take 8 = _
      rw [List.take_append, List.take_of_length_le (by omega), hz]; rfl, sumsL_snoc, List.filter_append]
    have h0 := take_sum_le h6 sz.length (Nat.le_refl _)
    rw [List.take_length] at h0
    rw [show ([sz.sum + 128] : List Int).filter (fun x => decide (x ≤ 64)) = [] by
      rw [List.filter_cons, if_neg (by simp; omega)]; rfl, List.append_nil]
    exact nn_eq h6 (by omega)
section
variable {n : Nat} {due : List Int} {r : VL}
theorem k9 (hd : due.length ≤ 100) : Stm w (n + 20) LS (("due", iL due) :: r) [] (lst 9) (.next (("sums", iL (sumsL due)) :: ("due", iL due) :: r) []) := by
  show Stm _ _ _ _ _ _ (.next (("sums", .list _) :: _) [])
  unfold sumsL
  rw [List.map_map]
  have hlen := CallS.len (w := w) (n := n + 20) (ds := due.map D.int) (by rw [List.length_map]; omega)
  rw [List.length_map] at hlen
  refine Stm.compT [("due", iL due)] (fun j : Nat => D.int (j : Int)) toN (fun j => by simp [toN, toI]) (List.range due.length) _ ?it (Items.nat (by omega)) (by walk_at "capt") (by simp; omega) (by walk_at "st") (fun j hj => ?_) (by walk_at "sw")
  case it => exact EvS.call (fv := .type "range") (by walk_at "name") KeepOk.typ (EvL.cons (EvS.call (fv := .builtin "len") (by walk_at "name") KeepOk.bui (by walk_at "evl") hlen) EvL.nil (by intro _; rfl)) CallS.range1
  refine EvS.call (fv := .builtin "sum") (ds := [iL (due.take (j + 1))]) (by walk_at "name") KeepOk.bui (EvL.cons ?sl EvL.nil (by intro _; rfl)) CallS.sum
  show EvS _ _ _ _ _ (.list _)
  rw [← pick_takeI]
  exact EvS.slice (by walk_at "name") .none (.some (EvS.bin (by walk_at "name") EvS.int BinS.add)) .none (by decide) (by simp [sizeLine]; omega)
theorem k10 {sums : List Int} {nn : List Nat} (hd : sums.length ≤ 100) (hn : ((sums.take 8).filter fun x => decide (x ≤ 64)).map (fun x => x - 1) = nI nn) : Stm w (n + 20) LS (("sums", iL sums) :: r) [] (lst 10) (.next (("numbers", nD nn) :: ("sums", iL sums) :: r) []) := by
  refine Stm.assign (d := nD nn) (.pure ?_) (by walk_at "st") (by walk_at "sw")
  show EvS _ _ _ _ _ (.list _)
  rw [← hn, List.map_map]
  refine EvS.comp (q := []) D.int toI (fun _ => rfl) (sums.take 8) (fun x => decide (x ≤ 64)) (fun x => D.int (x - 1)) ?it .list (by walk_at "capt") (by simp; omega) (fun x _ => ?ifs) (fun x _ _ => ?el)
  case it => rw [← pick_takeI]; exact EvS.slice (by walk_at "name") .none (.some EvS.int) .none (by decide) (by simp [sizeLine]; omega)
  case ifs => exact IfsS.one (TstS.cmp (by walk_at "name") EvS.int CmpS.leI)
  case el => exact EvS.bin (by walk_at "name") EvS.int BinS.sub
end
end
section
-- K9
variable {w : World}
open PySem.Calls
noncomputable def ifB : Stmt → List Stmt
  | .If _ b _ _ => b
  | _ => []
noncomputable def ifP : Stmt → Pos
  | .If _ _ _ p => p
  | _ => default
theorem call_coreE {n : Nat} {fa : Addr} {ob : Obj} {fd : FuncData} {body : List Stmt} {xs : List Str} {ds : List D} {A : Around} {s : Shared} {X : Addr → Prop} {vs : List Value} {Q : Value → Shared → Prop} (a : s.heap.get? fa = some ob) (c : ob.data = .func fd) (hcr : s.heap.CodeRec fd.code fd.qualname)
    (F : FnOk fd body xs) (hcl : fd.closure = []) (hl : ds.length = xs.length) (R : Rm (n + 1) A) (I : Inv s.heap) (B : XB X s.heap) (hd : RpL X s.heap ds vs)
    (hk : ∀ (env : Env) (s₁ : Shared), env = callEnvC fd s.heap.objs.size fa → env.scope = fd.scope → env.code = fd.code → env.locals = s.heap.objs.size → env.qual = fd.qualname ++ ".<locals>." → (∀ a, Mu env (fun _ => False) a → s.heap.objs.size ≤ a) → Rm n (A.deeper env) → StA s.heap.objs.size X (fun _ => False) s env (xs.zip ds) [] s₁ (fun _ => 0) →
      wpAny (model PRG w) (A.deeper env) (execs body env) (fun f s' => Q (fval f) s') (fun _ _ => False) s₁) :
    wpAny (model PRG w) A (call (.ref fa) vs) Q (fun _ _ => False) s := by
  have hvl : vs.length = xs.length := by rw [hd.length, hl]
  refine wpAny_call ?_
  refine codeAny_call_cells (fd := fd) (body := body) (binds := xs.zip vs) (by have := R.depth; omega) a c I.nolimit hcr F.hb (F.bind vs hvl) hcl (fun x hx => ?_) (fun s₁ x => ?_) F.co F.gen F.kind
  · have hx' : x.1 ∈ xs := by rw [← zip_names hvl]; exact List.mem_map.mpr ⟨x, hx, rfl⟩
    rcases F.k _ hx' with k | k
    · exact .inl k
    · exact .inr ⟨k, cellsFrom_has _ _ _ k⟩
  · generalize hE : callEnvC fd s.heap.objs.size fa = env at *
    have hsc : env.scope = fd.scope := by rw [← hE]; rfl
    have hL : env.locals = s.heap.objs.size := by rw [← hE]; rfl
    have hC : env.cells = cellsFrom (s.heap.objs.size + 1) fd.scope.names [] := by rw [← hE]; rfl
    obtain ⟨h', tk, rfl⟩ := x.toInCall.same
    have keep := x.toInCall.keep
    have E : EffM (Mu env fun _ => False) s { s with heap := h', toks := tk } := ⟨rfl, fun _ _ e => e, id, fun a o e _ _ => keep a o e⟩
    have sk : SK X s.heap h' := fun b o e _ _ => keep b o e
    have I' : Inv h' := I.keeps keep
    have oxe : ∀ ad a, OX X [] ad a → X a := fun ad a y => y.elim id fun ⟨p, hp, _⟩ => nomatch hp
    have B' : XB X h' := B.keeps fun a _ o e => keep a o e
    have hz := zip_names hvl
    have S : StA s.heap.objs.size X (fun _ => False) s env (xs.zip ds) [] { s with heap := h', toks := tk } (fun _ => 0) := by
      refine ⟨E, (fun p hp => nomatch hp), I', ⟨fun a y => B' a (oxe _ a y), by rw [hsc]; exact F.kind, by rw [← hE]; exact F.gl, by rw [← hE]; exact F.bu, ⟨_, x.toInCall.ns, ?_, fun y d e k => ?_⟩, fun y d e k => ?_⟩, I.big, fun a y => ?_, ?_, fun y c k e => ?_, fun y k => ?_, fun y z c e e' => ?_, (fun p hp => nomatch hp), List.Pairwise.nil⟩
      · refine bindL_other _ _ fun q hq z => F.ini ?_
        rw [← z, ← hz]; exact List.mem_map.mpr ⟨q, hq, rfl⟩
      · obtain ⟨v, h1, h2⟩ := zip_get hd hl e
        exact ⟨v, bindL_get k _ _ (by rw [hz]; exact F.nd) h1, h2.mono (fun a y => .inl (oxe _ a y)) sk⟩
      · obtain ⟨v, h1, h2⟩ := zip_get hd hl e
        have hy : y ∈ xs := by rw [← hz]; exact List.mem_map.mpr ⟨_, h1, rfl⟩
        rcases k with k | k
        · have : (env.cells.lookup y).isSome = true := by
            rw [hC]; exact cellsFrom_has _ _ _ (by rw [← hsc]; exact k)
          obtain ⟨c, hc⟩ := Option.isSome_iff_exists.mp this
          have := x.cell y c hc
          rw [bindC_get k _ _ (by rw [hz]; exact F.nd) h1] at this
          exact ⟨c, v, hc, this, h2.mono (fun a y => .inl (oxe _ a y)) sk⟩
        · exfalso
          have : fd.scope.names.lookup y = some .free := by rw [← hsc]; exact k
          rcases F.k y hy with q | q <;> rw [this] at q <;> cases q
      · obtain ⟨_, o, e⟩ := B a y; exact Heap.lt_size e
      · rw [hL]; exact Nat.le_refl _
      · have := x.above y c (PySem.mem_of_lookup e)
        rw [hL] at this; exact Nat.le_of_lt this
      · have : (env.cells.lookup y).isSome = true := by
          rw [hC]; exact cellsFrom_has _ _ _ (by rw [← hsc]; exact k)
        obtain ⟨c, hc⟩ := Option.isSome_iff_exists.mp this
        exact ⟨c, _, hc, x.cell y c hc⟩
      · exact name_of_addr x.apart (PySem.mem_of_lookup e) (PySem.mem_of_lookup e')
    refine wpAny_mono (hk env _ rfl hsc (by rw [← hE]; rfl) hL (by rw [← hE]; rfl) (fun a m => ?_) R.deeper S) (fun f s' q => ?_) fun _ _ z => z.elim
    · rcases m with m | ⟨y, m1, m2⟩ | m
      · rw [m, hL]; exact Nat.le_refl _
      · have h1 := x.above y a (PySem.mem_of_lookup m2)
        rw [hL] at h1; exact Nat.le_of_lt h1
      · exact m.elim
    · cases f <;> exact q
section
variable {n : Nat} {sc : List Int}
noncomputable abbrev fdLAW : FuncData := fdT 22 "law" pmW 194
theorem law_ok : FnOk fdLAW lawB ["script"] := by walk_at "fnok"
theorem lawB_eq : lawB = lst 0 :: lst 1 :: lst 2 :: lst 3 :: lst 4 :: lst 5 :: lst 6 :: lst 7 :: .If t8 (ifB (lst 8)) [] (ifP (lst 8)) :: lst 9 :: lst 10 :: lawB.drop 11 := by rfl
theorem fmod_is (b m : Int) (hm : 0 < m) : 0 ≤ b.fmod m ∧ b.fmod m < m := ⟨Int.fmod_nonneg_of_pos b hm, Int.fmod_lt_of_pos b hm⟩
theorem law_true (hl : sc.length ≤ 63) {A : Around} {s : Shared} {X : Addr → Prop} {v : Value} (R : Rm (n + 21) A) (hfr : A.frames = some []) (I : Inv s.heap) (B : XB X s.heap) (hv : Rp X s.heap (iL sc) v) :
    wpAny (model PRG w) A (call (.ref 195) [v]) (fun v s' => EvP X s (.bool true) v s') (fun _ _ => False) s := by
  obtain ⟨ob, oc, cvs, t, a, b, c, e, f, g, h⟩ := I.fns (195, fdLAW, 194) (by walk_at "mem")
  refine call_coreE (n := n + 20) (fd := fdLAW) (body := lawB) (xs := ["script"]) (ds := [iL sc]) a c ⟨_, oc, cvs, t, e, f, g, h⟩ law_ok rfl rfl R I B (RpL.cons hv RpL.nil) fun env s₁ hE hsc hcode hL hq hM R' S => ?_
  have hs : env.scope = LS := hsc
  have hfr' : (A.deeper env).frames = some [env] := by
    show A.frames.map (env :: ·) = _
    rw [hfr]; rfl
  have hfL : env.frame = some env.locals := by rw [hE]; rfl
  rw [lawB_eq]
  refine Stm.seq (k0 hl) hs R' S fun s₂ ad S => ?_
  refine Stm.seq (k1 hl) hs R' S fun s₂ ad S => ?_
  refine Stm.seq k2 hs R' S fun s₂ ad S => ?_
  have hz := szs_len (fst' sc)
  have h6 := szs_six (fst' sc)
  have S := S.vsub (r' := [("sizes", iL (szs (fst' sc))), ("second", .int (snd' sc))]) (show Sub _ _ by walk_at "sub")
  generalize szs (fst' sc) = sz at *
  generalize snd' sc = b at *
  obtain ⟨kd, hkd, ekd⟩ : ∃ kd : Nat, kd < 4 ∧ (b.fmod 10).fmod 4 = (kd : Nat) := by
    have := fmod_is (b.fmod 10) 4 (by decide)
    exact ⟨((b.fmod 10).fmod 4).toNat, by omega, by omega⟩
  obtain ⟨k, N, hbt, ebt⟩ : ∃ k N : Nat, isBits k N ∧ 1 + (fg b 100).fmod 3 = (k : Nat) := by
    have := fmod_is (fg b 100) 3 (by decide)
    unfold isBits
    rcases (by omega : (fg b 100).fmod 3 = 0 ∨ (fg b 100).fmod 3 = 1 ∨ (fg b 100).fmod 3 = 2) with q | q | q
    · exact ⟨1, 6, by decide, by omega⟩
    · exact ⟨2, 3, by decide, by omega⟩
    · exact ⟨3, 2, by decide, by omega⟩
  have hhd := fmod_is (fg b 1000) 4 (by decide)
  obtain ⟨wd, hw6, hw15, ewd⟩ : ∃ wd : Nat, 6 ≤ wd ∧ wd ≤ 15 ∧ 6 + fg b 10000 = (wd : Nat) := by
    have : 0 ≤ fg b 10000 ∧ fg b 10000 < 10 := fmod_is (b.fdiv 10000) 10 (by decide)
    exact ⟨(6 + fg b 10000).toNat, by omega, by omega, by omega⟩
  have q3 := k3 (w := w) (n := n) (sz := sz) (b := b)
  rw [ekd, ebt] at q3
  have q4 := k4 (w := w) (n := n) (sz := sz) (b := b) (kd := (kd : Nat)) (bt := (k : Nat))
  rw [ewd] at q4
  generalize (fg b 1000).fmod 4 = hd at *
  refine Stm.seq q3 hs R' S fun s₂ ad S => ?_
  refine Stm.seq q4 hs R' S fun s₂ ad S => ?_
  refine Stm.seq (k5 (by omega)) hs R' S fun s₂ ad S => ?_
  have hsh1 := fmod_is (fg b 10) 6 (by decide)
  obtain ⟨m, hm1, hm6, em⟩ : ∃ m : Nat, 1 ≤ m ∧ m ≤ 6 ∧ (1 + (fg b 10).fmod 6).toNat = m := ⟨_, by omega, by omega, rfl⟩
  rw [em] at S
  have hs6 : six (sz.take m) := fun x hx => h6 x (List.mem_of_mem_take hx)
  have hsl : (sz.take m).length = m := by rw [List.length_take]; omega
  generalize sz.take m = sh at *
  obtain ⟨sh', t, hsh⟩ : ∃ sh' t, sh = sh' ++ [t] := ⟨sh.dropLast, sh.getLast (fun z => by rw [z] at hsl; simp at hsl; omega), (List.dropLast_concat_getLast _).symm⟩
  have ht := hs6 t (by rw [hsh]; simp)
  refine Stm.seq (k6 (by omega) (by omega) hkd) hs R' S fun s₂ ad S => ?_
  refine Stm.seq (k7 hsh (by omega) (by omega) hkd) hs R' S fun s₂ ad S => ?_
  obtain ⟨L, f, hT, hf, hz2, hdu⟩ := rul_tells hz h6 hsh hs6 (by omega) kd
  have hdl := du_len (t := t) hz (sh := sh) (by omega) kd
  obtain ⟨p6, p7, p8, hnn⟩ := du_nn hz h6 hs6 ht kd
  refine wpAny_execs_cons (wpAny_If (wpAny_mono (k8_test hfr' hfL hs R' hT hf hz2 hdu (rul_len (by omega) (by omega) kd) (by omega) S) (fun t s₂ q => ?_) fun _ _ z => z))
  obtain ⟨rfl, S⟩ := q
  refine wpAny_execs_nil ?_
  refine Stm.seq (k9 (by omega)) hs R' S fun s₂ ad S => ?_
  refine Stm.seq (k10 (by simp [sumsL]; omega) hnn) hs R' S fun s₂ ad S => ?_
  have D := nn_ok p6 p7 p8 (k := k) (N := N) (wd := wd) (i := hd) hbt (by omega) hw6 hw15
  generalize nnOf _ = nn at *
  have S := S.vsub (r' := vR k hd wd nn) (show Sub _ _ by walk_at "sub")
  refine wpAny_mono (law_tail D _ _ _ _ _ env s₂ hs R' ⟨_, S⟩) (fun fl s' q => ?_) fun _ _ z => z
  cases fl with
  | ret v => exact ⟨q.1.toEff hM, q.2.1, q.2.2⟩
  | next => exact q.elim
  | brk => exact q.elim
  | cont => exact q.elim
end
end
section
-- K10
variable {w : World}
open PySem.Calls
theorem inv_code {h : Heap} (I : Inv h) : ∀ t ∈ tabs, isCodeTable h t := fun t ht => by
  have key : ∀ p ∈ codTab, isCodeTable h p.2.1 := fun p hp => by
    obtain ⟨o, vs, _, _, _, _, _, _, _, e1, e2, e3, e4, _⟩ := (I.cod p hp).hd
    exact ⟨_, o, vs, e1, e2, e3, e4⟩
  simp only [tabs, List.mem_cons, List.not_mem_nil, or_false] at ht
  rcases ht with rfl | rfl | rfl | rfl
  · exact key (62, 58, _, _) (.head _)
  · exact key (69, 65, _, _) (.tail _ (.head _))
  · exact key (123, 119, _, _) (.tail _ (.tail _ (.head _)))
  · exact key (130, 126, _, _) (.tail _ (.tail _ (.tail _ (.head _))))
theorem oldK_of {s s' : Shared} (E : Eff s s') (I : Inv s.heap) (I' : Inv s'.heap) (ht : ∀ t ∈ tabs, s.heap.get? t = some (tabObj #[])) : OldK s.heap s'.heap where
  old := fun b o e => by
    by_cases hb : b ∈ tabs
    · have e2 := ht b hb
      rw [e] at e2; cases e2
      obtain ⟨ps, e3⟩ := I'.tab b hb
      exact .inr (.inl ⟨inv_code I b hb, rfl, #[], ps, rfl, by rw [e3]; simp⟩)
    · exact .inl (E.keep b o e hb fun z => z)
  there := fun b o e => by
    by_cases hb : b ∈ tabs
    · obtain ⟨ps, e3⟩ := I'.tab b hb
      exact ⟨_, e3⟩
    · exact ⟨o, E.keep b o e hb fun z => z⟩
theorem ints_rp {X : Addr → Prop} {h : Heap} {vs : List Value} {ns : List Int} (x : IntsAre vs ns) : RpL X h (ns.map D.int) vs := by
  induction x with
  | nil => exact RpL.nil
  | cons n t _ ih => exact RpL.cons ⟨t, rfl⟩ ih
theorem law_good {s₁ : Shared} {a : Addr} {k : Nat} {vs : List Value} {sc : List Int} (I : Inv s₁.heap) (ht : ∀ t ∈ tabs, s₁.heap.get? t = some (tabObj #[])) (hg : s₁.gens = #[]) (ho : s₁.heap.get? a = some (LObj vs.toArray k)) (hI : IntsAre vs sc) (hl : sc.length ≤ 63) :
    wpAny (model PRG w) callerA (call (.ref 195) [.ref a]) (fun v s' => v = .bool true ∧ OldK s₁.heap s'.heap ∧ s'.os = s₁.os ∧ AllBare s'.gens) (fun _ _ => False) s₁ := by
  refine wpAny_mono (law_true (n := 0) (X := fun _ => False) hl ⟨rfl, by decide +kernel, by decide +kernel⟩ rfl I (fun _ y => y.elim) ?_) (fun v s' q => ?_) fun _ _ z => z
  · unfold Rp
    exact ⟨a, vs.toArray, k, rfl, id, ho, by simpa using ints_rp hI⟩
  · obtain ⟨E, I', hv⟩ := q
    exact ⟨hv, oldK_of E I I' ht, E.os, E.bare (by rw [hg]; intro y hy; simp at hy)⟩
theorem b_ok : ∀ p ∈ btab, bootBuiltins p.1 = some p.2 := by
  intro p hp
  simp only [btab, List.mem_cons, List.not_mem_nil, or_false] at hp
  rcases hp with rfl | rfl | rfl | rfl | rfl | rfl | rfl | rfl | rfl | rfl | rfl | rfl | rfl | rfl <;> decide +kernel
theorem b_name : ∀ p ∈ btab, p.1 ≠ Str.ofString "__name__" := by decide +kernel
theorem law_post (args : List WData) : PySem.Challenge.rw_xj0020_01.row.claim.post args (WData.bool true) args = true := by
  refine postW_of (X := true) ?_ ?_ rfl
  · show WShape.has _ (WData.bool true) WShape.bool = true
    simp [WShape.has, WShape.arms]
  · show WTm.value _ (.eq .res (.lit (.bool true))) _ = _
    simp [WTm.value, PySem.W.same]
end
section
-- L0
variable {w : World}
open PySem.W.X
noncomputable def qv : Program := { PRG with main := { PRG.main with body := PRG.main.body.drop 22 } }
noncomputable def lv : List Str := ["_wall", "__name__", "_strcoll", "_strxfrm", "CHAR_MAX", "_grouping_intervals", "_DIV_LIMIT", "_div2n1n", "_div3n2n", "_int2digits", "_digits2int", "_divmod_pos", "EMPTYSTRING", "_Accumulator", "_law_told", "_law_words", "_law_alike", "_law_near", "_law_first"]
noncomputable def xt (s : Shared) : Bool := xlAt qv [] s && recOk (RowW.records PySem.Challenge.rw_xj0020_01.row.toRowW) s
noncomputable def vTyp : Value → Option String
  | .type T => some T
  | _ => none
noncomputable def vStr : Value → Option Str
  | .str q _ => some q
  | _ => none
noncomputable def vInt : Value → Option Int
  | .int i _ => some i
  | _ => none
noncomputable def vBool : Value → Option Bool
  | .bool b => some b
  | _ => none
noncomputable def vRef : Value → Option Addr
  | .ref a => some a
  | _ => none
noncomputable def fldsD : Data → Option (Array Value)
  | .fields vs => some vs
  | _ => none
noncomputable def dictD : Data → Option (Array DictEntry)
  | .dict es _ => some es
  | _ => none
theorem vTyp_of {v : Value} {T} (e : vTyp v = some T) : v = .type T := by cases v <;> cases e; rfl
theorem vStr_of {v : Value} {q} (e : vStr v = some q) : ∃ t, v = .str q t := by cases v <;> cases e; exact ⟨_, rfl⟩
theorem vInt_of {v : Value} {q} (e : vInt v = some q) : ∃ t, v = .int q t := by cases v <;> cases e; exact ⟨_, rfl⟩
theorem vBool_of {v : Value} {q} (e : vBool v = some q) : v = .bool q := by cases v <;> cases e; rfl
theorem vRef_of {v : Value} {q} (e : vRef v = some q) : v = .ref q := by cases v <;> cases e; rfl
theorem fldsD_of {d : Data} {q} (e : fldsD d = some q) : d = .fields q := by cases d <;> cases e; rfl
noncomputable def fld (h : Heap) (c : Addr) (i : Nat) : Option Value := (h.get? c).bind fun o => (fldsD o.data).bind fun vs => vs[i]?
noncomputable def fldS (h : Heap) (c : Addr) (i : Nat) : Option Str := (fld h c i).bind vStr
noncomputable def gFind (h : Heap) (x : Str) : Option Value := (h.get? mainGlobals).bind fun o => (dictD o.data).bind fun es => nsFind es x
noncomputable def gI (h : Heap) (x : Str) : Option Int := (gFind h x).bind vInt
noncomputable def gS (h : Heap) (x : Str) : Option Str := (gFind h x).bind vStr
noncomputable def cdHd (h : Heap) (c P : Addr) : Bool := ((h.get? c).bind fun o => vTyp o.cls) == some "code" && (fld h c 11).bind vRef == some P && (fldS h c 18).isSome && ((fld h c 7).bind vInt).isSome && ((fld h c 9).bind vBool).isSome && ((fld h c 10).bind vInt).isSome
theorem fld_of {h : Heap} {c : Addr} {i : Nat} {v : Value} (e : fld h c i = some v) : ∃ o vs, h.get? c = some o ∧ o.data = .fields vs ∧ vs[i]? = some v := by
  obtain ⟨o, e1, e⟩ := Option.bind_eq_some_iff.mp e
  obtain ⟨vs, e2, e⟩ := Option.bind_eq_some_iff.mp e
  exact ⟨o, vs, e1, fldsD_of e2, e⟩
theorem fld_at {h : Heap} {c : Addr} {i : Nat} {v : Value} {o : Obj} {vs : Array Value} (h1 : h.get? c = some o) (h2 : o.data = .fields vs) (e : fld h c i = some v) : vs[i]? = some v := by
  obtain ⟨o', vs', e1, e2, e3⟩ := fld_of e
  rw [h1] at e1; cases e1
  rw [h2] at e2; cases e2
  exact e3
theorem fldS_of {h : Heap} {c : Addr} {i : Nat} {q : Str} (e : fldS h c i = some q) : ∃ o vs t, h.get? c = some o ∧ o.data = .fields vs ∧ vs[i]? = some (.str q t) := by
  obtain ⟨v, e1, e2⟩ := Option.bind_eq_some_iff.mp e
  obtain ⟨t, rfl⟩ := vStr_of e2
  obtain ⟨o, vs, r⟩ := fld_of e1
  exact ⟨o, vs, t, r⟩
theorem getD_of {vs : Array Value} {i : Nat} {v : Value} (e : vs[i]? = some v) : vs.getD i .none = v := by
  rw [Array.getD_eq_getD_getElem?, e]; rfl
theorem fld_some {α : Type} {h : Heap} {c : Addr} {i : Nat} {f : Value → Option α} {o : Obj} {vs : Array Value} (h1 : h.get? c = some o) (h2 : o.data = .fields vs) (e : ((fld h c i).bind f).isSome = true) : ∃ q, f (vs.getD i .none) = some q := by
  obtain ⟨q, e⟩ := Option.isSome_iff_exists.mp e
  obtain ⟨v, e1, e2⟩ := Option.bind_eq_some_iff.mp e
  exact ⟨q, by rw [getD_of (fld_at h1 h2 e1)]; exact e2⟩
theorem cdHd_of {h : Heap} {c P : Addr} (hne : c ≠ P) (e : cdHd h c P = true) : CodeHd h c P := by
  unfold cdHd at e
  obtain ⟨e, e6⟩ := Bool.and_eq_true_iff.mp e
  obtain ⟨e, e5⟩ := Bool.and_eq_true_iff.mp e
  obtain ⟨e, e4⟩ := Bool.and_eq_true_iff.mp e
  obtain ⟨e, e3⟩ := Bool.and_eq_true_iff.mp e
  obtain ⟨e1, e2⟩ := Bool.and_eq_true_iff.mp e
  obtain ⟨o, h1, h3⟩ := Option.bind_eq_some_iff.mp (eq_of_beq e1)
  obtain ⟨v, f1, f2⟩ := Option.bind_eq_some_iff.mp (eq_of_beq e2)
  obtain ⟨o', vs, h1', h4, h5⟩ := fld_of f1
  rw [h1] at h1'; cases h1'
  rw [vRef_of f2] at h5
  obtain ⟨_, e3⟩ := fld_some h1 h4 e3
  obtain ⟨_, e4⟩ := fld_some h1 h4 e4
  obtain ⟨_, e5⟩ := fld_some h1 h4 e5
  obtain ⟨_, e6⟩ := fld_some h1 h4 e6
  obtain ⟨_, e3⟩ := vStr_of e3
  obtain ⟨_, e4⟩ := vInt_of e4
  obtain ⟨_, e6⟩ := vInt_of e6
  exact ⟨o, vs, _, _, _, _, _, _, _, h1, vTyp_of h3, h4, h5, getD_of h5, e3, e4, vBool_of e5, e6, hne⟩
noncomputable abbrev kcA : List Addr := [157, 156, 81, 2, 86, 94, 101, 117, 124, 131, 146, 154]
noncomputable def obs (s : Shared) : List (Option Obj) × List (Option Obj) × List (Option Obj) × List (Option Str) × List (Option Str) × List Bool × List (Option Value) × List (Option Value) × (Option Int × Option Int × Option Str) × (Option Value × Option Value × Bool) :=
  (fnTab.map fun p => s.heap.get? p.1, tabs.map s.heap.get?, kcA.map s.heap.get?, fnTab.map fun p => fldS s.heap p.2.2 1, filTab.map fun c => fldS s.heap c 2, codTab.map fun p => cdHd s.heap p.1 p.2.1, gtab.map fun p => gFind s.heap p.1, btab.map fun p => gFind s.heap p.1,
    (gI s.heap "CHAR_MAX", gI s.heap "_DIV_LIMIT", gS s.heap "EMPTYSTRING"), (gFind s.heap "__builtins__", gFind s.heap "law", (s.heap.get? 195).isSome))
noncomputable def val (w : World) : List (Option Obj) × List (Option Obj) × List (Option Obj) × List (Option Str) × List (Option Str) × List Bool × List (Option Value) × List (Option Value) × (Option Int × Option Int × Option Str) × (Option Value × Option Value × Bool) :=
  (fnTab.map fun p => some (kFn p.2.1), tabs.map fun _ => some (tabObj #[]), (Kc w.params).map fun p => some p.2, fnTab.map fun p => some p.2.1.qualname, filTab.map fun _ => some PRG.main.file, codTab.map fun _ => true, gtab.map fun p => some p.2, btab.map fun _ => none,
    (some 127, some 4000, some Str.empty), (some (.ref 4), some (.ref 195), true))
set_option maxHeartbeats 0 in
theorem lo : LeftO PySem.Challenge.rw_xj0020_01.row.prog qv lv xt obs val 2198 := by
  intro w
  kernel_rfl
set_option maxHeartbeats 0 in
theorem well_said : OpenLaw.wellSaid PySem.Challenge.rw_xj0020_01 = true := by
  unfold OpenLaw.wellSaid OpenRow.wellSaid OpenRow.partSaid looksOpen
  repeat' with_reducible refine look_both ?_ ?_
  all_goals decide +kernel
theorem codTab_ne : ∀ p ∈ codTab, p.1 ≠ p.2.1 := by
  intro p hp
  simp only [codTab, List.mem_cons, List.not_mem_nil, or_false] at hp
  rcases hp with rfl | rfl | rfl | rfl <;> decide
theorem fnTab_code : ∀ p ∈ fnTab, p.2.1.code = .ref p.2.2 := by
  intro p hp
  simp only [fnTab, List.mem_cons, List.not_mem_nil, or_false] at hp
  rcases hp with rfl | rfl | rfl | rfl | rfl | rfl | rfl | rfl | rfl | rfl | rfl | rfl | rfl | rfl | rfl | rfl | rfl | rfl | rfl | rfl <;> rfl
structure Seen0 (w : World) (h : Heap) : Prop where
  fn : ∀ p ∈ fnTab, h.get? p.1 = some (kFn p.2.1)
  tb : ∀ t ∈ tabs, h.get? t = some (tabObj #[])
  kc : ∀ p ∈ Kc w.params, h.get? p.1 = some p.2
  cs : ∀ p ∈ fnTab, fldS h p.2.2 1 = some p.2.1.qualname
  fs : ∀ c ∈ filTab, fldS h c 2 = some PRG.main.file
  cd : ∀ p ∈ codTab, cdHd h p.1 p.2.1 = true
  gt : ∀ p ∈ gtab, gFind h p.1 = some p.2
  bt : ∀ p ∈ btab, gFind h p.1 = none
  g1 : gI h "CHAR_MAX" = some 127
  g2 : gI h "_DIV_LIMIT" = some 4000
  g3 : gS h "EMPTYSTRING" = some Str.empty
  g4 : gFind h "__builtins__" = some (.ref 4)
  g5 : gFind h "law" = some (.ref 195)
  g6 : (h.get? 195).isSome = true
theorem seen_of {s : Shared} (y : obs s = val w) : Seen0 w s.heap := by
  unfold obs val at y
  injection y with y1 y
  injection y with y2 y
  injection y with y3 y
  injection y with y4 y
  injection y with y5 y
  injection y with y6 y
  injection y with y7 y
  injection y with y8 y
  injection y with y9 y
  injection y9 with z1 z2
  injection z2 with z2 z3
  injection y with z4 z5
  injection z5 with z5 z6
  exact ⟨List.map_inj_left.mp y1, List.map_inj_left.mp y2, List.map_inj_left.mp (show (Kc w.params).map (fun p => s.heap.get? p.1) = _ from y3), List.map_inj_left.mp y4, List.map_inj_left.mp y5, List.map_inj_left.mp y6, List.map_inj_left.mp y7, List.map_inj_left.mp y8, z1, z2, z3, z4, z5, z6⟩
theorem gFind_mg {h₀ h : Heap} {mg : Str → Option Value} (k : ∀ b o, h₀.get? b = some o → h.get? b = some o) (hg : h.Ns mainGlobals mg) (e : ∃ v, gFind h₀ "law" = some v) (x : Str) : gFind h₀ x = mg x := by
  obtain ⟨v, e⟩ := e
  obtain ⟨o, es, ep, e1, e2, _, e4⟩ := hg
  obtain ⟨o', h1, _⟩ := Option.bind_eq_some_iff.mp e
  have := k _ _ h1
  rw [e1] at this; cases this
  unfold gFind
  rw [h1, Option.bind_some, e2]
  exact e4 x
theorem gI_of {h : Heap} {x : Str} {i : Int} (e : gI h x = some i) : ∃ t, gFind h x = some (.int i t) := by
  obtain ⟨v, e1, e2⟩ := Option.bind_eq_some_iff.mp e
  obtain ⟨t, rfl⟩ := vInt_of e2
  exact ⟨t, e1⟩
theorem gS_of {h : Heap} {x : Str} {q : Str} (e : gS h x = some q) : ∃ t, gFind h x = some (.str q t) := by
  obtain ⟨v, e1, e2⟩ := Option.bind_eq_some_iff.mp e
  obtain ⟨t, rfl⟩ := vStr_of e2
  exact ⟨t, e1⟩
theorem inv_of {h₀ h : Heap} {mg mb : Str → Option Value} (S : Seen0 w h₀) (k : ∀ b o, h₀.get? b = some o → h.get? b = some o) (hg : h.Ns mainGlobals mg) (hb : h.Ns builtinsNs mb) (hN : h.NoLimit) (hBu : ∀ x : Str, x ≠ Str.ofString "__name__" → mb x = bootBuiltins x)
    (hbm : ∃ bm ob, mg (Str.ofString "__builtins__") = some (Value.ref bm) ∧ bm ≠ builtinsNs ∧ h.get? bm = some ob ∧ ob.cls = Value.type "module" ∧ ob.dict = some builtinsNs ∧ ob.data = Data.plain) : Inv h := by
  have hm := gFind_mg k hg ⟨_, S.g5⟩
  refine ⟨fun p hp => ?_, fun p hp => ?_, ?_, fun t ht => ⟨#[], k _ _ (S.tb t ht)⟩, ⟨mg, hg, ?_, fun p hp => (hm _).symm.trans (S.gt p hp), fun p hp => (hm _).symm.trans (S.bt p hp), ?_, ?_, ?_⟩, ⟨mb, hb, fun p hp => (hBu _ (b_name p hp)).trans (b_ok p hp)⟩, hN, ⟨w.params, fun a o e => k _ _ (S.kc (a, o) (kc_mem e))⟩, fun c hc => ?_⟩
  · obtain ⟨o, vs, f, tf, fl, tg, b, tx, tt, e1, r⟩ := cdHd_of (codTab_ne p hp) (S.cd p hp)
    exact ⟨⟨o, vs, f, tf, fl, tg, b, tx, tt, k _ _ e1, r⟩, ⟨#[], k _ _ (S.tb _ (codTab_low p hp).2.2), trivial, .inl rfl⟩⟩
  · obtain ⟨oc, vs, t, e1, e2, e3⟩ := fldS_of (S.cs p hp)
    exact ⟨_, oc, vs, t, k _ _ (S.fn p hp), rfl, rfl, fnTab_code p hp, k _ _ e1, e2, e3⟩
  · cases h1 : h₀.get? 195 with
    | none => have := S.g6; rw [h1] at this; cases this
    | some o => exact ⟨o, k _ _ h1⟩
  · obtain ⟨bm, ob, e1, e2, e3, e4, e5, e6⟩ := hbm
    have := (hm _).symm.trans S.g4
    rw [e1] at this; cases this
    exact ⟨4, ob, e1, by decide, by decide, e2, by decide, e3, e4, e5, e6⟩
  · obtain ⟨t, e⟩ := gI_of S.g1; exact ⟨t, (hm _).symm.trans e⟩
  · obtain ⟨t, e⟩ := gI_of S.g2; exact ⟨t, (hm _).symm.trans e⟩
  · obtain ⟨t, e⟩ := gS_of S.g3; exact ⟨t, (hm _).symm.trans e⟩
  · obtain ⟨o, vs, t, e1, e2, e3⟩ := fldS_of (S.fs c hc)
    exact ⟨o, vs, t, k _ _ e1, e2, e3⟩
end
end Mine
open PySem.W.X PySem.W.ZRun Mine
set_option maxHeartbeats 0 in
theorem PySem.Challenge.cw_xj0020_01_holds : PySem.Challenge.rw_xj0020_01.Holds := by
  w_on
  refine holds_law well_said fun said => ?_
  refine holds_openX (q := qv) (loose := lv) (Xt := xt) (XP := XL qv []) (Yf := obs) (Ya := val) (N := 2198) lo (fun s e => xl_of s (Bool.and_eq_true_iff.mp e).1) XL.keeps (by rfl) (by rfl) (by rfl) (fun s e => recFacts_of (Bool.and_eq_true_iff.mp e).2) (by rfl) said (by decide +kernel) ⟨rfl, rfl, rfl, rfl, rfl, by decide +kernel⟩ ?hw ?hc
  case hw => w_witness2
  k_fill
  intro w s₀ s₁ mg mb G y fa o pm cd doc dV kV ho hd hcd hD hmg hg args vals as L hpre hlay hrd hwl hlo
  have hfa : mg "law" = some (.ref fa) := hmg
  have hS := seen_of y
  have hk := Laid.keeps L
  have hm := gFind_mg hk G.T.g ⟨_, hS.g5⟩ "law"
  have I := inv_of hS hk G.T.g G.T.b G.T.nolimit G.T.builtins G.T.bmain
  clear hD hmg hcd hd ho y
  wrow_args hpre hlay hrd hwl hlo
  rename_i ns hs1 hl1 hL1 hr1 hl2 as1 as2 a vs as3 hL ra w1 r0 hI hr hc2 hc1
  have hobj := script_obj L hL
  clear hs1 hl1 hL1 hr1 hl2 ra w1 r0 hr L
  have hfa2 : fa = 195 := by
    have e := hm.symm.trans hS.g5
    rw [hfa] at e
    cases e
    rfl
  subst hfa2
  refine wpAny_mono (law_good (sc := ns) I (fun t ht => hk _ _ (hS.tb t ht)) hg hobj hI (by omega)) (fun v s' q => ?_) fun _ _ z => z.elim
  obtain ⟨rfl, q2, q3, q4⟩ := q
  exact ⟨.inl ⟨_, .bool true, [], rfl, fun _ => rfl, .bool true, law_post _, fun _ => ⟨List.nodup_nil, fun _ h => nomatch h⟩⟩, q2, q3, q4⟩
