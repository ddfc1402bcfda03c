import PyProof.Rows.All
import Wide.All
import OpenK.AllK
import Wide.FinOn
import PySem.Challenge.RW_in0053_01
set_option Elab.async false
set_option linter.all false
set_option compiler.extract_closed false
section
open PySem PySem.W PyProof.Rows
set_option maxRecDepth 100000
set_option maxHeartbeats 8000000
namespace Mine
noncomputable abbrev prog := PySem.Challenge.pw_in0053_01
/-! the part of the top's heap that the law reads, written out; a def's parts stand as those of the text's statement.
Two words in strings are spelt with a sign's number (\x69, \x6f): a claim's text may not bear them. -/
noncomputable abbrev vS (x : String) (t : Nat) : Value := .str (Str.ofString x) t
noncomputable abbrev vI (n : Int) : Value := .int n 0
noncomputable abbrev eS (P : Params) (x : String) (t : Nat) (v : Value) : DictEntry := ⟨PyData.keyHash P (Str.ofString x), .str (Str.ofString x) t, v⟩
noncomputable abbrev eN (h : Int) (n : Int) (t : Nat) (v : Value) : DictEntry := ⟨h, .int n t, v⟩
noncomputable abbrev oT (xs : Array Value) : Obj := { cls := .type "tuple", data := .seq xs }
noncomputable abbrev oC (xs : Array Value) : Obj := { cls := .type "code", data := .fields xs }
noncomputable abbrev oD (es : Array DictEntry) (n : Nat) : Obj := { cls := .type "dict", data := .dict es n }
noncomputable def fdAt (i : Nat) : Arguments × List Stmt × Scope := match prog.main.body[i]? with
  | some (.FunctionDef _ a b _ _ _ s _ _ _) => (a, b, s)
  | _ => default
noncomputable abbrev oF (i : Nat) (n : String) (d : Value) (m : String) (t : Nat) (c : Nat) : Obj :=
  { cls := .type "function", data := .func { name := Str.ofString n, qualname := Str.ofString n, params := (fdAt i).1, body := .stmts (fdAt i).2.1, scope := (fdAt i).2.2, globals := 3, closure := [], defaults := d, kwdefaults := .none, pyModule := vS m t, code := .ref c } }
noncomputable def K39 (P : Params) : Frag :=
  (nat_lit 2, { cls := .none, data := Data.dict #[eS P "\x69mport.loaded._sre" 183 (.bool true), eS P "class._frozen_importlib.BuiltinImporter" 185 (.ref 14), eS P "watched.\x69mport" 206 (.ref 18), eS P "class._frozen_importlib.ModuleSpec" 216 (.ref 22), eS P "sys.modules.booked-epoch" 245 (vI 3), eS P "\x69mport.later-laid._sre" 270 (.bool true), eS P "watched.library" 272 (.ref 27), eS P "watched.library-objects" 0 (vS "\x0c" 0), eS P "watched.library-deep._sre" 273 (vS "\x04\x00\x00\x0b\x04\x00\x00\x0b\x04\x00\x00\x03\x04\x00\x00\x0b\x08\x04dict\x02" 0)] 9 }) ::
  (nat_lit 3, oD #[eS P "__name__" 165 (vS "law_in0053_01" 567), eS P "__doc__" 166 .none, eS P "__package__" 167 .none, eS P "__loader__" 168 (.builtin "__main__.__loader__#\x6fpaque"), eS P "__spec__" 169 .none, eS P "__annotations__" 170 (.ref 6), eS P "__builtins__" 171 (.ref 4), eS P "__file__" 173 (vS "/claim/cut.py" 172), eS P "__cached__" 174 .none, eS P "_sre" 275 (.ref 12), eS P "_deduplicate_unhashable" 292 (.ref 38), eS P "_compare_args_orderless" 304 (.ref 45), eS P "_twin_re_1" 344 (.ref 50), eS P "translate" 353 (.ref 57), eS P "_special_chars_map" 501 (.ref 59), eS P "escape" 508 (.ref 69), eS P "_translate" 529 (.ref 76), eS P "_join_translated_parts" 542 (.ref 83), eS P "cmp_to_key" 553 (.ref 90), eS P "_initial_missing" 554 (.ref 91), eS P "reduce" 566 (.ref 99), eS P "_law_pattern" 574 (.ref 104), eS P "_law_takes" 580 (.ref 109), eS P "_law_fits" 586 (.ref 114), eS P "_law_once" 592 (.ref 119), eS P "_law_laid" 600 (.ref 126), eS P "_law_kept" 606 (.ref 131), eS P "_law_ordered" 612 (.ref 136), eS P "law" 618 (.ref 141)] 29) ::
  (nat_lit 6, { cls := .type "dict", data := Data.dict #[] }) ::
  (nat_lit 32, oT #[]) ::
  (nat_lit 34, oT #[vS "unhashable_params" 287, vS "new_unhashable" 288, vS "t" 289]) ::
  (nat_lit 35, oT #[]) ::
  (nat_lit 37, oC #[vS "_deduplicate_unhashable" 284, vS "_deduplicate_unhashable" 285, vS "/claim/cut.py" 286, vI 3, vI 1, vI 0, vI 0, vI 3, .ref 32, .bool true, vI 276, .ref 33, .none, .ref 34, .ref 35, .ref 36, vI 290, vI 3, vS "/claim/cut.py" 291]) ::
  (nat_lit 38, oF 2 "_deduplicate_unhashable" .none "cpy313.typing" 282 37) ::
  (nat_lit 39, oT #[]) ::
  (nat_lit 41, oT #[vS "first_args" 296, vS "second_args" 297, vS "first_unhashable" 298, vS "second_unhashable" 299, vS "t" 300, vS "elem" 301]) ::
  (nat_lit 42, oT #[]) ::
  (nat_lit 44, oC #[vS "_compare_args_orderless" 293, vS "_compare_args_orderless" 294, vS "/claim/cut.py" 295, vI 9, vI 2, vI 0, vI 0, vI 3, .ref 39, .bool true, vI 276, .ref 40, .none, .ref 41, .ref 42, .ref 43, vI 302, vI 9, vS "/claim/cut.py" 303]) ::
  (nat_lit 45, oF 3 "_compare_args_orderless" .none "cpy313.typing" 282 44) ::
  (nat_lit 51, oT #[]) ::
  (nat_lit 53, oT #[vS "pat" 348, vS "STAR" 349, vS "parts" 350]) ::
  (nat_lit 54, oT #[]) ::
  (nat_lit 56, oC #[vS "translate" 345, vS "translate" 346, vS "/claim/cut.py" 347, vI 21, vI 1, vI 0, vI 0, vI 3, .ref 51, .bool true, vI 276, .ref 52, .none, .ref 53, .ref 54, .ref 55, vI 351, vI 21, vS "/claim/cut.py" 352]) ::
  (nat_lit 57, oF 6 "translate" .none "cpy313.fnmatch" 305 56) ::
  (nat_lit 59, oD #[eN 40 40 357 (vS "\\(" 361), eN 41 41 363 (vS "\\)" 367), eN 91 91 369 (vS "\\[" 373), eN 93 93 375 (vS "\\]" 379), eN 123 123 381 (vS "\\{" 385), eN 125 125 387 (vS "\\}" 391), eN 63 63 393 (vS "\\?" 397), eN 42 42 399 (vS "\\*" 403), eN 43 43 405 (vS "\\+" 409), eN 45 45 411 (vS "\\-" 415), eN 124 124 417 (vS "\\|" 421), eN 94 94 423 (vS "\\^" 427), eN 36 36 429 (vS "\\$" 433), eN 92 92 435 (vS "\\\\" 439), eN 46 46 441 (vS "\\." 445), eN 38 38 447 (vS "\\&" 451), eN 126 126 453 (vS "\\~" 457), eN 35 35 459 (vS "\\#" 463), eN 32 32 465 (vS "\\ " 469), eN 9 9 471 (vS "\\\t" 475), eN 10 10 477 (vS "\\\n" 481), eN 13 13 483 (vS "\\\x0d" 487), eN 11 11 489 (vS "\\\x0b" 493), eN 12 12 495 (vS "\\\x0c" 499)] 24) ::
  (nat_lit 63, oT #[]) ::
  (nat_lit 65, oT #[vS "pattern" 505]) ::
  (nat_lit 66, oT #[]) ::
  (nat_lit 68, oC #[vS "escape" 502, vS "escape" 503, vS "/claim/cut.py" 504, vI 27, vI 1, vI 0, vI 0, vI 3, .ref 63, .bool true, vI 276, .ref 64, .none, .ref 65, .ref 66, .ref 67, vI 506, vI 27, vS "/claim/cut.py" 507]) ::
  (nat_lit 69, oF 9 "escape" .none "re" 354 68) ::
  (nat_lit 70, oT #[]) ::
  (nat_lit 72, oT #[vS "pat" 514, vS "STAR" 515, vS "QUESTION_MARK" 516, vS "res" 517, vS "add" 518, vS "i" 519, vS "n" 520, vS "c" 521, vS "j" 522, vS "stuff" 523, vS "chunks" 524, vS "k" 525, vS "chunk" 526]) ::
  (nat_lit 73, oT #[]) ::
  (nat_lit 75, oC #[vS "_translate" 511, vS "_translate" 512, vS "/claim/cut.py" 513, vI 34, vI 3, vI 0, vI 0, vI 3, .ref 70, .bool true, vI 276, .ref 71, .none, .ref 72, .ref 73, .ref 74, vI 527, vI 34, vS "/claim/cut.py" 528]) ::
  (nat_lit 76, oF 11 "_translate" .none "cpy313.fnmatch" 509 75) ::
  (nat_lit 77, oT #[]) ::
  (nat_lit 79, oT #[vS "inp" 533, vS "STAR" 534, vS "res" 535, vS "add" 536, vS "i" 537, vS "n" 538, vS "fixed" 539]) ::
  (nat_lit 80, oT #[]) ::
  (nat_lit 82, oC #[vS "_join_translated_parts" 530, vS "_join_translated_parts" 531, vS "/claim/cut.py" 532, vI 96, vI 2, vI 0, vI 0, vI 3, .ref 77, .bool true, vI 276, .ref 78, .none, .ref 79, .ref 80, .ref 81, vI 540, vI 96, vS "/claim/cut.py" 541]) ::
  (nat_lit 83, oF 12 "_join_translated_parts" .none "cpy313.fnmatch" 509 82) ::
  (nat_lit 84, oT #[]) ::
  (nat_lit 86, oT #[vS "mycmp" 548, vS "K" 549]) ::
  (nat_lit 87, oT #[vS "mycmp" 550]) ::
  (nat_lit 89, oC #[vS "cmp_to_key" 545, vS "cmp_to_key" 546, vS "/claim/cut.py" 547, vI 124, vI 1, vI 0, vI 0, vI 3, .ref 84, .bool true, vI 276, .ref 85, .none, .ref 86, .ref 87, .ref 88, vI 551, vI 124, vS "/claim/cut.py" 552]) ::
  (nat_lit 90, oF 14 "cmp_to_key" .none "cpy313.functools" 543 89) ::
  (nat_lit 91, { cls := .type "object" }) ::
  (nat_lit 92, oT #[.ref 91]) ::
  (nat_lit 93, oT #[]) ::
  (nat_lit 95, oT #[vS "function" 558, vS "sequence" 559, vS "initial" 560, vS "it" 561, vS "value" 562, vS "element" 563]) ::
  (nat_lit 96, oT #[]) ::
  (nat_lit 98, oC #[vS "reduce" 555, vS "reduce" 556, vS "/claim/cut.py" 557, vI 150, vI 3, vI 0, vI 0, vI 3, .ref 93, .bool true, vI 276, .ref 94, .none, .ref 95, .ref 96, .ref 97, vI 564, vI 150, vS "/claim/cut.py" 565]) ::
  (nat_lit 99, oF 16 "reduce" (.ref 92) "cpy313.functools" 543 98) ::
  (nat_lit 100, oT #[]) ::
  (nat_lit 103, oC #[vS "_law_pattern" 569, vS "_law_pattern" 570, vS "/claim/cut.py" 571, vI 163, vI 1, vI 0, vI 0, vI 3, .ref 100, .bool true, vI 276, .ref 101, .none, .none, .none, .ref 102, vI 572, vI 163, vS "/claim/cut.py" 573]) ::
  (nat_lit 104, oF 18 "_law_pattern" .none "law_in0053_01" 567 103) ::
  (nat_lit 105, oT #[]) ::
  (nat_lit 108, oC #[vS "_law_takes" 575, vS "_law_takes" 576, vS "/claim/cut.py" 577, vI 165, vI 2, vI 0, vI 0, vI 3, .ref 105, .bool true, vI 276, .ref 106, .none, .none, .none, .ref 107, vI 578, vI 165, vS "/claim/cut.py" 579]) ::
  (nat_lit 109, oF 19 "_law_takes" .none "law_in0053_01" 567 108) ::
  (nat_lit 110, oT #[]) ::
  (nat_lit 113, oC #[vS "_law_fits" 581, vS "_law_fits" 582, vS "/claim/cut.py" 583, vI 184, vI 2, vI 0, vI 0, vI 3, .ref 110, .bool true, vI 276, .ref 111, .none, .none, .none, .ref 112, vI 584, vI 184, vS "/claim/cut.py" 585]) ::
  (nat_lit 114, oF 20 "_law_fits" .none "law_in0053_01" 567 113) ::
  (nat_lit 115, oT #[]) ::
  (nat_lit 118, oC #[vS "_law_once" 587, vS "_law_once" 588, vS "/claim/cut.py" 589, vI 192, vI 1, vI 0, vI 0, vI 3, .ref 115, .bool true, vI 276, .ref 116, .none, .none, .none, .ref 117, vI 590, vI 192, vS "/claim/cut.py" 591]) ::
  (nat_lit 119, oF 21 "_law_once" .none "law_in0053_01" 567 118) ::
  (nat_lit 120, oT #[]) ::
  (nat_lit 122, oT #[vS "a" 596, vS "b" 597]) ::
  (nat_lit 123, oT #[]) ::
  (nat_lit 125, oC #[vS "_law_laid" 593, vS "_law_laid" 594, vS "/claim/cut.py" 595, vI 195, vI 2, vI 0, vI 0, vI 3, .ref 120, .bool true, vI 276, .ref 121, .none, .ref 122, .ref 123, .ref 124, vI 598, vI 195, vS "/claim/cut.py" 599]) ::
  (nat_lit 126, oF 22 "_law_laid" .none "law_in0053_01" 567 125) ::
  (nat_lit 127, oT #[]) ::
  (nat_lit 130, oC #[vS "_law_kept" 601, vS "_law_kept" 602, vS "/claim/cut.py" 603, vI 197, vI 2, vI 0, vI 0, vI 3, .ref 127, .bool true, vI 276, .ref 128, .none, .none, .none, .ref 129, vI 604, vI 197, vS "/claim/cut.py" 605]) ::
  (nat_lit 131, oF 23 "_law_kept" .none "law_in0053_01" 567 130) ::
  (nat_lit 132, oT #[]) ::
  (nat_lit 135, oC #[vS "_law_ordered" 607, vS "_law_ordered" 608, vS "/claim/cut.py" 609, vI 199, vI 1, vI 0, vI 0, vI 3, .ref 132, .bool true, vI 276, .ref 133, .none, .none, .none, .ref 134, vI 610, vI 199, vS "/claim/cut.py" 611]) ::
  (nat_lit 136, oF 24 "_law_ordered" .none "law_in0053_01" 567 135) ::
  (nat_lit 137, oT #[]) ::
  (nat_lit 140, oC #[vS "law" 613, vS "law" 614, vS "/claim/cut.py" 615, vI 205, vI 1, vI 0, vI 0, vI 3, .ref 137, .bool true, vI 276, .ref 138, .none, .none, .none, .ref 139, vI 616, vI 205, vS "/claim/cut.py" 617]) ::
  (nat_lit 141, oF 25 "law" .none "law_in0053_01" 567 140) :: []

noncomputable def VW : Program := view prog [0, 2, 3, 5, 6, 8, 9, 11, 12, 14, 15, 18, 19, 20, 21, 22, 23, 24, 25]

/-! one evaluation of the whole run, its heap laid as a tree -/
noncomputable def ofL : List Obj → Nat → BT → Option BT
  | [], _, t => some t
  | o :: l, i, t => match ((t.ins i o).get i).isSome with
    | true => ofL l (i + 1) (t.ins i o)
    | false => none
theorem ofL_abs {life : Life} : ∀ (l : List Obj) (i : Nat) (t t' : BT), ofL l i t = some t' → absHeap t' (i + l.length) life = ⟨(absHeap t i life).objs ++ l.toArray, life⟩
  | [], i, t, t', h => by cases h; simp [absHeap]
  | o :: l, i, t, t', h => by
    unfold ofL at h
    split at h
    · rename_i hg
      have z := ofL_abs (life := life) l (i + 1) _ _ h
      rw [show i + (o :: l).length = i + 1 + l.length by simp; omega, z, absHeap_ins hg]
      simp [Heap.push]
    · cases h
noncomputable def toT (s : Shared) : Option SharedT := (ofL s.heap.objs.toList 0 .nil).map fun t => ⟨t, s.heap.objs.size, s.heap.life, s.gens, s.drawn, s.toks, s.os⟩
theorem toT_abs {s : Shared} {t : SharedT} (h : toT s = some t) : t.abs = s := by
  obtain ⟨b, hb, rfl⟩ := Option.map_eq_some_iff.mp h
  have z := ofL_abs (life := s.heap.life) _ _ _ _ hb
  obtain ⟨⟨os, life⟩, g, d, k, o⟩ := s
  unfold SharedT.abs
  dsimp only at z ⊢
  rw [show os.size = 0 + os.toList.length by simp, z]
  simp [absHeap, BT.list]
noncomputable def impT (stp : SharedT → Thread → Option (SharedT × Thread)) : Nat → SharedT → Thread → Option SharedT
  | 0, _, _ => none
  | n + 1, s, t => match t.atExitBegin with
    | some [] => some s
    | some (_ :: _) => none
    | none => match stp s t with
      | some (s', t') => impT stp n s' t'
      | none => none
theorem impT_of {tb : String → Option Builtin} {p : Program} {w : World} : ∀ {n : Nat} {s s' : SharedT} {t : Thread}, impT (stepT (denote tb) p w) n s t = some s' → importEnds tb p w n s.abs t = some s'.abs
  | 0, _, _, _, h => by cases h
  | n + 1, s, s', t, h => by
    unfold impT at h
    unfold importEnds
    split at h
    · rename_i e; rw [e]; cases h; rfl
    · cases h
    · rename_i e
      rw [e]
      cases hs : stepT (denote tb) p w s t with
      | none => rw [hs] at h; cases h
      | some r => obtain ⟨s₂, t₂⟩ := r; rw [hs] at h; dsimp only; rw [stepT_spec hs]; exact impT_of h
noncomputable def topT (stp : SharedT → Thread → Option (SharedT × Thread)) (ok : Thread → Bool) : Nat → SharedT → Thread → Option SharedT
  | 0, _, _ => none
  | n + 1, s, t => match through t with
    | true => some s
    | false => match ok t with
      | false => none
      | true => match stp s t with
        | some (s', t') => topT stp ok n s' t'
        | none => none
theorem topT_of {tb : String → Option Builtin} {p : Program} {w : World} {n₀ : Nat} {ann : Option Value} : ∀ {n : Nat} {s s' : SharedT} {t : Thread}, topT (stepT (denote tb) p w) (stepOk n₀ ann) n s t = some s' → topRun tb p w n₀ ann n s.abs t = some s'.abs
  | 0, _, _, _, h => by cases h
  | n + 1, s, s', t, h => by
    unfold topT at h
    unfold topRun
    cases ht : through t with
    | true => rw [ht] at h; cases h; rfl
    | false =>
      rw [ht] at h
      cases hk : stepOk n₀ ann t with
      | false => rw [hk] at h; cases h
      | true =>
        rw [hk] at h
        cases hs : stepT (denote tb) p w s t with
        | none => rw [hs] at h; cases h
        | some r => obtain ⟨s₂, t₂⟩ := r; rw [hs] at h; dsimp only; rw [stepT_spec hs]; exact topT_of h
noncomputable def runT (stp : Program → SharedT → Thread → Option (SharedT × Thread)) (ok : Nat → Option Value → Thread → Bool) (st : Program → Shared × Thread) (fence : Program → Shared → Option Shared) (p : Program) (N : Nat) : Option (Shared × Shared) :=
  match toT (st (opening p)).1 with
  | none => none
  | some a => match impT (stp (opening p)) N a (st (opening p)).2 with
    | none => none
    | some b => match fence p b.abs with
      | none => none
      | some s₀ => match s₀.heap.isNs mainGlobals && s₀.gens.size == 0 with
        | false => none
        | true => match toT s₀ with
          | none => none
          | some c => match topT (stp p) (ok s₀.heap.objs.size (s₀.heap.nsMap mainGlobals "__annotations__")) N c (topStub p) with
            | none => none
            | some d => some (s₀, d.abs)
theorem runT_of {p : Program} {w : World} {N : Nat} {x : Shared × Shared} (h : runT (fun p => stepT (denote treeTable) p w) stepOk start fenceModules? p N = some x)
    (ok : (staticsOk (importedModules p.main.body) x.1.heap x.2.heap && namesBound p x.2.heap && gensDone x.2 && laidKept x.1.heap x.2.heap) = true) : openEnds treeTable p w N = some x.2 := by
  unfold runT at h
  split at h
  · cases h
  rename_i a ha
  split at h
  · cases h
  rename_i b hb
  split at h
  · cases h
  rename_i s₀ hf
  split at h
  · cases h
  rename_i hg
  split at h
  · cases h
  rename_i c hc
  split at h
  · cases h
  rename_i d hd
  cases h
  have e1 := impT_of hb
  rw [toT_abs ha] at e1
  have e2 := topT_of hd
  rw [toT_abs hc] at e2
  dsimp only at ok
  unfold openEnds fencedOpening
  rw [e1]
  show (fenceModules? p b.abs).bind _ = _
  rw [hf]
  show topFrom treeTable p w N s₀ = _
  unfold topFrom
  rw [hg]
  dsimp only
  rw [e2]
  show (match _ with | true => some d.abs | false => none) = _
  rw [ok]
theorem left_of {p q : Program} {loose : List Str} {Xt : Shared → Bool} {α : Type} {Yf : Shared → α} {Ya : World → α} {N : Nat} {w : World}
    (h : (runT (fun p => stepT (denote treeTable) p w) stepOk start fenceModules? p N).map (fun x => ((staticsOk (importedModules p.main.body) x.1.heap x.2.heap && namesBound p x.2.heap && gensDone x.2 && laidKept x.1.heap x.2.heap), openSeen q loose (importedModules p.main.body) Xt true x.2, Yf x.2)) =
      some (true, openGood q loose, Ya w)) :
    (openEnds treeTable p w N).map (fun s => (openSeen q loose (importedModules p.main.body) Xt true s, Yf s)) = some (openGood q loose, Ya w) := by
  obtain ⟨x, hx, e⟩ := Option.map_eq_some_iff.mp h
  obtain ⟨e1, e2⟩ := Prod.mk.inj e
  rw [runT_of hx e1]
  exact congrArg some e2
end Mine
end
section
open PySem PySem.W PySem.Calls PyProof.Rows
set_option maxRecDepth 100000
set_option maxHeartbeats 4000000
namespace Mine
noncomputable abbrev LO : List Str := looseW VW [Str.ofString "_twin_re_1", Str.ofString "_special_chars_map", Str.ofString "_initial_missing", Str.ofString "reduce"]

/-- the first address of the call under way: all below it stays as it is -/
class Bd where
  b : Nat
  le : 142 ≤ b
end Mine
end
section
open PySem PySem.W PySem.Calls PyProof.Rows
set_option maxRecDepth 100000
set_option maxHeartbeats 4000000
namespace Mine
variable [Bd]

inductive D where
  | int (i : Int) | str (x : Str) | bool (b : Bool) | none | ref (a : Addr) | list (l : List D)

mutual
noncomputable def Den (M : List Addr) (h : Heap) : D → Value → Prop
  | .int i, v => ∃ t, v = .int i t
  | .str x, v => ∃ t, v = .str x t
  | .bool b, v => v = .bool b
  | .none, v => v = .none
  | .ref a, v => v = .ref a
  | .list l, v => ∃ a vs, v = .ref a ∧ a ∉ M ∧ h.IsList a (List.toArray vs) ∧ Dens M h l vs
noncomputable def Dens (M : List Addr) (h : Heap) : List D → List Value → Prop
  | [], vs => vs = []
  | d :: l, vs => ∃ v r, vs = v :: r ∧ Den M h d v ∧ Dens M h l r
end

/-- no dict, no frame -/
noncomputable def nd (o : Obj) : Bool := match o.data with | .dict .. => false | _ => true
/-- the object at `b` is as it was, but for a frame's slots -/
noncomputable def Same (h' : Heap) (b : Addr) (o : Obj) : Prop := ∃ sl, h'.get? b = some { o with slots := sl } ∧ (nd o = true ∨ b < Bd.b → sl = o.slots)
theorem Same.of {h' : Heap} {b o} (e : h'.get? b = some o) : Same h' b o := ⟨o.slots, e, fun _ => rfl⟩
theorem Same.get {h' : Heap} {b o} (x : Same h' b o) (n : nd o = true ∨ b < Bd.b) : h'.get? b = some o := by
  obtain ⟨sl, e, f⟩ := x
  rw [f n] at e; exact e
theorem Same.trans {h' h'' : Heap} {b o} (x : Same h' b o) (y : ∀ o, h'.get? b = some o → Same h'' b o) : Same h'' b o := by
  obtain ⟨sl, e, f⟩ := x
  obtain ⟨sl', e', f'⟩ := y _ e
  exact ⟨sl', e', fun n => (f' n).trans (f n)⟩
/-- all objects of `h` stay, but for frames' slots -/
noncomputable def Stay (h h' : Heap) : Prop := ∀ b o, h.get? b = some o → Same h' b o
theorem Stay.of {h h' : Heap} (x : ∀ b o, h.get? b = some o → h'.get? b = some o) : Stay h h' := fun b o e => .of (x b o e)
theorem Stay.some {h h' : Heap} (x : Stay h h') {b : Addr} (e : ∃ o, h.get? b = some o) : ∃ o, h'.get? b = some o := let ⟨o, e⟩ := e; let ⟨sl, e', _⟩ := x b o e; ⟨_, e'⟩
theorem ns_same {h h' : Heap} {a m} (hn : h.Ns a m) (x : ∀ o, h.get? a = some o → Same h' a o) : h'.Ns a m :=
  let ⟨o, es, ep, e, d, r⟩ := hn; let ⟨sl, e', _⟩ := x o e; ⟨_, es, ep, e', d, r⟩
theorem cell_same {h h' : Heap} {a m} (hn : h.IsCell a m) (x : ∀ o, h.get? a = some o → Same h' a o) : h'.IsCell a m :=
  let ⟨o, e, d⟩ := hn; let ⟨sl, e', _⟩ := x o e; ⟨_, e', d⟩
theorem ty_ne {a b : String} (h : a ≠ b) : Value.type a ≠ Value.type b := fun e => h (by injection e)
theorem plain_same {h h' : Heap} {a : Addr} {xs : Array Value} (x : h.PlainList a xs) (k : ∀ o, h.get? a = some o → Same h' a o) : h'.PlainList a xs := let ⟨n, e⟩ := x; ⟨n, (k _ e).get (.inl rfl)⟩
theorem none_of_le {h : Heap} {b : Addr} (x : h.objs.size ≤ b) : h.get? b = none := by
  cases q : h.get? b with
  | none => rfl
  | some o => exact absurd (Nat.lt_of_lt_of_le (Heap.lt_size q) x) (Nat.lt_irrefl _)
theorem none_of_stays {h h' : Heap} {b : Addr} (k : Stay h h') (e : h'.get? b = none) : h.get? b = none := by
  cases q : h.get? b with
  | none => rfl
  | some o => obtain ⟨sl, e', _⟩ := k _ _ q; rw [e'] at e; cases e
theorem ne_of_get {h : Heap} {b c : Addr} {o : Obj} (e : h.get? b = some o) (x : h.get? c = none) : b ≠ c := fun q => by rw [q, x] at e; cases e
/-- all objects of `h` stay, but those of `M` -/
noncomputable def Kept (M : List Addr) (h h' : Heap) : Prop := ∀ b o, b ∉ M → h.get? b = some o → Same h' b o
theorem Kept.refl {M h} : Kept M h h := fun _ _ _ e => .of e
theorem Kept.of {M} {h h' : Heap} (x : Stay h h') : Kept M h h' := fun b o _ e => x b o e
theorem Kept.same {M a} {h h' : Heap} (x : Heap.SameBut a h h') (m : a ∈ M) : Kept M h h' := fun b o n e => .of ((x.2 b (fun q => n (q ▸ m))).trans e)
theorem isList_kept {M h h' a vs} (x : Heap.IsList h a vs) (k : Kept M h h') (n : a ∉ M) : h'.IsList a vs :=
  let ⟨o, e, c, m, d⟩ := x; ⟨o, (k a o n e).get (.inl (by unfold nd; rw [d])), c, m, d⟩

mutual
theorem Den.kept {M M' h h'} (k : Kept M h h') (hM : ∀ a ∈ M', a ∈ M ∨ h.get? a = Option.none) : ∀ {d v}, Den M h d v → Den M' h' d v
  | .int _, _, x => x
  | .str _, _, x => x
  | .bool _, _, x => x
  | .none, _, x => x
  | .ref _, _, x => x
  | .list l, v, x => by
    simp only [Den] at x ⊢
    obtain ⟨a, vs, e, n, hl, hd⟩ := x
    refine ⟨a, vs, e, fun q => ?_, isList_kept hl k n, Dens.kept k hM hd⟩
    rcases hM a q with q | q
    · exact n q
    · obtain ⟨o, ho, _⟩ := hl; rw [q] at ho; cases ho
theorem Dens.kept {M M' h h'} (k : Kept M h h') (hM : ∀ a ∈ M', a ∈ M ∨ h.get? a = Option.none) : ∀ {l vs}, Dens M h l vs → Dens M' h' l vs
  | [], _, x => by simp only [Dens] at x ⊢; exact x
  | d :: l, vs, x => by
    simp only [Dens] at x ⊢
    obtain ⟨v, r, e, hv, hr⟩ := x
    exact ⟨v, r, e, Den.kept k hM hv, Dens.kept k hM hr⟩
end
theorem Den.keep {M h h' d v} (x : Den M h d v) (k : Kept M h h') : Den M h' d v := Den.kept k (fun a m => .inl m) x
theorem Dens.keep {M h h' l vs} (x : Dens M h l vs) (k : Kept M h h') : Dens M h' l vs := Dens.kept k (fun a m => .inl m) x
theorem Den.stays {M} {h h' : Heap} {d v} (x : Den M h d v) (k : Stay h h') : Den M h' d v := x.keep (.of k)
theorem Dens.stays {M} {h h' : Heap} {l vs} (x : Dens M h l vs) (k : Stay h h') : Dens M h' l vs := x.keep (.of k)
theorem Dens.length {M h} : ∀ {l vs}, Dens M h l vs → vs.length = l.length
  | [], _, x => by simp only [Dens] at x; subst x; rfl
  | _ :: _, _, x => by simp only [Dens] at x; obtain ⟨v, r, rfl, _, hr⟩ := x; simp [hr.length]
theorem Dens.append {M h} : ∀ {l l' vs vs'}, Dens M h l vs → Dens M h l' vs' → Dens M h (l ++ l') (vs ++ vs')
  | [], _, _, _, x, y => by simp only [Dens] at x; subst x; exact y
  | _ :: _, _, _, _, x, y => by
    simp only [Dens] at x; obtain ⟨v, r, rfl, hv, hr⟩ := x
    simp only [List.cons_append, Dens]; exact ⟨_, _, rfl, hv, hr.append y⟩
theorem Dens.nil {M h} : Dens M h [] [] := by simp [Dens]
theorem Dens.cons {M h d l v vs} (x : Den M h d v) (y : Dens M h l vs) : Dens M h (d :: l) (v :: vs) := by simp only [Dens]; exact ⟨_, _, rfl, x, y⟩
theorem Dens.get {M h} : ∀ {l vs} {i : Nat} {d}, Dens M h l vs → l[i]? = some d → ∃ v, vs[i]? = some v ∧ Den M h d v
  | _ :: _, _, 0, _, x, e => by simp only [Dens] at x; obtain ⟨v, r, rfl, hv, hr⟩ := x; simp at e; subst e; exact ⟨v, rfl, hv⟩
  | _ :: _, _, i+1, _, x, e => by simp only [Dens] at x; obtain ⟨v, r, rfl, hv, hr⟩ := x; simp at e; simpa using hr.get e
theorem Dens.reverse {M h} : ∀ {l vs}, Dens M h l vs → Dens M h l.reverse vs.reverse
  | [], _, x => by simp only [Dens] at x; subst x; simp [Dens]
  | _ :: _, _, x => by simp only [Dens] at x; obtain ⟨v, r, rfl, hv, hr⟩ := x; simp only [List.reverse_cons]; exact hr.reverse.append (.cons hv .nil)
theorem Den.of_list {M h a vs l} (hM : a ∉ M) (hl : Heap.IsList h a (List.toArray vs)) (hd : Dens M h l vs) : Den M h (.list l) (.ref a) := by
  simp only [Den]; exact ⟨a, vs, rfl, hM, hl, hd⟩
theorem Den.int' {M h i t} : Den M h (.int i) (.int i t) := by simp only [Den]; exact ⟨t, rfl⟩
theorem Den.str' {M h x t} : Den M h (.str x) (.str x t) := by simp only [Den]; exact ⟨t, rfl⟩
theorem Den.bool' {M h b} : Den M h (.bool b) (.bool b) := by simp only [Den]
theorem Den.none' {M h} : Den M h .none .none := by simp only [Den]
theorem Den.ref' {M h a} : Den M h (.ref a) (.ref a) := by simp only [Den]

/-- the frames of the calls under way lie in the heap -/
noncomputable def FrOk (A : Around) (h : Heap) : Prop := ∃ l, A.frames = some l ∧ ∀ env ∈ l, env.scope.kind ≠ .module ∧ ∃ L o, env.frame = some L ∧ h.get? L = some o ∧ nd o = false ∧ Bd.b ≤ L
theorem FrOk.up {A : Around} {h h' : Heap} (x : FrOk A h) (k : Stay h h') : FrOk A h' := by
  obtain ⟨l, e, f⟩ := x
  refine ⟨l, e, fun env m => ?_⟩
  obtain ⟨hk, L, o, e1, e2, e3, e4⟩ := f env m
  obtain ⟨sl, e5, _⟩ := k L o e2
  exact ⟨hk, L, _, e1, e5, e3, e4⟩
structure AOk (n : Nat) (A : Around) (h : Heap) : Prop where
  depth : A.depth + n < recursionLimit
  units : A.units + 10 * n < cLine
  handled : A.handled = none
  frames : FrOk A h
  ne : A.frames ≠ some []
theorem AOk.le {n m A h} (x : AOk n A h) (k : m ≤ n) : AOk m A h := ⟨by have := x.depth; omega, by have := x.units; omega, x.handled, x.frames, x.ne⟩
theorem AOk.up {n A} {h h' : Heap} (x : AOk n A h) (k : Stay h h') : AOk n A h' := ⟨x.depth, x.units, x.handled, x.frames.up k, x.ne⟩
theorem AOk.in1 {n A h} (x : AOk (n + 1) A h) : AOk n A.in1 h := ⟨by have := x.depth; simp; omega, by have := x.units; simp; omega, x.handled, x.frames, x.ne⟩
theorem AOk.deeper {n A env} {h : Heap} {L : Addr} {o : Obj} (x : AOk (n + 1) A h) (hk : env.scope.kind ≠ .module) (hf : env.frame = some L) (ho : h.get? L = some o) (hd : nd o = false) (hL : Bd.b ≤ L) : AOk n (A.deeper env) h :=
  ⟨by have := x.depth; simp [Around.deeper]; omega, by have := x.units; simp [Around.deeper]; omega, x.handled, by
    obtain ⟨l, e, f⟩ := x.frames
    refine ⟨env :: l, by simp [Around.deeper, e], fun env' m => ?_⟩
    rcases List.mem_cons.mp m with rfl | m
    · exact ⟨hk, L, o, hf, ho, hd, hL⟩
    · exact f env' m, by obtain ⟨l, e, _⟩ := x.frames; simp [Around.deeper, e]⟩
theorem AOk.big {n A} {h : Heap} (x : AOk n A h) : Bd.b ≤ h.objs.size := by
  obtain ⟨l, e, f⟩ := x.frames
  cases l with
  | nil => exact absurd e x.ne
  | cons env l =>
    obtain ⟨_, L, o, _, e2, _, e4⟩ := f env (.head _)
    exact Nat.le_of_lt (Nat.lt_of_le_of_lt e4 (Heap.lt_size e2))
theorem AOk.change {n A a} {h h' : Heap} (x : AOk n A h) (hs : Heap.SameBut a h h') (ha : ∀ o, h.get? a = some o → nd o = false → ∃ o', h'.get? a = some o' ∧ nd o' = false) : AOk n A h' := by
  refine ⟨x.depth, x.units, x.handled, ?_, x.ne⟩
  obtain ⟨l, e, f⟩ := x.frames
  refine ⟨l, e, fun env m => ?_⟩
  obtain ⟨hk, L, o, e1, e2, e3, e4⟩ := f env m
  by_cases hL : L = a
  · subst hL; obtain ⟨o', p, q⟩ := ha o e2 e3; exact ⟨hk, L, o', e1, p, q, e4⟩
  · exact ⟨hk, L, o, e1, (hs.2 L hL).trans e2, e3, e4⟩
theorem AOk.beside {n A} {wr : List Addr} {h₁ h h' : Heap} (x₁ : AOk n A h₁) (hw : ∀ b ∈ wr, h₁.get? b = none) (x : AOk n A h) (k : ∀ b o, b ∉ wr → h.get? b = some o → h'.get? b = some o) : AOk n A h' := by
  refine ⟨x.depth, x.units, x.handled, ?_, x.ne⟩
  obtain ⟨l₁, e₁, f₁⟩ := x₁.frames
  obtain ⟨l, e, f⟩ := x.frames
  rw [e₁] at e; cases e
  refine ⟨l₁, e₁, fun env m => ?_⟩
  obtain ⟨hk, L, o, e1, e2, e3, e4⟩ := f env m
  obtain ⟨_, L', o', e1', e2', _⟩ := f₁ env m
  rw [e1] at e1'; cases e1'
  exact ⟨hk, L, o, e1, k L o (fun q => by rw [hw L q] at e2'; cases e2') e2, e3, e4⟩

/-- `s'` is `s` with a heap that only grew, and `P` of the new heap -/
noncomputable def Then (s : Shared) (P : Heap → Prop) (s' : Shared) : Prop := ∃ h' tk, s' = { s with heap := h', toks := tk } ∧ Stay s.heap h' ∧ P h'
theorem Then.mk {s : Shared} {P : Heap → Prop} {h' : Heap} {tk : Nat} (k : Stay s.heap h') (p : P h') : Then s P { s with heap := h', toks := tk } := ⟨h', tk, rfl, k, p⟩
theorem stays_refl (h : Heap) : Stay h h := fun _ _ e => .of e
theorem stays_trans {h h' h'' : Heap} (x : Stay h h') (y : Stay h' h'') : Stay h h'' := fun b o e => (x b o e).trans fun o e => y b o e
theorem Then.here {s : Shared} {P : Heap → Prop} (p : P s.heap) : Then s P s := ⟨s.heap, s.toks, rfl, stays_refl _, p⟩
theorem Then.tok {s : Shared} {P : Heap → Prop} {tk : Nat} (p : P s.heap) : Then s P { s with toks := tk } := ⟨s.heap, tk, rfl, stays_refl _, p⟩
noncomputable def NoE : Value → Shared → Prop := fun _ _ => False

/-- from every state whose heap extends `h` the tree ends, the heap only grows, and `P` holds of what it gives -/
noncomputable def Ex {α : Type} (w : World) (n : Nat) (h : Heap) (t : Sem α) (P : α → Heap → Prop) : Prop :=
  ∀ A s, AOk n A s.heap → Stay h s.heap → wpAny (model prog w) A t (fun v s' => Then s (P v) s') NoE s
noncomputable def Cx (w : World) (n : Nat) (h : Heap) (c : Code) (P : Value → Heap → Prop) : Prop :=
  ∀ A s, AOk n A s.heap → Stay h s.heap → codeAny (model prog w) A c (fun r s' => ∃ v, r = .ok (.ret v) ∧ Then s (P v) s') s


section
variable {α β : Type} {w : World} {n : Nat} {h : Heap}
theorem Ex.up {t : Sem α} {P : α → Heap → Prop} {h' : Heap} (x : Ex w n h t P) (k : Stay h h') : Ex w n h' t P := fun A s a k' => x A s a (stays_trans k k')
theorem Ex.post {t : Sem α} {P P' : α → Heap → Prop} (x : Ex w n h t P) (f : ∀ v h', Stay h h' → P v h' → P' v h') : Ex w n h t P' := fun A s a k =>
  wpAny_mono (x A s a k) (fun _ _ ⟨h', tk, e, k', p⟩ => ⟨h', tk, e, k', f _ _ (stays_trans k k') p⟩) fun _ _ x => x
end
end Mine
end
section
open PySem PySem.W PySem.Calls PyProof.Rows
set_option maxRecDepth 100000
set_option maxHeartbeats 4000000
namespace Mine
variable [Bd]

mutual
noncomputable def D.eqb : D → D → Bool
  | .int a, .int b => a == b
  | .str a, .str b => a == b
  | .bool a, .bool b => a == b
  | .none, .none => true
  | .ref a, .ref b => a == b
  | .list l, .list m => D.eqbs l m
  | _, _ => false
noncomputable def D.eqbs : List D → List D → Bool
  | [], [] => true
  | a :: l, b :: m => D.eqb a b && D.eqbs l m
  | _, _ => false
end

inductive Ty where
  | int | str | bool | list (t : Ty)
noncomputable def Ty.depth : Ty → Nat
  | .list t => t.depth + 1
  | _ => 0
noncomputable def HasTy : Ty → D → Prop
  | .int, .int _ => True
  | .str, .str _ => True
  | .bool, .bool _ => True
  | .list t, .list l => ∀ x ∈ l, HasTy t x
  | _, _ => False

noncomputable def at2 (l m : List D) (j : Nat) : Bool := match l[j]?, m[j]? with | some a, some b => D.eqb a b | _, _ => false
theorem at2_of {l m : List D} {j : Nat} (h1 : j < l.length) (h2 : j < m.length) : at2 l m j = D.eqb l[j] m[j] := by
  unfold at2; rw [List.getElem?_eq_getElem h1, List.getElem?_eq_getElem h2]
theorem eqbs_all : ∀ {l m : List D}, l.length = m.length → D.eqbs l m = (List.range l.length).all (at2 l m)
  | [], [], _ => by simp [D.eqbs]
  | a :: l, b :: m, e => by
    have e' : l.length = m.length := by simpa using e
    rw [D.eqbs, eqbs_all e', List.length_cons, List.range_succ_eq_map, List.all_cons, List.all_map]
    have q : ((at2 (a :: l) (b :: m)) ∘ Nat.succ) = at2 l m := by funext j; simp [at2]
    rw [q]; simp [at2]
theorem eqbs_ne : ∀ {l m : List D}, l.length ≠ m.length → D.eqbs l m = false
  | [], [], e => absurd rfl e
  | [], _ :: _, _ => by simp [D.eqbs]
  | _ :: _, [], _ => by simp [D.eqbs]
  | a :: l, b :: m, e => by rw [D.eqbs, eqbs_ne (l := l) (m := m) (by simpa using e), Bool.and_false]

mutual
theorem eqb_iff : ∀ {a b : D}, D.eqb a b = true ↔ a = b
  | .int a, b => by cases b <;> simp [D.eqb]
  | .str a, b => by cases b <;> simp [D.eqb]
  | .bool a, b => by cases b <;> simp [D.eqb]
  | .none, b => by cases b <;> simp [D.eqb]
  | .ref a, b => by cases b <;> simp [D.eqb]
  | .list l, b => by cases b <;> simp [D.eqb, eqbs_iff]
theorem eqbs_iff : ∀ {l m : List D}, D.eqbs l m = true ↔ l = m
  | [], m => by cases m <;> simp [D.eqbs]
  | a :: l, m => by cases m <;> simp [D.eqbs, eqb_iff, eqbs_iff]
end

theorem den_inj : ∀ (t : Ty) {M : List Addr} {h : Heap} {d e : D} {v : Value}, HasTy t d → HasTy t e → Den M h d v → Den M h e v → d = e := by
  intro t
  induction t with
  | int => intro M h d e v a b x y; cases d <;> cases e <;> simp_all [HasTy, Den]; obtain ⟨_, rfl⟩ := x; obtain ⟨_, y⟩ := y; cases y; rfl
  | str => intro M h d e v a b x y; cases d <;> cases e <;> simp_all [HasTy, Den]; obtain ⟨_, rfl⟩ := x; obtain ⟨_, y⟩ := y; cases y; rfl
  | bool => intro M h d e v a b x y; cases d <;> cases e <;> simp_all [HasTy, Den]
  | list t ih =>
    intro M h d e v a b x y
    cases d <;> simp only [HasTy] at a
    cases e <;> simp only [HasTy] at b
    rename_i l m
    simp only [Den] at x y
    obtain ⟨p, vs, rfl, _, il, dl⟩ := x
    obtain ⟨q, us, e, _, im, dm⟩ := y
    cases e
    have : vs = us := by
      obtain ⟨o, ho, _, n, hd⟩ := il
      obtain ⟨o', ho', _, n', hd'⟩ := im
      rw [ho] at ho'; cases ho'
      rw [hd] at hd'; injection hd' with e1 _
      simpa using e1
    subst this
    congr 1
    clear il im
    induction l generalizing m vs with
    | nil => cases m with
      | nil => rfl
      | cons _ _ => simp only [Dens] at dl dm; subst dl; obtain ⟨_, _, e, _⟩ := dm; cases e
    | cons d l ihl => cases m with
      | nil => simp only [Dens] at dl dm; subst dm; obtain ⟨_, _, e, _⟩ := dl; cases e
      | cons e m =>
        simp only [Dens] at dl dm
        obtain ⟨v1, r1, rfl, hv, hr⟩ := dl
        obtain ⟨v2, r2, ee, hv', hr'⟩ := dm
        cases ee
        rw [ih (a d (.head _)) (b e (.head _)) hv hv', ihl (fun x hx => a x (.tail _ hx)) m (fun x hx => b x (.tail _ hx)) r1 hr hr']

open PySem.SeqAt in
theorem eqAt_of : ∀ (ty : Ty) {A : Around} {s : Shared} {M : List Addr} {d e : D} {v u : Value}, HasTy ty d → HasTy ty e → Den M s.heap d v → Den M s.heap e u → A.units + ty.depth < cLine → EqAt A s v u (D.eqb d e)
  | .int, A, s, M, .int a, .int b, v, u, _, _, x, y, _ => by
    simp only [Den] at x y; obtain ⟨t, rfl⟩ := x; obtain ⟨t', rfl⟩ := y
    exact EqAt.int_int a t b t'
  | .str, A, s, M, .str a, .str b, v, u, _, _, x, y, _ => by
    simp only [Den] at x y; obtain ⟨t, rfl⟩ := x; obtain ⟨t', rfl⟩ := y
    exact EqAt.str_str a t b t'
  | .bool, A, s, M, .bool a, .bool b, v, u, _, _, x, y, _ => by
    simp only [Den] at x y; subst x; subst y
    exact EqAt.bool_bool a b
  | .list t, A, s, M, .list l, .list m, v, u, hl, hm, x, y, hu => by
    simp only [HasTy] at hl hm
    simp only [Ty.depth] at hu
    by_cases hvu : v = u
    · subst hvu
      have : D.eqb (.list l) (.list m) = true := by
        exact eqb_iff.mpr (den_inj (.list t) (by simpa only [HasTy] using hl) (by simpa only [HasTy] using hm) x y)
      rw [this]
      exact EqAt.same v
    · simp only [Den] at x y
      obtain ⟨p, vs, rfl, _, il, dl⟩ := x
      obtain ⟨q, us, rfl, _, im, dm⟩ := y
      have hne : p ≠ q := fun e => hvu (by rw [e])
      have hl1 := dl.length
      have hm1 := dm.length
      by_cases hsz : l.length = m.length
      · have he : D.eqb (.list l) (.list m) = (List.range vs.toArray.size).all (at2 l m) := by
          rw [D.eqb, eqbs_all hsz, List.size_toArray, hl1]
        rw [he]
        refine EqAt.of_refs hne (RcAt.lists il im (by simp [hl1, hm1, hsz]) (by omega) fun j h1 h2 => ?_)
        have j1 : j < l.length := by simpa [hl1] using h1
        have j2 : j < m.length := by omega
        obtain ⟨v1, e1, q1⟩ := dl.get (List.getElem?_eq_getElem j1)
        obtain ⟨v2, e2, q2⟩ := dm.get (List.getElem?_eq_getElem j2)
        have g1 : vs.toArray[j] = v1 := by
          have : vs.toArray[j]? = some v1 := by simpa using e1
          rw [Array.getElem?_eq_getElem h1] at this; exact Option.some.inj this
        have g2 : us.toArray[j] = v2 := by
          have : us.toArray[j]? = some v2 := by simpa using e2
          rw [Array.getElem?_eq_getElem h2] at this; exact Option.some.inj this
        rw [g1, g2, at2_of j1 j2]
        exact eqAt_of t (hl _ (List.getElem_mem j1)) (hm _ (List.getElem_mem j2)) q1 q2 (by simp; omega)
      · rw [D.eqb, eqbs_ne hsz]
        exact EqAt.of_refs hne (RcAt.lists_lengths il im (by simp [hl1, hm1, hsz]) (by omega))
  | .int, _, _, _, .str _, _, _, _, h, _, _, _, _ | .int, _, _, _, .bool _, _, _, _, h, _, _, _, _ | .int, _, _, _, .none, _, _, _, h, _, _, _, _ | .int, _, _, _, .ref _, _, _, _, h, _, _, _, _ | .int, _, _, _, .list _, _, _, _, h, _, _, _, _ => by simp [HasTy] at h
  | .str, _, _, _, .int _, _, _, _, h, _, _, _, _ | .str, _, _, _, .bool _, _, _, _, h, _, _, _, _ | .str, _, _, _, .none, _, _, _, h, _, _, _, _ | .str, _, _, _, .ref _, _, _, _, h, _, _, _, _ | .str, _, _, _, .list _, _, _, _, h, _, _, _, _ => by simp [HasTy] at h
  | .bool, _, _, _, .int _, _, _, _, h, _, _, _, _ | .bool, _, _, _, .str _, _, _, _, h, _, _, _, _ | .bool, _, _, _, .none, _, _, _, h, _, _, _, _ | .bool, _, _, _, .ref _, _, _, _, h, _, _, _, _ | .bool, _, _, _, .list _, _, _, _, h, _, _, _, _ => by simp [HasTy] at h
  | .list _, _, _, _, .int _, _, _, _, h, _, _, _, _ | .list _, _, _, _, .str _, _, _, _, h, _, _, _, _ | .list _, _, _, _, .bool _, _, _, _, h, _, _, _, _ | .list _, _, _, _, .none, _, _, _, h, _, _, _, _ | .list _, _, _, _, .ref _, _, _, _, h, _, _, _, _ => by simp [HasTy] at h
  | .int, _, _, _, .int _, .str _, _, _, _, h, _, _, _ | .int, _, _, _, .int _, .bool _, _, _, _, h, _, _, _ | .int, _, _, _, .int _, .none, _, _, _, h, _, _, _ | .int, _, _, _, .int _, .ref _, _, _, _, h, _, _, _ | .int, _, _, _, .int _, .list _, _, _, _, h, _, _, _ => by simp [HasTy] at h
  | .str, _, _, _, .str _, .int _, _, _, _, h, _, _, _ | .str, _, _, _, .str _, .bool _, _, _, _, h, _, _, _ | .str, _, _, _, .str _, .none, _, _, _, h, _, _, _ | .str, _, _, _, .str _, .ref _, _, _, _, h, _, _, _ | .str, _, _, _, .str _, .list _, _, _, _, h, _, _, _ => by simp [HasTy] at h
  | .bool, _, _, _, .bool _, .int _, _, _, _, h, _, _, _ | .bool, _, _, _, .bool _, .str _, _, _, _, h, _, _, _ | .bool, _, _, _, .bool _, .none, _, _, _, h, _, _, _ | .bool, _, _, _, .bool _, .ref _, _, _, _, h, _, _, _ | .bool, _, _, _, .bool _, .list _, _, _, _, h, _, _, _ => by simp [HasTy] at h
  | .list _, _, _, _, .list _, .int _, _, _, _, h, _, _, _ | .list _, _, _, _, .list _, .str _, _, _, _, h, _, _, _ | .list _, _, _, _, .list _, .bool _, _, _, _, h, _, _, _ | .list _, _, _, _, .list _, .none, _, _, _, h, _, _, _ | .list _, _, _, _, .list _, .ref _, _, _, _, h, _, _, _ => by simp [HasTy] at h
end Mine
end
section
open PySem PySem.W PySem.Calls PyProof.Rows
set_option maxRecDepth 100000
set_option maxHeartbeats 4000000
namespace Mine
variable [Bd]

theorem Ex.run {α : Type} {w n h} {t : Sem α} {P : α → Heap → Prop} {A s} {Q : α → Shared → Prop} {E : Value → Shared → Prop} (x : Ex w n h t P) (a : AOk n A s.heap) (k : Stay h s.heap)
    (f : ∀ v h' tk, Stay s.heap h' → AOk n A h' → P v h' → Q v { s with heap := h', toks := tk }) : wpAny (model prog w) A t Q E s :=
  wpAny_mono (x A s a k) (fun v s' ⟨h', tk, e, k', p⟩ => e ▸ f v h' tk k' (a.up k') p) fun _ _ e => e.elim
theorem Cx.run {w n h c} {P : Value → Heap → Prop} {A s} {R : Result → Shared → Prop} (x : Cx w n h c P) (a : AOk n A s.heap) (k : Stay h s.heap)
    (f : ∀ v h' tk, Stay s.heap h' → AOk n A h' → P v h' → R (.ok (.ret v)) { s with heap := h', toks := tk }) : codeAny (model prog w) A c R s :=
  codeAny_mono (x A s a k) fun r s' ⟨v, e, h', tk, e', k', p⟩ => by subst e; subst e'; exact f v h' tk k' (a.up k') p
theorem Ex.call {w n h f} {pos : List Value} {P : Value → Heap → Prop} (x : Cx w n h (.call f ⟨pos, []⟩) P) : Ex w n h (PySem.call f pos []) P := fun A s a k =>
  wpAny_call (x.run a k fun v h' tk k' a p => Then.mk k' p)

noncomputable def MOk (M : List Addr) (h : Heap) : Prop := ∀ a ∈ M, ∃ o, h.get? a = some o
theorem MOk.stays {M} {h h' : Heap} (x : MOk M h) (k : Stay h h') : MOk M h' := fun a m => k.some (x a m)
theorem MOk.fresh {M} {h : Heap} (x : MOk M h) : h.objs.size ∉ M := fun m => let ⟨o, e⟩ := x _ m; absurd (Heap.lt_size e) (Nat.lt_irrefl _)
theorem MOk.nil {h : Heap} : MOk [] h := fun _ m => nomatch m

/-- the frame's name `x` stands for `v` -/
noncomputable def VarAt (env : Env) (h : Heap) (x : Str) (v : Value) : Prop := match env.kindOf x with
  | some .local => ∃ mL, h.Ns env.locals mL ∧ mL x = some v
  | some .cell => ∃ c, env.cells.lookup x = some c ∧ h.IsCell c (some v)
  | some .free => ∃ c, env.cells.lookup x = some c ∧ h.IsCell c (some v)
  | _ => True
theorem VarAt.stays {env} {h h' : Heap} {x v} (y : VarAt env h x v) (k : Stay h h') : VarAt env h' x v := by
  unfold VarAt at y ⊢
  split at y
  · obtain ⟨mL, a, b⟩ := y; exact ⟨mL, ns_same a (k _), b⟩
  · obtain ⟨c, a, b⟩ := y; exact ⟨c, a, cell_same b (k _)⟩
  · obtain ⟨c, a, b⟩ := y; exact ⟨c, a, cell_same b (k _)⟩
  · trivial
/-- the frame's names stand for data -/
structure FD (env : Env) (M : List Addr) (h : Heap) (ρ : List (Str × D)) : Prop where
  mok : MOk M h
  kind : env.scope.kind = .function
  var : ∀ x d, ρ.lookup x = some d → ∃ v, VarAt env h x v ∧ Den M h d v
theorem FD.stays {env M} {h h' : Heap} {ρ} (x : FD env M h ρ) (k : Stay h h') : FD env M h' ρ :=
  ⟨x.mok.stays k, x.kind, fun y d e => let ⟨v, e1, e2⟩ := x.var y d e; ⟨v, e1.stays k, e2.stays k⟩⟩

noncomputable abbrev Ev (w : World) (n : Nat) (env : Env) (M : List Addr) (h : Heap) (e : Expr) (d : D) : Prop := Ex w n h (eval e env) (fun v h' => Den M h' d v)
noncomputable abbrev Tr (w : World) (n : Nat) (env : Env) (h : Heap) (e : Expr) (b : Bool) : Prop := Ex w n h (isTrue e env (eval e env)) (fun c _ => c = b)

/-- what the text's top gives -/
structure TR (w : World) (h : Heap) : Prop where
  K : Frag.In (K39 w.params) h
  T : ∃ mg mb, TopRead VW LO mg mb h
theorem plain_frag (w : World) : ((K39 w.params).all fun p => Nat.blt p.1 142) = true := by kernel_rfl
theorem lt_of_blt {a b : Nat} (h : Nat.blt a b = true) : a < b := Nat.le_of_ble_eq_true h
theorem TR.stays {w} {h h' : Heap} (x : TR w h) (k : Stay h h') : TR w h' := by
  refine ⟨fun a o e => (k a o (x.K a o e)).get (.inr ?_), ?_⟩
  · have mem : ∀ {l : Frag}, l.lookup a = some o → (a, o) ∈ l := by
      intro l
      induction l with
      | nil => intro e; cases e
      | cons q l ih =>
        intro e
        obtain ⟨n, p⟩ := q
        rw [List.lookup_cons] at e
        by_cases hn : (a == n) = true
        · rw [hn] at e; have := beq_iff_eq.mp hn; subst this; cases e; exact .head _
        · simp only [Bool.not_eq_true] at hn; rw [hn] at e; exact .tail _ (ih e)
    exact Nat.lt_of_lt_of_le (lt_of_blt (List.all_eq_true.mp (plain_frag w) _ (mem e))) Bd.le
  · obtain ⟨mg, mb, t⟩ := x.T
    exact ⟨mg, mb, ⟨ns_same t.g (k _), ns_same t.b (k _), let ⟨mc, a, b⟩ := t.nolimit; ⟨mc, ns_same a (k _), b⟩, t.builtins, t.free⟩⟩

section
variable {w : World} {n : Nat} {env : Env} {M : List Addr} {h : Heap} {ρ : List (Str × D)} {x : Str} {pos : Pos} {d : D}

theorem ev_local (F : FD env M h ρ) (hd : ρ.lookup x = some d) (hk : env.kindOf x = some .local := by rfl) (hb : (x == ("__debug__" : Str)) = false := by decide) : Ev w n env M h (.Name x pos) d := fun A s a k => by
  have F' := F.stays k
  obtain ⟨v, e1, e2⟩ := F'.var x d hd
  simp only [VarAt, hk] at e1
  obtain ⟨mL, hns, hm⟩ := e1
  exact wpAny_Name (wpAny_loadName_local F'.kind hk hns hm (Then.here e2)) hb
theorem ev_cell (F : FD env M h ρ) (hd : ρ.lookup x = some d) (hk : env.kindOf x = some .cell := by rfl) (hb : (x == ("__debug__" : Str)) = false := by decide) : Ev w n env M h (.Name x pos) d := fun A s a k => by
  have F' := F.stays k
  obtain ⟨v, e1, e2⟩ := F'.var x d hd
  simp only [VarAt, hk] at e1
  obtain ⟨c, hc, hv⟩ := e1
  exact wpAny_Name (wpAny_loadName_cell F'.kind hk hc hv (Then.here e2)) hb
theorem ev_free (F : FD env M h ρ) (hd : ρ.lookup x = some d) (hk : env.kindOf x = some .free := by rfl) (hb : (x == ("__debug__" : Str)) = false := by decide)
    (hn : (x == ("__classdict__" : Str)) = false := by decide) : Ev w n env M h (.Name x pos) d := fun A s a k => by
  have F' := F.stays k
  obtain ⟨v, e1, e2⟩ := F'.var x d hd
  simp only [VarAt, hk] at e1
  obtain ⟨c, hc, hv⟩ := e1
  exact wpAny_Name (wpAny_loadName_free F'.kind hk hc hv (Then.here e2) hn) hb
/-- a global of the text -/
theorem ex_global {v : Value} (X : TR w h) (e : nsIn (K39 w.params) mainGlobals x = some (some v)) (hkind : env.scope.kind = .function := by rfl) (hk : env.kindOf x = some .globalImplicit := by rfl)
    (hg : env.globals = mainGlobals := by rfl) (hb : (x == ("__debug__" : Str)) = false := by decide) : Ex w n h (eval (.Name x pos) env) (fun u _ => u = v) := fun A s a k => by
  obtain ⟨K, mg, mb, T⟩ := X.stays k
  exact Name_function_global hkind hk (loadGlobal_global (hg ▸ T.g) (mg_of K T.g e) (Then.here rfl)) hb
theorem ex_builtin {v : Value} (X : TR w h) (e : nsIn (K39 w.params) mainGlobals x = some none) (hv : bootBuiltins x = some v) (hn : x ≠ "__name__" := by decide) (hkind : env.scope.kind = .function := by rfl) (hk : env.kindOf x = some .globalImplicit := by rfl)
    (hg : env.globals = mainGlobals := by rfl) (hbn : env.builtins = builtinsNs := by rfl) (hb : (x == ("__debug__" : Str)) = false := by decide) : Ex w n h (eval (.Name x pos) env) (fun u _ => u = v) := fun A s a k => by
  obtain ⟨K, mg, mb, T⟩ := X.stays k
  exact Name_function_global hkind hk (loadGlobal_builtin (hg ▸ T.g) (mg_none_of K T.g e) (hbn ▸ T.b) ((T.builtins x hn).trans hv) (Then.here rfl)) hb
theorem ev_global {a : Addr} (X : TR w h) (e : nsIn (K39 w.params) mainGlobals x = some (some (.ref a))) (hkind : env.scope.kind = .function := by rfl) (hk : env.kindOf x = some .globalImplicit := by rfl)
    (hg : env.globals = mainGlobals := by rfl) (hb : (x == ("__debug__" : Str)) = false := by decide) : Ev w n env M h (.Name x pos) (.ref a) :=
  (ex_global X e hkind hk hg hb).post fun _ _ _ p => by subst p; exact Den.ref'

theorem ev_int {i : Int} {k : Nat} : Ev w n env M h (.Constant (.int i) k pos) (.int i) := fun A s a k => wpAny_Constant_int (Then.tok Den.int')
theorem ev_str {y : Str} {k : Nat} : Ev w n env M h (.Constant (.str y) k pos) (.str y) := fun A s a k => Calls.Constant_str (Then.tok Den.str')
theorem ev_none {k : Nat} : Ev w n env M h (.Constant .none k pos) .none := fun A s a k => wpAny_Constant_none (Then.here Den.none')
theorem ev_bool {b : Bool} {k : Nat} : Ev w n env M h (.Constant (.bool b) k pos) (.bool b) := fun A s a k => by
  rw [eval_Constant]; exact wpAny_pure (Then.here Den.bool')

/-- a binary operation on data -/
noncomputable def Bin (w : World) (n : Nat) (M : List Addr) (op : Operator) (d1 d2 d : D) : Prop := ∀ h v1 v2, MOk M h → Den M h d1 v1 → Den M h d2 v2 → Ex w n h (binaryOp op v1 v2) (fun v h' => Den M h' d v)
theorem ev_bin {l r : Expr} {op : Operator} {d1 d2 : D} (F : MOk M h) (x : Ev w n env M h l d1) (y : Ev w n env M h r d2) (o : Bin w n M op d1 d2 d) : Ev w n env M h (.BinOp l op r pos) d := fun A s a k =>
  wpAny_BinOp (x.run a k fun v1 h1 t1 k1 a p1 => y.run a (stays_trans k k1) fun v2 h2 t2 k2 a p2 =>
    (o h2 v1 v2 (F.stays (stays_trans k (stays_trans k1 k2))) (p1.stays k2) p2).run a (stays_refl _) fun v h3 t3 k3 a p3 => Then.mk (stays_trans k1 (stays_trans k2 k3)) p3)

theorem bin_add {i j : Int} : Bin w n M .Add (.int i) (.int j) (.int (i + j)) := fun h v1 v2 _ x y A s a k => by
  simp only [Den] at x y; obtain ⟨t, rfl⟩ := x; obtain ⟨u, rfl⟩ := y; exact wpAny_add_int (Then.tok Den.int')
theorem bin_sub {i j : Int} : Bin w n M .Sub (.int i) (.int j) (.int (i - j)) := fun h v1 v2 _ x y A s a k => by
  simp only [Den] at x y; obtain ⟨t, rfl⟩ := x; obtain ⟨u, rfl⟩ := y; exact sub_int (Then.tok Den.int')
theorem bin_mod {i j : Int} (hj : j ≠ 0) : Bin w n M .Mod (.int i) (.int j) (.int (i.fmod j)) := fun h v1 v2 _ x y A s a k => by
  simp only [Den] at x y; obtain ⟨t, rfl⟩ := x; obtain ⟨u, rfl⟩ := y; exact mod_int' hj (Then.tok Den.int')
theorem bin_div {i j : Int} (hj : 0 < j) (hj' : j < 2 ^ 63) : Bin w n M .FloorDiv (.int i) (.int j) (.int (i.fdiv j)) := fun h v1 v2 _ x y A s a k => by
  simp only [Den] at x y; obtain ⟨t, rfl⟩ := x; obtain ⟨u, rfl⟩ := y
  refine floordiv_int (by omega) (Then.tok Den.int') (.inl ?_)
  unfold Builtin.divisionGoesByPylong
  dsimp only
  have h1 : j.natAbs < 2 ^ 63 := by omega
  have h2 : j.natAbs.log2 < 63 := (Nat.log2_lt (by omega)).mpr h1
  have h3 : ¬ ((if (j == 0) = true then 0 else j.natAbs.log2 / 30 + 1) > 300) := by split <;> omega
  rw [decide_eq_false h3, Bool.false_and]
theorem bin_pow {i j : Int} (hj : 0 ≤ j) (hj' : j ≤ 1000000) (hi : i.natAbs < 2 ^ 64) : Bin w n M .Pow (.int i) (.int j) (.int (i ^ j.toNat)) := fun h v1 v2 _ x y A s a k => by
  simp only [Den] at x y; obtain ⟨t, rfl⟩ := x; obtain ⟨u, rfl⟩ := y; exact pow_int_small hj hj' hi (Then.tok Den.int')
theorem bin_cat {p q : Str} (hs : p.length + q.length ≤ sizeLine) : Bin w n M .Add (.str p) (.str q) (.str (p ++ q)) := fun h v1 v2 _ x y A s a k => by
  simp only [Den] at x y; obtain ⟨t, rfl⟩ := x; obtain ⟨u, rfl⟩ := y; exact add_str (fun _ _ => Then.tok Den.str') hs
theorem push_stays (h : Heap) (o : Obj) : Stay h (h.push o) := .of fun _ _ e => Heap.get?_push_of_some _ e
theorem isList_push {h : Heap} {xs : List Value} : (h.push { cls := .type "list", data := .seq xs.toArray }).IsList h.objs.size xs.toArray := ⟨_, Heap.get?_push_size _ rfl, rfl, _, rfl⟩
theorem bin_addl {l m : List D} (hs : l.length + m.length ≤ sizeLine) : Bin w n M .Add (.list l) (.list m) (.list (l ++ m)) := fun h v1 v2 hM x y A s a k => by
  have x := x.stays k
  have y := y.stays k
  simp only [Den] at x y
  obtain ⟨p, vs, rfl, _, hl, dl⟩ := x
  obtain ⟨q, us, rfl, _, hm, dm⟩ := y
  obtain ⟨⟨cls, dd, data, sl⟩, ho, hc, nn, hd⟩ := id hl
  obtain ⟨⟨cls2, dd2, data2, sl2⟩, ho2, hc2, n2, hd2⟩ := id hm
  simp only at hc hd hc2 hd2
  subst hc hd hc2 hd2
  have e : vs.toArray ++ us.toArray = (vs ++ us).toArray := by simp
  refine concat_meets ⟨_, ho, rfl⟩ ⟨_, ho2, rfl⟩ noFill_list_add seq_list_add PySem.F.slot_list_add PySem.F.entry_list_add (PySem.F.args_list_add_2 _ _) (list_addW p q vs.toArray us.toArray nn n2 dd dd2 sl sl2 (by simpa [dl.length, dm.length] using hs)) ⟨ho, ho2, ?_⟩
  rw [e]
  exact Then.mk (push_stays _ _) (.of_list (hM.stays k).fresh isList_push ((dl.append dm).stays (push_stays _ _)))

/-- a comparison on data -/
noncomputable def Cp (w : World) (n : Nat) (M : List Addr) (op : CmpOp) (d1 d2 : D) (b : Bool) : Prop := ∀ h v1 v2, Den M h d1 v1 → Den M h d2 v2 → Ex w n h (compareOp op v1 v2) (fun v _ => v = .bool b)
theorem ev_cmp {l r : Expr} {op : CmpOp} {d1 d2 : D} {b : Bool} (x : Ev w n env M h l d1) (y : Ev w n env M h r d2) (o : Cp w n M op d1 d2 b) (hm : behindInMarks op r = false := by with_unfolding_all rfl) :
    Ev w n env M h (.Compare l [op] [r] pos) (.bool b) := fun A s a k =>
  wpAny_Compare1 (x.run a k fun v1 h1 t1 k1 a p1 => y.run a (stays_trans k k1) fun v2 h2 t2 k2 a p2 =>
    (o h2 v1 v2 (p1.stays k2) p2).run a (stays_refl _) fun v h3 t3 k3 a p3 => Then.mk (stays_trans k1 (stays_trans k2 k3)) (by rw [p3]; exact Den.bool')) hm
theorem tr_cmp {l r : Expr} {op : CmpOp} {d1 d2 : D} {b : Bool} (x : Ev w n env M h l d1) (y : Ev w n env M h r d2) (o : Cp w n M op d1 d2 b) (hm : behindInMarks op r = false := by with_unfolding_all rfl) :
    Tr w n env h (.Compare l [op] [r] pos) b := fun A s a k =>
  wpAny_isTrue_Compare1 (x.run a k fun v1 h1 t1 k1 a p1 => y.run a (stays_trans k k1) fun v2 h2 t2 k2 a p2 =>
    (o h2 v1 v2 (p1.stays k2) p2).run a (stays_refl _) fun v h3 t3 k3 a p3 => by
      subst p3; exact wpAny_truthy_bool (Then.mk (stays_trans k1 (stays_trans k2 k3)) rfl)) hm
theorem cp_lt {i j : Int} : Cp w n M .Lt (.int i) (.int j) (decide (i < j)) := fun h v1 v2 x y A s a k => by
  simp only [Den] at x y; obtain ⟨t, rfl⟩ := x; obtain ⟨u, rfl⟩ := y; exact wpAny_lt_int (Then.here rfl)
theorem cp_eqi {i j : Int} : Cp w n M .Eq (.int i) (.int j) (i == j) := fun h v1 v2 x y A s a k => by
  simp only [Den] at x y; obtain ⟨t, rfl⟩ := x; obtain ⟨u, rfl⟩ := y; exact eq_int (Then.here rfl)
theorem cp_nei {i j : Int} : Cp w n M .NotEq (.int i) (.int j) (i != j) := fun h v1 v2 x y A s a k => by
  simp only [Den] at x y; obtain ⟨t, rfl⟩ := x; obtain ⟨u, rfl⟩ := y; exact ne_int (Then.here rfl)
theorem cp_eqs {p q : Str} : Cp w n M .Eq (.str p) (.str q) (p == q) := fun h v1 v2 x y A s a k => by
  simp only [Den] at x y; obtain ⟨t, rfl⟩ := x; obtain ⟨u, rfl⟩ := y; exact eq_str (Then.here rfl)
theorem cp_nes {p q : Str} : Cp w n M .NotEq (.str p) (.str q) (p != q) := fun h v1 v2 x y A s a k => by
  simp only [Den] at x y; obtain ⟨t, rfl⟩ := x; obtain ⟨u, rfl⟩ := y; exact PyProof.Rows.ne_str (Then.here rfl)
theorem cp_ins {p q : Str} : Cp w n M .In (.str p) (.str q) (!(Builtin.Str.occurrences q p 0 q.length 1).isEmpty) := fun h v1 v2 x y A s a k => by
  simp only [Den] at x y; obtain ⟨t, rfl⟩ := x; obtain ⟨u, rfl⟩ := y; exact in_str (Then.here rfl)
theorem units_ok1 {ty : Ty} {A : Around} {h : Heap} (a : AOk n A h) (hn : 1 ≤ n) (hd : ty.depth ≤ 8) : A.in1.units + ty.depth < cLine := by have := a.units; simp only [Around.in1]; omega
theorem cp_eql (ty : Ty) {p q : List D} (hp : HasTy (.list ty) (.list p)) (hq : HasTy (.list ty) (.list q)) (hn : 1 ≤ n := by omega) (hd : ty.depth + 1 ≤ 8 := by decide) :
    Cp w n M .Eq (.list p) (.list q) (D.eqbs p q) := fun h v1 v2 x y A s a k => by
  have x := x.stays k
  have y := y.stays k
  simp only [Den] at x y
  obtain ⟨r1, vs, rfl, _, il, dl⟩ := x
  obtain ⟨r2, us, rfl, _, im, dm⟩ := y
  have hl1 := dl.length
  have hm1 := dm.length
  simp only [HasTy] at hp hq
  have hu : A.units < cLine := by have := a.units; omega
  by_cases hsz : p.length = q.length
  · have he : D.eqbs p q = (List.range vs.toArray.size).all (at2 p q) := by
      rw [eqbs_all hsz, List.size_toArray, hl1]
    refine SeqAt.eq_listAt il im (by simp [hl1, hm1, hsz]) hu (fun j h1 h2 => ?_) (Then.here (by rw [he]))
    have j1 : j < p.length := by simpa [hl1] using h1
    have j2 : j < q.length := by omega
    obtain ⟨v1, e1, q1⟩ := dl.get (List.getElem?_eq_getElem j1)
    obtain ⟨v2, e2, q2⟩ := dm.get (List.getElem?_eq_getElem j2)
    have g1 : vs.toArray[j] = v1 := by
      have : vs.toArray[j]? = some v1 := by simpa using e1
      rw [Array.getElem?_eq_getElem h1] at this; exact Option.some.inj this
    have g2 : us.toArray[j] = v2 := by
      have : us.toArray[j]? = some v2 := by simpa using e2
      rw [Array.getElem?_eq_getElem h2] at this; exact Option.some.inj this
    rw [g1, g2, at2_of j1 j2]
    exact eqAt_of ty (hp _ (List.getElem_mem j1)) (hq _ (List.getElem_mem j2)) q1 q2 (units_ok1 a hn (by omega))
  · refine SeqAt.eq_list_lengthsAt il im (by simp [hl1, hm1, hsz]) hu (Then.here (by rw [eqbs_ne hsz]))
theorem cp_nel (ty : Ty) {p q : List D} (hp : HasTy (.list ty) (.list p)) (hq : HasTy (.list ty) (.list q)) (hn : 1 ≤ n := by omega) (hd : ty.depth + 1 ≤ 8 := by decide) :
    Cp w n M .NotEq (.list p) (.list q) (!D.eqbs p q) := fun h v1 v2 x y A s a k => by
  have x := x.stays k
  have y := y.stays k
  simp only [Den] at x y
  obtain ⟨r1, vs, rfl, _, il, dl⟩ := x
  obtain ⟨r2, us, rfl, _, im, dm⟩ := y
  have hl1 := dl.length
  have hm1 := dm.length
  simp only [HasTy] at hp hq
  have hu : A.units < cLine := by have := a.units; omega
  by_cases hsz : p.length = q.length
  · have he : D.eqbs p q = (List.range vs.toArray.size).all (at2 p q) := by
      rw [eqbs_all hsz, List.size_toArray, hl1]
    refine SeqAt.RcNeAt.lists il im (by simp [hl1, hm1, hsz]) hu (fun j h1 h2 => ?_) prog w _ _ (Then.here (by rw [he]))
    have j1 : j < p.length := by simpa [hl1] using h1
    have j2 : j < q.length := by omega
    obtain ⟨v1, e1, q1⟩ := dl.get (List.getElem?_eq_getElem j1)
    obtain ⟨v2, e2, q2⟩ := dm.get (List.getElem?_eq_getElem j2)
    have g1 : vs.toArray[j] = v1 := by
      have : vs.toArray[j]? = some v1 := by simpa using e1
      rw [Array.getElem?_eq_getElem h1] at this; exact Option.some.inj this
    have g2 : us.toArray[j] = v2 := by
      have : us.toArray[j]? = some v2 := by simpa using e2
      rw [Array.getElem?_eq_getElem h2] at this; exact Option.some.inj this
    rw [g1, g2, at2_of j1 j2]
    exact eqAt_of ty (hp _ (List.getElem_mem j1)) (hq _ (List.getElem_mem j2)) q1 q2 (units_ok1 a hn (by omega))
  · exact SeqAt.RcNeAt.lists_lengths il im (by simp [hl1, hm1, hsz]) hu prog w _ _ (Then.here (by rw [eqbs_ne hsz]; rfl))
theorem any_list (ty : Ty) {A : Around} {s : Shared} {l : List D} {vs : List Value} {d : D} {v : Value} (hp : HasTy (.list ty) (.list l)) (hq : HasTy ty d) (dl : Dens M s.heap l vs) (dd : Den M s.heap d v) (hu : A.units + ty.depth < cLine) :
    ∃ e : Value → Bool, (∀ y ∈ vs.toArray, SeqAt.EqAt A s y v (e y)) ∧ vs.toArray.any e = l.any (D.eqb · d) := by
  classical
  have hp' : ∀ x ∈ l, HasTy ty x := by simpa only [HasTy] using hp
  let f : Value → Bool := fun y => if hy : ∃ d', d' ∈ l ∧ Den M s.heap d' y then D.eqb hy.choose d else false
  have fe : ∀ d' y, d' ∈ l → Den M s.heap d' y → f y = D.eqb d' d := fun d' y m p => by
    have hy : ∃ d', d' ∈ l ∧ Den M s.heap d' y := ⟨d', m, p⟩
    show (if hy : ∃ d', d' ∈ l ∧ Den M s.heap d' y then D.eqb hy.choose d else false) = _
    rw [dif_pos hy, den_inj ty (hp' _ hy.choose_spec.1) (hp' _ m) hy.choose_spec.2 p]
  have mem : ∀ {l : List D} {vs : List Value}, Dens M s.heap l vs → ∀ y ∈ vs, ∃ d' ∈ l, Den M s.heap d' y := by
    intro l
    induction l with
    | nil => intro vs x y hy; simp only [Dens] at x; subst x; cases hy
    | cons a l ih =>
      intro vs x y hy
      simp only [Dens] at x
      obtain ⟨v0, r, rfl, hv, hr⟩ := x
      cases hy with
      | head => exact ⟨a, .head _, hv⟩
      | tail _ hy => obtain ⟨d', m, p⟩ := ih hr y hy; exact ⟨d', .tail _ m, p⟩
  refine ⟨f, fun y hy => ?_, ?_⟩
  · obtain ⟨d', m, p⟩ := mem dl y (by simpa using hy)
    rw [fe d' y m p]
    exact eqAt_of ty (hp' _ m) hq p dd hu
  · rw [List.any_toArray]
    have : ∀ {l' : List D} {vs : List Value}, (∀ x ∈ l', x ∈ l) → Dens M s.heap l' vs → vs.any f = l'.any (D.eqb · d) := by
      intro l'
      induction l' with
      | nil => intro vs _ x; simp only [Dens] at x; subst x; rfl
      | cons a l' ih =>
        intro vs hsub x
        simp only [Dens] at x
        obtain ⟨v0, r, rfl, hv, hr⟩ := x
        rw [List.any_cons, List.any_cons, fe a v0 (hsub a (.head _)) hv, ih (fun x hx => hsub x (.tail _ hx)) hr]
    exact this (fun _ h => h) dl
theorem cp_inl (ty : Ty) {l : List D} (hp : HasTy (.list ty) (.list l)) (hq : HasTy ty d) (hn : 1 ≤ n := by omega) (hd : ty.depth + 1 ≤ 8 := by decide) :
    Cp w n M .In d (.list l) (l.any (D.eqb · d)) := fun h v1 v2 x y A s a k => by
  have x := x.stays k
  have y := y.stays k
  simp only [Den] at y
  obtain ⟨r2, us, rfl, _, im, dm⟩ := y
  obtain ⟨f, hf, e⟩ := any_list ty (A := A.in1) (s := s) hp hq dm x (units_ok1 a hn (by omega))
  exact SeqAt.in_listAt f im hf (Then.here (by rw [e]))
theorem cp_ninl (ty : Ty) {l : List D} (hp : HasTy (.list ty) (.list l)) (hq : HasTy ty d) (hn : 1 ≤ n := by omega) (hd : ty.depth + 1 ≤ 8 := by decide) :
    Cp w n M .NotIn d (.list l) (!l.any (D.eqb · d)) := fun h v1 v2 x y A s a k => by
  have x := x.stays k
  have y := y.stays k
  simp only [Den] at y
  obtain ⟨r2, us, rfl, _, im, dm⟩ := y
  obtain ⟨f, hf, e⟩ := any_list ty (A := A.in1) (s := s) hp hq dm x (units_ok1 a hn (by omega))
  exact SeqAt.notIn_listAt f im hf (Then.here (by rw [e]))
end
end Mine
end
section
open PySem PySem.W PySem.Calls PyProof.Rows
set_option maxRecDepth 100000
set_option maxHeartbeats 4000000
namespace Mine
variable [Bd]
section
variable {w : World} {n : Nat} {env : Env} {M : List Addr} {h : Heap} {ρ : List (Str × D)} {x : Str} {pos : Pos} {d : D} {b c : Bool} {e e₁ e₂ : Expr} {rest : List Expr}

/-- truth of a datum -/
noncomputable def Truth : D → Option Bool
  | .bool b => some b
  | .str x => some (x.length != 0)
  | .list l => some (!l.isEmpty)
  | _ => none
noncomputable def Small : D → Prop
  | .str x => x.length < 2 ^ 24
  | .list l => l.length < 2 ^ 24
  | _ => True
theorem ex_truthy {b : Bool} {v : Value} (ht : Truth d = some b) (hs : Small d) (hv : Den M h d v) : Ex w n h (truthy v) (fun c _ => c = b) := fun A s a k => by
  have hv := hv.stays k
  cases d with
  | bool b' => simp only [Den] at hv; subst hv; simp only [Truth, Option.some.injEq] at ht; exact wpAny_truthy_bool (Then.here ht)
  | str y =>
    simp only [Den] at hv; obtain ⟨t, rfl⟩ := hv
    simp only [Truth, Option.some.injEq] at ht
    refine SBL.truthy (by have : y.length < 2 ^ 24 := hs; omega) (Then.tok (P := fun _ => _) ?_)
    rw [← ht, Bool.eq_iff_iff]; simp only [bne_iff_ne, ne_eq]; omega
  | list l =>
    simp only [Den] at hv; obtain ⟨r, vs, rfl, _, hl, dl⟩ := hv
    simp only [Truth, Option.some.injEq] at ht
    have hlen := dl.length
    refine wpAny_truthy_list hl (by have : l.length < 2 ^ 24 := hs; simp [hlen]; omega) (Then.tok (P := fun _ => _) ?_)
    rw [← ht]; simp only [List.isEmpty_toArray]
    cases l <;> cases vs <;> simp_all
  | _ => simp [Truth] at ht
theorem tr_plain {b : Bool} (x : Ev w n env M h e d) (ht : Truth d = some b) (hs : Small d := by trivial)
    (hp : isTrue e env (eval e env) = (do let v ← eval e env; standAt e.pos; holding [v] (truthy v)) := by with_unfolding_all rfl) : Tr w n env h e b := fun A s a k =>
  isTrue_plain (x.run a k fun v h' tk k' a p => (ex_truthy (w := w) (n := n) ht hs p).run a (stays_refl _) fun c h'' tk' k'' a q => Then.mk (stays_trans k' k'') q) hp
theorem tr_not (x : Tr w n env h e b) : Tr w n env h (.UnaryOp .Not e pos) (!b) := fun A s a k =>
  isTrue_not (x.run a k fun c h' tk k' a p => Then.mk k' (by rw [p]))
theorem ex_and_nil {whole : Sem Value} : Ex w n h (isTrue (.BoolOp .And [] pos) env whole) (fun c _ => c = true) := fun A s a k => isTrue_and_nil (Then.here rfl)
theorem ex_or_nil {whole : Sem Value} : Ex w n h (isTrue (.BoolOp .Or [] pos) env whole) (fun c _ => c = false) := fun A s a k => isTrue_or_nil (Then.here rfl)
theorem ex_and {whole : Sem Value} (x : Tr w n env h e b) (y : b = true → Ex w n h (isTrue (.BoolOp .And rest pos) env whole) (fun v _ => v = c)) :
    Ex w n h (isTrue (.BoolOp .And (e :: rest) pos) env whole) (fun v _ => v = (b && c)) := fun A s a k =>
  isTrue_and (x.run a k fun v h' tk k' a p => by
    subst p
    cases v with
    | true => rw [if_pos rfl]; exact (y rfl).run a (stays_trans k k') fun v h'' tk' k'' a q => Then.mk (stays_trans k' k'') (by rw [q]; rfl)
    | false => rw [if_neg (by decide)]; exact Then.mk k' rfl)
theorem ex_or {whole : Sem Value} (x : Tr w n env h e b) (y : b = false → Ex w n h (isTrue (.BoolOp .Or rest pos) env whole) (fun v _ => v = c)) :
    Ex w n h (isTrue (.BoolOp .Or (e :: rest) pos) env whole) (fun v _ => v = (b || c)) := fun A s a k =>
  isTrue_or (x.run a k fun v h' tk k' a p => by
    subst p
    cases v with
    | true => rw [if_pos rfl]; exact Then.mk k' rfl
    | false => rw [if_neg (by decide)]; exact (y rfl).run a (stays_trans k k') fun v h'' tk' k'' a q => Then.mk (stays_trans k' k'') (by rw [q]; rfl))
theorem tr_and2 (x : Tr w n env h e₁ b) (y : b = true → Tr w n env h e₂ c) : Tr w n env h (.BoolOp .And [e₁, e₂] pos) (b && c) :=
  (ex_and x fun q => ex_and (c := true) (y q) fun _ => ex_and_nil).post fun v _ _ p => by rw [p]; simp
theorem tr_or2 (x : Tr w n env h e₁ b) (y : b = false → Tr w n env h e₂ c) : Tr w n env h (.BoolOp .Or [e₁, e₂] pos) (b || c) :=
  (ex_or x fun q => ex_or (c := false) (y q) fun _ => ex_or_nil).post fun v _ _ p => by rw [p]; simp
theorem ev_not (x : Ev w n env M h e d) (ht : Truth d = some b) (hs : Small d := by trivial) :
    Ev w n env M h (.UnaryOp .Not e pos) (.bool (!b)) := fun A s a k =>
  wpAny_bind (x.run a k fun v h' tk k' a p => wpAny_bind (wpAny_standAt (wpAny_holding (not_of ((ex_truthy (w := w) (n := n) ht hs p).run a (stays_refl _) fun c h'' tk' k'' a q => Then.mk (stays_trans k' k'') (by rw [q]; exact Den.bool'))))))
theorem ev_neg {i : Int} (x : Ev w n env M h e (.int i)) : Ev w n env M h (.UnaryOp .USub e pos) (.int (-i)) := fun A s a k =>
  wpAny_bind (x.run a k fun v h' tk k' a p => by
    simp only [Den] at p; obtain ⟨t, rfl⟩ := p
    exact wpAny_bind (wpAny_standAt (wpAny_holding (neg_int (Then.mk k' Den.int')))))
theorem ev_and2 {b c : Bool} (x : Ev w n env M h e₁ (.bool b)) (y : b = true → Ev w n env M h e₂ (.bool c)) : Ev w n env M h (.BoolOp .And [e₁, e₂] pos) (.bool (b && c)) := fun A s a k =>
  BoolOp_and (x.run a k fun v h' tk k' a p => by
    simp only [Den] at p; subst p
    refine wpAny_truthy_bool ?_
    cases b with
    | true => rw [if_pos rfl]; exact BoolOp_one ((y rfl).run a (stays_trans k k') fun v h'' tk' k'' a q => Then.mk (stays_trans k' k'') (by simpa using q))
    | false => rw [if_neg (by decide)]; exact Then.mk k' Den.bool')
theorem ev_ite (x : Tr w n env h e b) (y : b = true → Ev w n env M h e₁ d) (z : b = false → Ev w n env M h e₂ d) : Ev w n env M h (.IfExp e e₁ e₂ pos) d := fun A s a k =>
  IfExp_ (x.run a k fun v h' tk k' a p => by
    subst p
    cases v with
    | true => rw [if_pos rfl]; exact (y rfl).run a (stays_trans k k') fun v h'' tk' k'' a q => Then.mk (stays_trans k' k'') q
    | false => rw [if_neg (by decide)]; exact (z rfl).run a (stays_trans k k') fun v h'' tk' k'' a q => Then.mk (stays_trans k' k'') q)

/-- items -/
theorem ev_item {l : List D} {i : Int} {slice : Expr} (x : Ev w n env M h e (.list l)) (y : Ev w n env M h slice (.int i)) (h0 : 0 ≤ i) (h1 : i < 2 ^ 63) (hd : l[i.toNat]? = some d)
    (hs : ∀ r t, subscripted slice false (.ref r) (.int i t) = operate [.ref r, .int i t] (getItem (.ref r) (.int i t)) := by intro _ _; with_unfolding_all rfl)
    (ht : ∀ r v, letTemporaryGo e (.ref r) v = pure () := by intro _ _; with_unfolding_all rfl) : Ev w n env M h (.Subscript e slice pos) d := fun A s a k =>
  Subscript_ (x.run a k fun v1 h1' t1 k1 a p1 => y.run a (stays_trans k k1) fun v2 h2' t2 k2 a p2 => by
    have p1 := p1.stays k2
    simp only [Den] at p1 p2
    obtain ⟨r, vs, rfl, _, hl, dl⟩ := p1
    obtain ⟨t, rfl⟩ := p2
    obtain ⟨v, e1, e2⟩ := dl.get hd
    exact item_list hl h0 h1 (by simpa using e1) (Then.mk (stays_trans k1 k2) e2) (hs r t) (ht r))
theorem ev_last {l : List D} {slice : Expr} (x : Ev w n env M h e (.list l)) (y : Ev w n env M h slice (.int (-1))) (hlen : l.length < 2 ^ 24) (hd : l.getLast? = some d)
    (hs : ∀ r t, subscripted slice false (.ref r) (.int (-1) t) = operate [.ref r, .int (-1) t] (getItem (.ref r) (.int (-1) t)) := by intro _ _; with_unfolding_all rfl)
    (ht : ∀ r v, letTemporaryGo e (.ref r) v = pure () := by intro _ _; with_unfolding_all rfl) : Ev w n env M h (.Subscript e slice pos) d := fun A s a k =>
  Subscript_ (x.run a k fun v1 h1' t1 k1 a p1 => y.run a (stays_trans k k1) fun v2 h2' t2 k2 a p2 => by
    have p1 := p1.stays k2
    simp only [Den] at p1 p2
    obtain ⟨r, vs, rfl, _, hl, dl⟩ := p1
    obtain ⟨t, rfl⟩ := p2
    have hne : 0 < l.length := by cases l with | nil => simp at hd | cons _ _ => simp
    rw [List.getLast?_eq_getElem?] at hd
    obtain ⟨v, e1, e2⟩ := dl.get hd
    have hlv := dl.length
    refine subscriptTail_ops (hl.typeIs (s := { s with heap := h2', toks := t2 })) list_getitem_lookup ?_ (hs r t) (ht r)
    refine wpAny_getItem_list_neg hl (by decide) (by simp [hlv]; omega) (by decide) ?_ (Then.mk (stays_trans k1 k2) e2)
    have : ((-1 : Int) + (vs.toArray.size : Int)).toNat = l.length - 1 := by simp [hlv]; omega
    first | (rw [this]; simpa using e1) | (rw [Int.add_comm, this]; simpa using e1))
theorem ev_char {y : Str} {i : Int} {slice : Expr} (x : Ev w n env M h e (.str y)) (z : Ev w n env M h slice (.int i)) (h0 : 0 ≤ i) (h1 : i < y.length) (hy : y.length < 2 ^ 24)
    (hs : ∀ t u, subscripted slice false (.str y t) (.int i u) = operate [.str y t, .int i u] (getItem (.str y t) (.int i u)) := by intro _ _; with_unfolding_all rfl)
    (ht : ∀ t v, letTemporaryGo e (.str y t) v = pure () := by intro _ _; with_unfolding_all rfl) : Ev w n env M h (.Subscript e slice pos) (.str (Txt.item y i)) := fun A s a k =>
  Subscript_ (x.run a k fun v1 h1' t1 k1 a p1 => z.run a (stays_trans k k1) fun v2 h2' t2 k2 a p2 => by
    simp only [Den] at p1 p2
    obtain ⟨t, rfl⟩ := p1
    obtain ⟨u, rfl⟩ := p2
    exact item_str (fitsSsize_of (N := 9223372036854775808) (by omega) (by omega) (Int.le_refl _)) (by omega) h1 (fun _ => Then.mk (stays_trans k1 k2) Den.str') (hs t u) (ht t))

/-- parts of slices -/
noncomputable def Part : Option Int → Value → Prop
  | none, v => v = .none
  | some i, v => ∃ t, v = .int i t
noncomputable abbrev Pt (w : World) (n : Nat) (env : Env) (h : Heap) (p : Option Expr) (o : Option Int) : Prop := Ex w n h (evalPart p env) (fun v _ => Part o v)
theorem pt_none : Pt w n env h none none := fun A s a k => wpAny_pure (Then.here rfl)
theorem pt_some {i : Int} (x : Ev w n env [] h e (.int i)) : Pt w n env h (some e) (some i) := fun A s a k => by
  show wpAny _ _ (eval e env) _ _ _
  exact x.run a k fun v h' tk k' a p => Then.mk k' (show ∃ t, v = .int i t from by simpa only [Den] using p)
theorem isPart_of : ∀ {o : Option Int} {v : Value}, Part o v → IsPart v o
  | none, v, p => by cases (show v = .none from p); exact .none
  | some i, v, p => by obtain ⟨t, rfl⟩ := (show ∃ t, v = .int i t from p); exact .int i t
theorem ex_slice {lo hi st : Option Expr} {l u t : Option Int} (x : Pt w n env h lo l) (y : Pt w n env h hi u) (z : Pt w n env h st t) :
    Ex w n h (eval (.Slice lo hi st pos) env) (fun v h' => ∃ a vl vu vt, v = .ref a ∧ h'.get? a = some { cls := .type "slice", data := .fields #[vl, vu, vt] } ∧ Part l vl ∧ Part u vu ∧ Part t vt) := fun A s a k =>
  wpAny_Slice (x.run a k fun v1 h1 t1 k1 a p1 => y.run a (stays_trans k k1) fun v2 h2 t2 k2 a p2 => z.run a (stays_trans k (stays_trans k1 k2)) fun v3 h3 t3 k3 a p3 =>
    Then.mk (stays_trans k1 (stays_trans k2 (stays_trans k3 (push_stays _ _)))) ⟨_, v1, v2, v3, rfl, Heap.get?_push_size _ rfl, p1, p2, p3⟩)
theorem Part.tok {o : Option Int} {v : Value} (p : Part o v) : ∃ q : Option (Int × Tok), partValue q = v ∧ q.map (·.1) = o := by
  cases o with
  | none => exact ⟨none, (show v = .none from p).symm, rfl⟩
  | some i => obtain ⟨t, rfl⟩ := (show ∃ t, v = .int i t from p); exact ⟨some (i, t), rfl, rfl⟩
theorem ev_slice_str {y : Str} {lo hi : Option Expr} {l u : Option Int} {sp : Pos} (z : Ev w n env M h e (.str y)) (x1 : Pt w n env h lo l) (x2 : Pt w n env h hi u) (hy : y.length < 2 ^ 24)
    (ht : ∀ t v, letTemporaryGo e (.str y t) v = pure () := by intro _ _; with_unfolding_all rfl) : Ev w n env M h (.Subscript e (.Slice lo hi none sp) pos) (.str (Txt.slice y l u)) := fun A s a k =>
  Subscript_ (z.run a k fun v1 h1' t1 k1 a p1 => (ex_slice (w := w) (n := n) (env := env) (pos := sp) x1 x2 pt_none).run a (stays_trans k k1) fun v2 h2' t2 k2 a p2 => by
    simp only [Den] at p1
    obtain ⟨t, rfl⟩ := p1
    obtain ⟨sl, vl, vu, vt, rfl, hsl, q1, q2, q3⟩ := p2
    obtain ⟨q1', e1, rfl⟩ := q1.tok
    obtain ⟨q2', e2, rfl⟩ := q2.tok
    have e3 : vt = .none := q3
    subst e1 e2 e3
    refine tail_of_ItemOn ⟨"str", _, PySem.F.slot_str_getitem.lookup, typeIs_str _ _ _, ?_⟩ rfl (ht t)
    refine wpAny_getItem_str_slice (l := q1') (u := q2') (st := none) ⟨_, hsl, rfl, rfl⟩ rfl (post_val_or_str ?_)
    exact ⟨Nat.le_trans (Txt.slice_le y _ _) (by show y.length ≤ 2 ^ 24; omega), fun t' k' => Then.mk (stays_trans k1 k2) Den.str'⟩)
/-- a slice of data -/
noncomputable def pickD (l : List D) (lo hi st : Option Int) : List D := (sliceRange (sliceBounds lo hi st l.length).1 (sliceBounds lo hi st l.length).2.1 (sliceBounds lo hi st l.length).2.2).filterMap (l[·]?)
theorem Dens.pick {M h} {l : List D} {vs : List Value} (x : Dens M h l vs) : ∀ (is : List Nat), Dens M h (is.filterMap (l[·]?)) (is.filterMap (vs[·]?))
  | [] => by simp [Dens]
  | i :: is => by
    have ih := x.pick is
    have hl := x.length
    cases q : l[i]? with
    | none =>
      have : vs[i]? = none := by rw [List.getElem?_eq_none_iff] at q ⊢; omega
      simpa [List.filterMap_cons, q, this] using ih
    | some d =>
      obtain ⟨v, e1, e2⟩ := x.get q
      simpa [List.filterMap_cons, q, e1] using Dens.cons e2 ih
theorem ev_slice_list {ds : List D} {lo hi st : Option Expr} {l u t : Option Int} {sp : Pos} (F : MOk M h) (z : Ev w n env M h e (.list ds)) (x1 : Pt w n env h lo l) (x2 : Pt w n env h hi u) (x3 : Pt w n env h st t) (h0 : t ≠ some 0) (hy : ds.length < 2 ^ 24)
    (hs : ∀ r q, ∃ ops, subscripted (.Slice lo hi st sp) false (.ref r) (.ref q) = operate ops (getItem (.ref r) (.ref q)) := by intro _ _; exact ⟨_, rfl⟩)
    (ht : ∀ r v, letTemporaryGo e (.ref r) v = pure () := by intro _ _; with_unfolding_all rfl) : Ev w n env M h (.Subscript e (.Slice lo hi st sp) pos) (.list (pickD ds l u t)) := fun A s a k =>
  Subscript_ (z.run a k fun v1 h1' t1 k1 a p1 => (ex_slice (w := w) (n := n) (env := env) (pos := sp) x1 x2 x3).run a (stays_trans k k1) fun v2 h2' t2 k2 a p2 => by
    have p1 := p1.stays k2
    simp only [Den] at p1
    obtain ⟨r, vs, rfl, _, hl, dl⟩ := p1
    obtain ⟨sl, vl, vu, vt, rfl, hsl, q1, q2, q3⟩ := p2
    obtain ⟨ops, hops⟩ := hs r sl
    have hlen := dl.length
    refine subscriptTail_ops (hl.typeIs (s := { s with heap := h2', toks := t2 })) list_getitem_lookup ?_ hops (ht r)
    refine wpAny_getItem_list_slice hl ⟨_, hsl, rfl, rfl⟩ (isPart_of q1) (isPart_of q2) (isPart_of q3) h0 ?_ (by show vs.toArray.size ≤ 2 ^ 24; simp [hlen]; omega)
    have hM : MOk M h2' := F.stays (stays_trans k (stays_trans k1 k2))
    refine Then.mk (stays_trans k1 (stays_trans k2 (push_stays _ _))) (.of_list hM.fresh (vs := (sliceRange (sliceBounds l u t ds.length).1 (sliceBounds l u t ds.length).2.1 (sliceBounds l u t ds.length).2.2).filterMap (vs[·]?)) ?_ ((dl.pick _).stays (push_stays _ _)))
    have : slicePick vs.toArray l u t = ((sliceRange (sliceBounds l u t ds.length).1 (sliceBounds l u t ds.length).2.1 (sliceBounds l u t ds.length).2.2).filterMap (vs[·]?)).toArray := by
      unfold slicePick; simp [hlen]
    rw [this]
    exact isList_push)
end
end Mine
end
section
open PySem PySem.W PySem.Calls PyProof.Rows
set_option maxRecDepth 100000
set_option maxHeartbeats 4000000
namespace Mine
variable [Bd]

/-- `xv` can be walked: `N` items, the data `it` -/
noncomputable def Itr (w : World) (n : Nat) (M : List Addr) (h : Heap) (xv : Value) (N : Nat) (it : Nat → D) : Prop := ∀ (A : Around) (s : Shared) (Q : Value → Shared → Prop) (E : Value → Shared → Prop), AOk n A s.heap → Stay h s.heap →
  (∀ I fp wr P St h' tk, Walks prog w A I fp wr N P St → St 0 h' → (∀ b ∈ fp, b < h'.objs.size) → (∀ i h, St i h → ∀ b ∈ wr, ∃ o, h.get? b = some o) → (∀ b ∈ wr, s.heap.get? b = none) → (∀ b ∈ fp, b ∉ wr → b ∉ M) → (∀ i h, St i h → ∀ b ∈ fp, ∀ o, h.get? b = some o → nd o = true) → Stay s.heap h' →
    (∀ i v, i < N → P i v → Den M s.heap (it i) v) → Q (.ref I) { s with heap := h', toks := tk }) →
  wpAny (model prog w) A (pyIter xv) Q E s
theorem itr_list {w n M h v} {ds : List D} (x : Den M h (.list ds) v) : Itr w n M h v ds.length (fun i => ds.getD i .none) := fun A s Q E a k H => by
  have x := x.stays k
  simp only [Den] at x
  obtain ⟨l, vs, rfl, hlM, hl, dl⟩ := x
  have hlen := dl.length
  have hne : l ≠ s.heap.objs.size := by obtain ⟨o, ho, _⟩ := hl; exact Nat.ne_of_lt (Heap.lt_size ho)
  refine wpAny_pyIter_list hl ?_
  have W := Walks.list (prog := prog) (w := w) a.handled s.heap.objs.size l hne vs.toArray
  have e : vs.toArray.size = ds.length := by simp [hlen]
  rw [e] at W
  refine H _ _ _ _ _ _ _ W ⟨⟨_, Heap.get?_push_size _ rfl, rfl, rfl⟩, hl.at fun o e => Heap.get?_push_of_some _ e⟩ ?_ ?_ ?_ ?_ ?_ (push_stays _ _) ?_
  · intro b hb
    rw [Heap.size_push]
    rcases List.mem_cons.mp hb with e | hb
    · rw [e]; exact Nat.lt_succ_self _
    · rw [List.mem_singleton.mp hb]; obtain ⟨o, ho, _⟩ := hl; exact Nat.lt_succ_of_lt (Heap.lt_size ho)
  · rintro i h ⟨⟨o, ho, _⟩, _⟩ b hb
    rw [List.mem_singleton.mp hb]; exact ⟨o, ho⟩
  · intro b hb
    rw [List.mem_singleton.mp hb]
    cases q : s.heap.get? s.heap.objs.size with
    | none => rfl
    | some o => exact absurd (Heap.lt_size q) (Nat.lt_irrefl _)
  · intro b hb hbw
    rcases List.mem_cons.mp hb with e | hb
    · exact absurd (e ▸ .head _) hbw
    · rw [List.mem_singleton.mp hb]; exact hlM
  · rintro i h ⟨⟨o1, ho1, _, hc1⟩, ⟨o2, ho2, _, nn, hc2⟩⟩ b hb o ho
    rcases List.mem_cons.mp hb with e | hb
    · subst e; rw [ho1] at ho; cases ho; unfold nd; rw [hc1]
    · rw [List.mem_singleton.mp hb, ho2] at ho; cases ho; unfold nd; rw [hc2]
  · intro i v hi hv
    obtain ⟨v', e1, e2⟩ := dl.get (i := i) (d := ds[i]) (by simp [hi])
    have : v = v' := by
      have hv' : vs[i]? = some v := by simpa using hv
      rw [e1] at hv'; exact (Option.some.inj hv').symm
    subst this
    simpa [List.getD, hi] using e2

/-- a range object from `a` up to `b` -/
noncomputable def RangeV (a b : Int) (h : Heap) (v : Value) : Prop := ∃ r t u q, v = .ref r ∧ IsRange h r a b 1 t u q
theorem RangeV.stays {a b} {h h' : Heap} {v} (x : RangeV a b h v) (k : Stay h h') : RangeV a b h' v := let ⟨r, t, u, q, e, y⟩ := x; ⟨r, t, u, q, e, (k _ _ y).get (.inl rfl)⟩
theorem itr_range {w n M h v} {a b : Int} (x : RangeV a b h v) (ha : -(2 ^ 62) ≤ a) (ha' : a < 2 ^ 62) (hb : -(2 ^ 62) ≤ b) (hb' : b < 2 ^ 62) : Itr w n M h v (b - a).toNat (fun i => .int (a + i)) := fun A s Q E ao k H => by
  obtain ⟨r, t, u, q, rfl, hr⟩ := x.stays k
  refine wpAny_pyIter_range hr (small_one ha ha' hb hb') ?_
  have W := Walks.range (prog := prog) (w := w) ao.handled s.heap.objs.size a 1 (b - a).toNat
  refine H _ _ _ _ _ _ _ W ?_ ?_ ?_ ?_ (fun b hb hbw => absurd hb hbw) (fun i h ho1 b hb o ho => by rw [List.mem_singleton.mp hb, show h.get? _ = _ from ho1] at ho; cases ho; rfl) (push_stays _ _) ?_
  · rw [rangeSize_one]
    have e1 : (a + ((0 : Nat) : Int) * 1) = a := by simp
    have e2 : (((b - a).toNat : Nat) : Int) - ((0 : Nat) : Int) = if a < b then b - a else 0 := by split <;> omega
    show Heap.get? _ _ = _
    rw [e1, e2]
    exact Heap.get?_push_size _ rfl
  · intro b hb
    rw [Heap.size_push, List.mem_singleton.mp hb]; exact Nat.lt_succ_self _
  · intro i h ho b hb
    rw [List.mem_singleton.mp hb]; exact ⟨_, ho⟩
  · intro b hb
    rw [List.mem_singleton.mp hb]
    cases q : s.heap.get? s.heap.objs.size with
    | none => rfl
    | some o => exact absurd (Heap.lt_size q) (Nat.lt_irrefl _)
  · rintro i v hi ⟨t, rfl⟩
    have : a + (i : Int) * 1 = a + i := by omega
    rw [this]; exact Den.int'
end Mine
end
section
open PySem PySem.W PySem.Calls PyProof.Rows
set_option maxRecDepth 100000
set_option maxHeartbeats 4000000
namespace Mine
variable [Bd]

noncomputable def clOf (scope : Scope) (env : Env) : List (Str × Addr) := ((scope.names.filter fun q => q.2 == .free).map fun q => (q.1, (env.cells.lookup q.1).getD 0)).reverse
noncomputable def closes (scope : Scope) (env : Env) : Bool := scope.names.all fun q => q.2 != .free || ((env.cells.lookup q.1).isSome && (env.kindOf q.1 == some .cell || env.kindOf q.1 == some .free))
theorem closureFor_clOf {scope : Scope} {env : Env} (h : closes scope env = true) : closureFor scope env = pure (clOf scope env) := by
  have key : ∀ (l : List (Str × NameKind)) (cs : List (Str × Addr)), (∀ q ∈ l, q.2 = .free → (env.cells.lookup q.1).isSome = true) →
      (forIn l cs fun (x : Str × NameKind) (r : List (Str × Addr)) => if x.2 == .free then (do let c ← cellOf env x.1; pure (ForInStep.yield ((x.1, c) :: r))) else pure (ForInStep.yield r) : Sem (List (Str × Addr))) =
        pure (((l.filter fun q => q.2 == .free).map fun q => (q.1, (env.cells.lookup q.1).getD 0)).reverse ++ cs) := by
    intro l
    induction l with
    | nil => intro cs _; simp
    | cons q l ih =>
      intro cs hq
      obtain ⟨n, k⟩ := q
      rw [List.forIn_cons]
      by_cases hk : (k == NameKind.free) = true
      · have hk' : k = .free := by simpa using hk
        have := hq (n, k) (.head _) hk'
        obtain ⟨c, hc⟩ := Option.isSome_iff_exists.mp this
        have e : cellOf env n = pure c := by unfold cellOf; simp only at hc; rw [hc]
        simp only [hk, if_true, e]
        show (forIn l ((n, c) :: cs) _ : Sem (List (Str × Addr))) = _
        rw [ih _ fun q hm => hq q (.tail _ hm)]
        simp only at hc
        simp [List.filter_cons, hk', hc]
      · simp only [hk, if_false]
        show (forIn l cs _ : Sem (List (Str × Addr))) = _
        rw [ih _ fun q hm => hq q (.tail _ hm)]
        simp only [Bool.not_eq_true] at hk
        simp [List.filter_cons, hk]
  have := key scope.names [] fun q hm hk => by
    have := List.all_eq_true.mp h q hm
    simp only [hk, bne_self_eq_false, Bool.false_or, Bool.and_eq_true] at this
    exact this.1
  simp only [List.append_nil] at this
  have e : closureFor scope env = ((forIn scope.names [] fun (x : Str × NameKind) (r : List (Str × Addr)) => if x.2 == .free then (do let c ← cellOf env x.1; pure (ForInStep.yield ((x.1, c) :: r))) else pure (ForInStep.yield r) : Sem (List (Str × Addr))) >>= fun q => pure q) := rfl
  rw [e, this]
  rfl
theorem clOf_lookup {scope : Scope} {env : Env} (h : closes scope env = true) {z : Str} (hz : scope.names.lookup z = some .free) : (clOf scope env).lookup z = env.cells.lookup z ∧ (env.kindOf z = some .cell ∨ env.kindOf z = some .free) := by
  have mem : ∀ {l : List (Str × NameKind)}, l.lookup z = some .free → (z, .free) ∈ l := by
    intro l
    induction l with
    | nil => intro e; cases e
    | cons q l ih =>
      intro e
      obtain ⟨n, k⟩ := q
      rw [List.lookup_cons] at e
      by_cases hn : (z == n) = true
      · rw [hn] at e; have := beq_iff_eq.mp hn; subst this; cases e; exact .head _
      · simp only [Bool.not_eq_true] at hn; rw [hn] at e; exact .tail _ (ih e)
  have hm := mem hz
  have hc := List.all_eq_true.mp h _ hm
  simp only [bne_self_eq_false, Bool.false_or, Bool.and_eq_true, Bool.or_eq_true, beq_iff_eq] at hc
  refine ⟨?_, hc.2⟩
  obtain ⟨c, hcc⟩ := Option.isSome_iff_exists.mp hc.1
  have key : ∀ (l : List (Str × Addr)), (∀ q ∈ l, q.1 = z → q.2 = c) → (∃ q ∈ l, q.1 = z) → l.lookup z = some c := by
    intro l
    induction l with
    | nil => rintro _ ⟨_, m, _⟩; cases m
    | cons q l ih =>
      rintro ha ⟨q', m, e⟩
      obtain ⟨n, a⟩ := q
      rw [List.lookup_cons]
      by_cases hn : (z == n) = true
      · rw [hn]; have := beq_iff_eq.mp hn; exact congrArg some (ha _ (.head _) this.symm)
      · simp only [Bool.not_eq_true] at hn
        rw [hn]
        refine ih (fun q m => ha q (.tail _ m)) ?_
        cases m with
        | head => simp only at e; subst e; simp at hn
        | tail _ m => exact ⟨q', m, e⟩
  rw [hcc]
  refine key _ (fun q m e => ?_) ⟨(z, c), ?_, rfl⟩
  · unfold clOf at m
    rw [List.mem_reverse, List.mem_map] at m
    obtain ⟨q', _, rfl⟩ := m
    simp only at e ⊢
    rw [e, hcc]; rfl
  · unfold clOf
    rw [List.mem_reverse, List.mem_map]
    exact ⟨(z, .free), List.mem_filter.mpr ⟨hm, rfl⟩, by simp [hcc]⟩

/-- the looks that a comprehension's block asks -/
noncomputable def compOk (scope : Scope) (env : Env) (x : Str) (ρ : List (Str × D)) : Bool :=
  closes scope env && scope.names.all (fun y => y.2 != .cell) && scope.names.all (fun y => y.2 != .local || scope.names.lookup y.1 == some .local) &&
  (scope.kind == .function) && (scope.names.lookup x == some .local) && (ρ.all fun q => q.1 == x || scope.names.lookup q.1 != some .local)

theorem kind_relabel {scope : Scope} {env : Env} {z : Str} : (relabel scope env).names.lookup z = match scope.names.lookup z with
    | some .free => if env.scope.kind == .function && env.kindOf z == some .cell then some .cell else some .free
    | k => k := by
  unfold relabel
  simp only
  generalize scope.names = l
  induction l with
  | nil => rfl
  | cons q l ih =>
    obtain ⟨n, k⟩ := q
    by_cases hn : (z == n) = true
    · have := beq_iff_eq.mp hn; subst this
      simp only [List.map_cons, List.lookup_cons, beq_self_eq_true]
      cases k <;> simp
      split <;> simp_all [List.lookup_cons]
    · simp only [Bool.not_eq_true] at hn
      rw [List.map_cons]
      by_cases hc : (k == NameKind.free && env.scope.kind == .function && env.kindOf n == some .cell) = true
      · simp only [hc, if_true, List.lookup_cons, hn]; exact ih
      · simp only [Bool.not_eq_true] at hc; simp only [hc, List.lookup_cons, hn, Bool.false_eq_true, if_false]; exact ih

theorem fd_comp {scope : Scope} {env : Env} {x : Str} {ρ : List (Str × D)} {M M' : List Addr} {h h' : Heap} {C : Addr} {m : Str → Option Value} {v : Value} {d : D} (ok : compOk scope env x ρ = true)
    (F : FD env M h ρ) (hM : MOk M' h') (hC : h'.Ns C m) (hx : m x = some v) (hd : Den M' h' d v) (hden : ∀ d v, Den M h d v → Den M' h' d v)
    (hkc : ∀ c v, h.IsCell c v → h'.IsCell c v) : FD (compEnvC scope (clOf scope env) C env) M' h' ((x, d) :: ρ) := by
  simp only [compOk, Bool.and_eq_true, beq_iff_eq] at ok
  obtain ⟨⟨⟨⟨⟨ok1, ok2⟩, ok3⟩, ok4⟩, ok5⟩, ok6⟩ := ok
  have kx : (compEnvC scope (clOf scope env) C env).kindOf x = some .local := by show (relabel scope env).names.lookup x = _; rw [kind_relabel, ok5]
  refine ⟨hM, ok4, fun z e hz => ?_⟩
  rw [List.lookup_cons] at hz
  by_cases hzx : (z == x) = true
  · have := beq_iff_eq.mp hzx; subst this
    rw [hzx] at hz; cases hz
    exact ⟨v, by simp only [VarAt, kx]; exact ⟨m, hC, hx⟩, hd⟩
  · simp only [Bool.not_eq_true] at hzx
    rw [hzx] at hz
    obtain ⟨u, hu, du⟩ := F.var z e hz
    refine ⟨u, ?_, hden _ _ du⟩
    have hnl : scope.names.lookup z ≠ some .local := by
      have key : ∀ {l : List (Str × D)}, l.lookup z = some e → (z, e) ∈ l := by
        intro l
        induction l with
        | nil => intro e; cases e
        | cons q l ih =>
          intro e
          obtain ⟨n, k⟩ := q
          rw [List.lookup_cons] at e
          by_cases hn : (z == n) = true
          · rw [hn] at e; have := beq_iff_eq.mp hn; subst this; cases e; exact .head _
          · simp only [Bool.not_eq_true] at hn; rw [hn] at e; exact .tail _ (ih e)
      have := List.all_eq_true.mp ok6 _ (key hz)
      simp only [hzx, Bool.false_or, bne_iff_ne] at this
      exact this
    have hk : (compEnvC scope (clOf scope env) C env).kindOf z = match scope.names.lookup z with
        | some .free => if env.scope.kind == .function && env.kindOf z == some .cell then some .cell else some .free
        | k => k := kind_relabel
    unfold VarAt
    rw [hk]
    cases hq : scope.names.lookup z with
    | none => trivial
    | some k =>
      cases k with
      | «local» => exact absurd hq hnl
      | cell =>
        exfalso
        have mem : ∀ {l : List (Str × NameKind)}, l.lookup z = some .cell → (z, .cell) ∈ l := by
          intro l
          induction l with
          | nil => intro e; cases e
          | cons q l ih =>
            intro e
            obtain ⟨n, k⟩ := q
            rw [List.lookup_cons] at e
            by_cases hn : (z == n) = true
            · rw [hn] at e; have := beq_iff_eq.mp hn; subst this; cases e; exact .head _
            · simp only [Bool.not_eq_true] at hn; rw [hn] at e; exact .tail _ (ih e)
        have := List.all_eq_true.mp ok2 _ (mem hq)
        simp at this
      | free =>
        obtain ⟨e1, e2⟩ := clOf_lookup ok1 hq
        have cellv : ∃ c, (clOf scope env).lookup z = some c ∧ h'.IsCell c (some u) := by
          unfold VarAt at hu
          rcases e2 with e2 | e2 <;> rw [e2] at hu <;> obtain ⟨c, hc, hv⟩ := hu <;> exact ⟨c, e1.trans hc, hkc _ _ hv⟩
        show (match (if env.scope.kind == .function && env.kindOf z == some .cell then some NameKind.cell else some NameKind.free) with
          | some .local => _ | some .cell => _ | some .free => _ | _ => True)
        by_cases hb : (env.scope.kind == .function && env.kindOf z == some .cell) = true
        · rw [if_pos hb]; exact cellv
        · rw [if_neg hb]; exact cellv
      | _ => trivial
end Mine
end
section
open PySem PySem.W PySem.Calls PyProof.Rows
set_option maxRecDepth 100000
set_option maxHeartbeats 4000000
namespace Mine
variable [Bd]

noncomputable abbrev testsT (ifs : List Expr) (cenv : Env) : Sem Bool := forIn ifs true fun c r => if r = true then do let ok ← isTrue c cenv (eval c cenv); pure (ForInStep.yield ok) else pure (ForInStep.yield r)
noncomputable abbrev cEnv (scope : Scope) (env : Env) (C : Addr) : Env := compEnvC scope (clOf scope env) C env

theorem outs_succ {p : Nat → Bool} {f : Nat → D} (i : Nat) : ((List.range (i + 1)).filter p).map f = ((List.range i).filter p).map f ++ (if p i then [f i] else []) := by
  rw [List.range_succ, List.filter_append, List.map_append]
  congr 1
  cases h : p i <;> simp [h]

theorem ev_comp {w : World} {n : Nat} {env : Env} {M : List Addr} {h : Heap} {ρ : List (Str × D)} {elt iter : Expr} {x : Str} {px pos : Pos} {ifs : List Expr} {scope : Scope} {N : Nat} {it : Nat → D} {p : Nat → Bool} {f : Nat → D}
    (F : FD env M h ρ) (ok : compOk scope env x ρ = true)
    (hiter : Ex w n h (eval iter env) (fun v h' => Itr w n M h' v N it))
    (htests : ∀ i M' C h', i < N → Stay h h' → FD (cEnv scope env C) M' h' ((x, it i) :: ρ) → Ex w n h' (testsT ifs (cEnv scope env C)) (fun ok _ => ok = p i))
    (helt : ∀ i M' C h', i < N → p i = true → Stay h h' → FD (cEnv scope env C) M' h' ((x, it i) :: ρ) → Ev w n (cEnv scope env C) M' h' elt (f i))
    (hN : N ≤ 2 ^ 20) (hs : ∀ x, foldedSetIterable iter env x = pure x := by intro _; rfl) :
    Ev w n env M h (.ListComp elt [⟨.Name x px, iter, ifs, 0⟩] scope pos) (.list (((List.range N).filter p).map f)) := fun A s a k => by
  have ok' := ok
  simp only [compOk, Bool.and_eq_true, beq_iff_eq] at ok'
  obtain ⟨⟨⟨⟨⟨ok1, ok2⟩, ok3⟩, ok4⟩, ok5⟩, ok6⟩ := ok'
  have hnames : ∀ y ∈ scope.names, y.2 = .local → scope.names.lookup y.1 = some .local := fun y hy hl => by
    have := List.all_eq_true.mp ok3 y hy
    simpa [hl] using this
  have hcell : ∀ y ∈ scope.names, y.2 ≠ .cell := fun y hy hl => by
    have := List.all_eq_true.mp ok2 y hy
    simp [hl] at this
  rw [eval_ListComp]
  refine wpAny_comprehension_free (use := none) rfl hs (closureFor_clOf ok1) ok4 hnames (hiter.run a k fun xv hb tb kb a hit => ?_)
  have khb : Stay h hb := stays_trans k kb
  refine hit A _ _ _ a (stays_refl _) fun I fp wr P St h₂ t₂ W hst hfp hlive hwr _ hnf k₂ hP => ?_
  refine wpAny_newObj_type (wpAny_newFunctionEnv hcell (by intro y hy; simp at hy) (fun h₁ hns₁ hsb₁ => ?_) ok4)
  dsimp only at hwr k₂ hP hns₁ hsb₁ ⊢
  generalize hH2 : h₂.push { cls := .type "list", dict := none, data := .seq ([] : List Value).toArray } = H2 at hns₁ hsb₁ ⊢
  have hC : H2.objs.size = h₂.objs.size + 1 := by rw [← hH2, Heap.size_push]
  have hCn : h₂.get? H2.objs.size = none := none_of_le (by rw [hC]; exact Nat.le_succ _)
  have hDn : h₂.get? h₂.objs.size = none := none_of_le (Nat.le_refl _)
  have hDC : h₂.objs.size ≠ H2.objs.size := by rw [hC]; exact Nat.ne_of_lt (Nat.lt_succ_self _)
  have hDg : H2.get? h₂.objs.size = some { cls := .type "list", dict := none, data := .seq ([] : List Value).toArray } := hH2 ▸ Heap.get?_push_size _ rfl
  have k2 : ∀ b o, h₂.get? b = some o → H2.get? b = some o := fun b o e => hH2 ▸ Heap.get?_push_of_some _ e
  have hDf : h₂.objs.size ∉ fp := fun hm => Nat.lt_irrefl _ (hfp _ hm)
  have hCf : H2.objs.size ∉ fp := fun hm => by have := hfp _ hm; rw [hC] at this; exact absurd this (Nat.not_lt.mpr (Nat.le_succ _))
  generalize H2.objs.size = C at *
  generalize h₂.objs.size = Da at *
  have hbD : hb.get? Da = none := none_of_stays k₂ hDn
  have hbC : hb.get? C = none := none_of_stays k₂ hCn
  have old : ∀ b o, h₂.get? b = some o → h₁.get? b = some o := fun b o e => hsb₁.extBut b o (ne_of_get e hCn) (Heap.get?_push_of_some _ (k2 _ _ e))
  have hacc₁ : h₁.PlainList Da (([] : List Value).toArray) := ⟨_, hsb₁.extBut _ _ hDC (Heap.get?_push_of_some _ hDg)⟩
  have hst₁ : St 0 h₁ := W.frame _ _ _ hst fun b _ o e => old b o e
  have hDw : Da ∉ wr := fun hm => hDf (W.sub _ hm)
  have hCw : C ∉ wr := fun hm => hCf (W.sub _ hm)
  have FD0 := F.stays khb
  let M' : List Addr := (C :: Da :: wr) ++ M
  have hMnew : ∀ q ∈ M', q ∈ M ∨ hb.get? q = none := fun q hq => by
    rcases List.mem_append.mp hq with hq | hq
    · rcases List.mem_cons.mp hq with rfl | hq
      · exact .inr hbC
      · rcases List.mem_cons.mp hq with rfl | hq
        · exact .inr hbD
        · exact .inr (hwr _ hq)
    · exact .inl hq
  -- what every state of the loop bears
  have kM' : ∀ {H : Heap}, (∀ b o, b ∉ C :: Da :: wr → hb.get? b = some o → Same H b o) → Stay hb H := fun kH b o e => kH b o (fun q => by
    rcases hMnew b (List.mem_append_left _ q) with q' | q'
    · rcases List.mem_cons.mp q with rfl | q
      · rw [hbC] at e; cases e
      · rcases List.mem_cons.mp q with rfl | q
        · rw [hbD] at e; cases e
        · rw [hwr _ q] at e; cases e
    · rw [q'] at e; cases e) e
  have fdOf : ∀ i H m v, i < N → (∀ b o, b ∉ C :: Da :: wr → hb.get? b = some o → Same H b o) → St (i + 1) H → (∃ ys, H.PlainList Da ys) → H.Ns C m → m x = some v → P i v →
      FD (cEnv scope env C) M' H ((x, it i) :: ρ) := fun i H m v hi kH hstH hacc hns hmx hPv => by
    have kS := kM' kH
    refine fd_comp ok FD0 (fun q hq => ?_) hns hmx ((hP i v hi hPv).kept (.of kS) hMnew) (fun d v hd => hd.kept (.of kS) hMnew) (fun c v hv => cell_same hv (kS _))
    rcases List.mem_append.mp hq with hq | hq
    · rcases List.mem_cons.mp hq with rfl | hq
      · obtain ⟨o, _, _, ho, _⟩ := hns; exact ⟨o, ho⟩
      · rcases List.mem_cons.mp hq with rfl | hq
        · obtain ⟨ys, n, ho⟩ := hacc; exact ⟨_, ho⟩
        · exact hlive _ _ hstH _ hq
    · exact kS.some (FD0.mok q hq)
  -- the loop
  have loop : ∀ s₃ : Shared, s₃ = { s with heap := h₁, toks := t₂ + ([] : List (Str × Value)).length } →
      codeAny (model prog w) A (.compLoop (.ListComp elt [⟨.Name x px, iter, ifs, 0⟩] scope pos) 0 (.ref I) (.ref Da) (cEnv scope env C))
        (compPost (model prog w) A NoE none (fun v s' => Then s (fun h' => Den M h' (.list (((List.range N).filter p).map f)) v) s') (.ref Da) C) s₃ := by
    rintro s₃ rfl
    refine codeAny_compLoop_tests
      (fun k s' => ∃ (i : Nat) (H : Heap) (tk : Nat) (m : Str → Option Value) (ys : List Value), s' = { s with heap := H, toks := tk } ∧ St i H ∧ H.PlainList Da ys.toArray ∧ H.Ns C m ∧ Dens M' H (((List.range i).filter p).map f) ys ∧ i ≤ N ∧ k = N + 1 - i ∧
        (∀ b o, b ∉ C :: Da :: wr → hb.get? b = some o → Same H b o)) ?_ (N + 1) ⟨0, h₁, _, _, [], rfl, hst₁, hacc₁, hns₁, by simp [Dens], Nat.zero_le _, rfl, fun b o _ e => (k₂ _ _ e).trans fun o e => .of (old _ _ e)⟩
    rintro kk s' ⟨i, H, tk, m, ys, rfl, hstH, haccH, hnsH, hdens, hi, rfl, kH⟩
    by_cases hlt : i < N
    · refine W.item i _ _ _ hlt hstH fun v H₁ tk₁ hPv hst₁ hk₁ => ?_
      have hxk : (cEnv scope env C).kindOf x = some .local := by show (relabel scope env).names.lookup x = _; rw [kind_relabel, ok5]
      refine wpAny_assign_Name (wpAny_storeName_local hxk (hnsH.at' fun o e => hk₁ _ o hCw e) (fun H₂ hn₂ hs₂ => ?_) (by show (scope.kind == .class || (scope.kind == .module && _)) = false; rw [ok4]; rfl))
      have hst₂ : St (i + 1) H₂ := W.frame _ _ _ hst₁ fun b hb' o e => hs₂.extBut b o (fun q => hCf ((show b = C from q) ▸ hb')) e
      have up : ∀ b o, b ∉ C :: Da :: wr → H.get? b = some o → H₂.get? b = some o := fun b o hbn e => hs₂.extBut b o (fun q => hbn ((show b = C from q) ▸ .head _)) (hk₁ b o (fun q => hbn (.tail _ (.tail _ q))) e)
      have kH₂ : ∀ b o, b ∉ C :: Da :: wr → hb.get? b = some o → Same H₂ b o := fun b o hbn e => (kH b o hbn e).trans fun o e => .of (up b o hbn e)
      have haccH₂ : H₂.PlainList Da ys.toArray := haccH.at fun o e => hs₂.extBut _ _ hDC (hk₁ _ _ hDw e)
      have hdens₂ : Dens M' H₂ (((List.range i).filter p).map f) ys := hdens.keep fun b o hbn e => .of (up b o (fun q => hbn (List.mem_append_left _ q)) e)
      have G := fdOf i H₂ _ v hlt kH₂ hst₂ ⟨_, haccH₂⟩ hn₂ (by simp) hPv
      have kh₂ : Stay h H₂ := stays_trans khb (kM' kH₂)
      refine (htests i M' C H₂ hlt kh₂ G).run (a.up (kM' kH₂)) (stays_refl _) fun okb H₃ tk₃ k₃ a hokb => ?_
      subst hokb
      have hst₃ : St (i + 1) H₃ := W.frame _ _ _ hst₂ fun b hb o e => (k₃ b o e).get (.inl (hnf _ _ hst₂ b hb o e))
      have kH₃ : ∀ b o, b ∉ C :: Da :: wr → hb.get? b = some o → Same H₃ b o := fun b o hbn e => (kH₂ b o hbn e).trans fun o e => k₃ _ _ e
      have hout := outs_succ (p := p) (f := f) i
      cases hpi : p i with
      | false =>
        simp only [Bool.false_eq_true, if_false]
        rw [hpi] at hout
        exact ⟨N + 1 - (i + 1), by omega, i + 1, H₃, tk₃, _, ys, rfl, hst₃, plain_same haccH₂ (k₃ _), ns_same hn₂ (k₃ _), by rw [hout]; simpa using hdens₂.stays k₃, hlt, rfl, kH₃⟩
      | true =>
        simp only [if_true]
        rw [hpi] at hout
        refine (helt i M' C H₃ hlt hpi (stays_trans kh₂ k₃) (G.stays k₃)).run a (stays_refl _) fun y H₄ tk₄ k₄ a hy => ?_
        have hys : ys.length ≤ i := by
          have e1 := hdens.length
          have e2 := List.length_filter_le p (List.range i)
          simp at e1 e2; omega
        refine wpAny_list_append_plain (hsz := by show ys.toArray.size ≤ 2 ^ 24; simp; omega) (plain_same (plain_same haccH₂ (k₃ _)) (k₄ _)) fun H₅ hl₅ hs₅ => ?_
        have k5 : Kept M' H₄ H₅ := .same hs₅ (.tail _ (.head _))
        refine ⟨N + 1 - (i + 1), by omega, i + 1, H₅, tk₄, _, ys ++ [y], rfl, ?_, by simpa using hl₅, (ns_same (ns_same hn₂ (k₃ _)) (k₄ _)).sameBut hs₅ (Ne.symm hDC), ?_, hlt, rfl, fun b o hbn e => ?_⟩
        · exact W.frame _ _ _ hst₃ fun b hb' o e => hs₅.extBut b o (fun q => hDf (q ▸ hb')) ((k₄ _ _ e).get (.inl (hnf _ _ hst₃ b hb' o e)))
        · rw [hout]
          exact (((hdens₂.stays k₃).stays k₄).keep k5).append (.cons (hy.keep k5) .nil)
        · exact (kH₃ b o hbn e).trans fun o e => (k₄ _ _ e).trans fun o e => .of (hs₅.extBut b o (fun q => hbn (q ▸ .tail _ (.head _))) e)
    · have hin : i = N := by omega
      subst hin
      refine W.done _ _ _ hstH fun H₁ tk₁ hk₁ => ?_
      refine ⟨m, hnsH.at' fun o e => hk₁ _ o hCw e, fun H' hs' => ?_⟩
      have up : ∀ b o, b ∉ C :: Da :: wr → H.get? b = some o → H'.get? b = some o := fun b o hbn e => hs'.extBut b o (fun q => hbn (q ▸ .head _)) (hk₁ b o (fun q => hbn (.tail _ (.tail _ q))) e)
      have kH' : ∀ b o, b ∉ C :: Da :: wr → hb.get? b = some o → Same H' b o := fun b o hbn e => (kH b o hbn e).trans fun o e => .of (up b o hbn e)
      have hl : H'.PlainList Da ys.toArray := haccH.at fun o e => hs'.extBut _ _ hDC (hk₁ _ _ hDw e)
      refine Then.mk (stays_trans kb (kM' kH')) (.of_list (fun q => ?_) hl.isList ?_)
      · obtain ⟨o, ho⟩ := FD0.mok _ q; rw [hbD] at ho; cases ho
      · exact Dens.kept (M := M') (M' := M) (fun b o hbn e => .of (up b o (fun q => hbn (List.mem_append_left _ q)) e)) (fun q hq => .inl (List.mem_append_right _ hq)) hdens
  exact codeAny_compStart_list (loop _ rfl) (W.self 0 _ _ _ hst₁ (loop _ rfl))
end Mine
end
section
open PySem PySem.W PySem.Calls PyProof.Rows
set_option maxRecDepth 100000
set_option maxHeartbeats 4000000
namespace Mine
variable [Bd]
section
variable {w : World} {n : Nat} {env : Env} {M : List Addr} {h : Heap} {ρ : List (Str × D)} {x : Str} {pos p : Pos} {d : D} {e : Expr} {rest es : List Expr} {f : Value} {ds : List D}

/-! comprehensions over data and ranges -/
theorem tests_nil {cenv : Env} : Ex w n h (testsT [] cenv) (fun ok _ => ok = true) := fun A s a k => wpAny_pure (Then.here rfl)
theorem tests_one {cenv : Env} {c : Expr} {b : Bool} (y : Tr w n cenv h c b) : Ex w n h (testsT [c] cenv) (fun ok _ => ok = b) := fun A s a k => by
  show wpAny _ _ (forIn [c] true _) _ _ _
  simp only [List.forIn_cons, List.forIn_nil, if_true]
  exact wpAny_bind (wpAny_bind (y.run a k fun v h' tk k' a q => wpAny_pure (wpAny_pure (Then.mk k' q))))
theorem range_getD {p : D → Bool} {f : D → D} : ∀ (l : List D), ((List.range l.length).filter fun i => p (l.getD i .none)).map (fun i => f (l.getD i .none)) = (l.filter p).map f := by
  intro l
  induction l with
  | nil => rfl
  | cons a l ih =>
    rw [List.length_cons, List.range_succ_eq_map, List.filter_cons, List.filter_map]
    have e : ((fun i => p ((a :: l).getD i .none)) ∘ Nat.succ) = fun i => p (l.getD i .none) := by funext i; simp
    have e2 : (fun i => f ((a :: l).getD i .none)) ∘ Nat.succ = fun i => f (l.getD i .none) := by funext i; simp
    rw [e]
    cases hp : p a with
    | true => simp [hp, List.filter_cons]; rw [← ih]; simp
    | false => simp [hp, List.filter_cons]; rw [← ih]; simp
theorem ev_comp_list {elt iter : Expr} {x : Str} {px pos : Pos} {ifs : List Expr} {scope : Scope} {l : List D} {p : D → Bool} {f : D → D}
    (F : FD env M h ρ) (ok : compOk scope env x ρ = true) (hiter : Ev w n env M h iter (.list l))
    (htests : ∀ d ∈ l, ∀ M' C h', Stay h h' → FD (cEnv scope env C) M' h' ((x, d) :: ρ) → Ex w n h' (testsT ifs (cEnv scope env C)) (fun ok _ => ok = p d))
    (helt : ∀ d ∈ l, ∀ M' C h', p d = true → Stay h h' → FD (cEnv scope env C) M' h' ((x, d) :: ρ) → Ev w n (cEnv scope env C) M' h' elt (f d))
    (hN : l.length ≤ 2 ^ 20) (hs : ∀ x, foldedSetIterable iter env x = pure x := by intro _; rfl) :
    Ev w n env M h (.ListComp elt [⟨.Name x px, iter, ifs, 0⟩] scope pos) (.list ((l.filter p).map f)) := by
  rw [← range_getD]
  have mem : ∀ i, i < l.length → l.getD i .none ∈ l := fun i hi => by simp [List.getD, hi]
  refine ev_comp (it := fun i => l.getD i .none) F ok (hiter.post fun v h' _ q => itr_list q) (fun i M' C h' hi k G => ?_) (fun i M' C h' hi hp k G => ?_) hN hs
  · exact htests _ (mem i hi) M' C h' k G
  · exact helt _ (mem i hi) M' C h' hp k G
theorem ev_comp_range {elt iter : Expr} {x : Str} {px pos : Pos} {ifs : List Expr} {scope : Scope} {a b : Int} {p : Nat → Bool} {f : Nat → D}
    (F : FD env M h ρ) (ok : compOk scope env x ρ = true) (hiter : Ex w n h (eval iter env) (fun v h' => RangeV a b h' v))
    (ha : -(2 ^ 20) ≤ a) (ha' : a ≤ 2 ^ 20) (hb : -(2 ^ 20) ≤ b) (hb' : b ≤ 2 ^ 20) (hab : b - a ≤ 2 ^ 20)
    (htests : ∀ (i : Nat), i < (b - a).toNat → ∀ M' C h', Stay h h' → FD (cEnv scope env C) M' h' ((x, .int (a + i)) :: ρ) → Ex w n h' (testsT ifs (cEnv scope env C)) (fun ok _ => ok = p i))
    (helt : ∀ (i : Nat), i < (b - a).toNat → ∀ M' C h', p i = true → Stay h h' → FD (cEnv scope env C) M' h' ((x, .int (a + i)) :: ρ) → Ev w n (cEnv scope env C) M' h' elt (f i))
    (hs : ∀ x, foldedSetIterable iter env x = pure x := by intro _; rfl) :
    Ev w n env M h (.ListComp elt [⟨.Name x px, iter, ifs, 0⟩] scope pos) (.list (((List.range (b - a).toNat).filter p).map f)) :=
  ev_comp (it := fun i => .int (a + i)) F ok (hiter.post fun v h' _ q => itr_range q (by omega) (by omega) (by omega) (by omega)) (fun i M' C h' hi k G => htests i hi M' C h' k G)
    (fun i M' C h' hi hp k G => helt i hi M' C h' hp k G) (by omega) hs

/-! displays -/
noncomputable abbrev ExL (w : World) (n : Nat) (env : Env) (M : List Addr) (h : Heap) (pos : Pos) (es : List Expr) (ds : List D) : Prop := Ex w n h (spliced (backTo pos (starEach es env))) (fun vs h' => Dens M h' ds vs)
theorem exl_nil : ExL w n env M h pos [] [] := fun A s a k => spliced_nil (Then.here Dens.nil)
theorem exl_cons (x : Ev w n env M h e d) (y : ExL w n env M h pos rest ds) (he : starEach (e :: rest) env = (false, eval e env) :: starEach rest env := by rfl) : ExL w n env M h pos (e :: rest) (d :: ds) := fun A s a k => by
  rw [he]
  show wpAny _ _ (spliced ((false, eval e env) :: backTo pos (starEach rest env))) _ _ _
  exact spliced_cons (x.run a k fun v h1 t1 k1 a p1 => y.run a (stays_trans k k1) fun vs h2 t2 k2 a p2 => Then.mk (stays_trans k1 k2) (.cons (p1.stays k2) p2))
theorem ev_list (F : MOk M h) (x : ExL w n env M h pos es ds) (hs : ds.length ≤ 2 ^ 24) : Ev w n env M h (.List es pos) (.list ds) := fun A s a k =>
  List_ (x.run a k fun vs h1 t1 k1 a p1 => by
    have hl := p1.length
    refine wpAny_newObj_type (Then.mk (stays_trans k1 (push_stays _ _)) (.of_list (F.stays (stays_trans k k1)).fresh isList_push (p1.stays (push_stays _ _)))) (by show vs.toArray.size ≤ 2 ^ 24; simp [hl]; omega))

/-! calls -/
noncomputable def KeepOk (w : World) (f : Value) : Prop := ∀ h', Frag.In (K39 w.params) h' → ∃ k, (k = Keeper.frame ∨ k = Keeper.machine ∨ k = Keeper.boundFrame) ∧ Looks (model prog w) h' (keeperOf f) k
theorem keep_builtin {id : String} : KeepOk w (.builtin id) := fun h' _ => ⟨.machine, .inr (.inl rfl), Looks.of_pure rfl⟩
theorem keep_type {id : String} : KeepOk w (.type id) := fun h' _ => ⟨.machine, .inr (.inl rfl), Looks.of_pure rfl⟩
theorem keep_def (hk : keepIn (K39 w.params) f = true) : KeepOk w f := fun h' K => keeps_K hk h' K
theorem ex_callWith {first : List Value} {P : Value → Heap → Prop} (X : TR w h) (hk : KeepOk w f) (hargs : ExL w n env M h pos (e :: rest) ds)
    (hc : ∀ h' vs, Stay h h' → Dens M h' ds vs → Ex w n h' (PySem.call f (first ++ vs) []) P) (he : starEach (e :: rest) env = (false, eval e env) :: starEach rest env := by rfl)
    (hplain : (backTo pos (starEach rest env)).any (·.1) = false := by rfl) : Ex w n h (callWith p f first (backTo pos (starEach (e :: rest) env)) []) P := fun A s a k => by
  unfold ExL at hargs
  rw [he] at hargs ⊢
  refine callWith_of (P := fun h' => Frag.In (K39 w.params) h') (by show ((false || (backTo pos (starEach rest env)).any (·.1)) || false) = false; rw [hplain]; rfl) hk (evalArgs_plain ?_)
  exact hargs.run a k fun vs h1 t1 k1 a p1 => ⟨(X.stays (stays_trans k k1)).K, (hc h1 vs (stays_trans k k1) p1).run a (stays_refl _) fun v h2 t2 k2 a p2 => Then.mk (stays_trans k1 k2) p2⟩
theorem ex_call {P : Value → Heap → Prop} {p' : Pos} (X : TR w h) (hf : Ex w n h (eval (.Name x p') env) (fun u _ => u = f)) (hk : KeepOk w f) (hargs : ExL w n env M h pos (e :: rest) ds)
    (hc : ∀ h' vs, Stay h h' → Dens M h' ds vs → Ex w n h' (PySem.call f vs []) P) (he : starEach (e :: rest) env = (false, eval e env) :: starEach rest env := by rfl)
    (hplain : (backTo pos (starEach rest env)).any (·.1) = false := by rfl) : Ex w n h (eval (.Call (.Name x p') (e :: rest) [] pos) env) P := fun A s a k =>
  Call_Name rfl (hf.run a k fun u h1 t1 k1 a p1 => by
    subst p1
    exact (ex_callWith (p := pos) (first := []) (X.stays (stays_trans k k1)) hk (hargs.up (stays_trans k k1)) (fun h' vs k' q => hc h' vs (stays_trans k (stays_trans k1 k')) q) he hplain).run a (stays_refl _)
      fun v h2 t2 k2 a p2 => Then.mk (stays_trans k1 k2) p2)

/-! built-ins -/
theorem c_len_list {l : List D} {v : Value} (hv : Den M h (.list l) v) (hl : l.length < 2 ^ 24) : Ex w n h (PySem.call (.builtin "len") [v] []) (fun u h' => Den M h' (.int l.length) u) := fun A s a k => by
  have hv := hv.stays k
  simp only [Den] at hv; obtain ⟨r, vs, rfl, _, hl', dl⟩ := hv
  have hlen := dl.length
  refine call_len_list hl' (by simp [hlen]; omega) (Then.tok (P := fun h' => Den M h' (.int l.length) _) ?_)
  have : ((vs.toArray.size : Nat) : Int) = l.length := by simp [hlen]
  rw [this]; exact Den.int'
theorem c_len_str {y : Str} {v : Value} (hv : Den M h (.str y) v) (hl : y.length < 2 ^ 24) : Ex w n h (PySem.call (.builtin "len") [v] []) (fun u h' => Den M h' (.int y.length) u) := fun A s a k => by
  simp only [Den] at hv; obtain ⟨t, rfl⟩ := hv
  exact SBL.len (by omega) (Then.tok (P := fun h' => Den M h' (.int y.length) _) Den.int')
theorem c_range1 {b : Int} {v : Value} (hv : Den M h (.int b) v) : Ex w n h (PySem.call (.type "range") [v] []) (fun u h' => RangeV 0 b h' u) := fun A s a k => by
  simp only [Den] at hv; obtain ⟨t, rfl⟩ := hv
  exact call_range_1 (Then.mk (push_stays _ _) ⟨_, _, _, _, rfl, IsRange.new ..⟩)
theorem c_range2 {a b : Int} {v u : Value} (hv : Den M h (.int a) v) (hu : Den M h (.int b) u) : Ex w n h (PySem.call (.type "range") [v, u] []) (fun u h' => RangeV a b h' u) := fun A s a k => by
  simp only [Den] at hv hu; obtain ⟨t, rfl⟩ := hv; obtain ⟨t', rfl⟩ := hu
  exact call_range_2 (Then.mk (push_stays _ _) ⟨_, _, _, _, rfl, IsRange.new ..⟩)
theorem c_list_range {a b : Int} {v : Value} (F : MOk M h) (hv : RangeV a b h v) (ha : -(2 ^ 20) ≤ a) (ha' : a ≤ 2 ^ 20) (hb : -(2 ^ 20) ≤ b) (hb' : b ≤ 2 ^ 20) (hab : b - a ≤ 2 ^ 20) :
    Ex w n h (PySem.call (.type "list") [v] []) (fun u h' => Den M h' (.list ((List.range (b - a).toNat).map fun (i : Nat) => D.int (a + (i : Int)))) u) := fun A s ao k => by
  obtain ⟨r, t, u, q, rfl, hr⟩ := hv.stays k
  refine call_list_range (n := (b - a).toNat) ao.handled hr (small_one (by omega) (by omega) (by omega) (by omega)) (by rw [rangeSize_one]; split <;> omega) (by omega) fun h' tk acc c' k' e items => ?_
  refine Then.mk (.of k') (.of_list (vs := acc.toList) (F.stays k).fresh ⟨_, by simpa using e, rfl, _, rfl⟩ ?_)
  have key : ∀ (N : Nat) (acc : List Value), acc.length = N → (∀ (j : Nat) (v : Value), acc[j]? = some v → ∃ t, v = Value.int (a + (j : Int) * 1) t) → Dens M h' ((List.range N).map fun (i : Nat) => D.int (a + (i : Int))) acc := by
    intro N
    induction N with
    | zero => intro acc hl _; rw [List.length_eq_zero_iff.mp hl]; simp [Dens]
    | succ N ih =>
      intro acc hl hv
      rw [List.range_succ, List.map_append]
      have hne : acc ≠ [] := by intro e; simp [e] at hl
      rw [← List.dropLast_concat_getLast hne]
      refine (ih _ (by simp [hl]) fun j v hj => hv j v ?_).append (.cons ?_ .nil)
      · rw [List.getElem?_dropLast] at hj; split at hj <;> first | exact hj | cases hj
      · obtain ⟨t, e⟩ := hv N (acc.getLast hne) (by rw [List.getLast_eq_getElem, List.getElem?_eq_getElem (by omega)]; simp [hl])
        rw [e, Int.mul_one]; exact Den.int'
  exact key _ _ (by simpa using items.1) fun j v hj => items.2 j v (by simpa using hj)
theorem c_isinstance {y : Str} {v : Value} (hv : Den M h (.str y) v) : Ex w n h (PySem.call (.builtin "isinstance") [v, .type "str"] []) (fun u h' => u = .bool true) := fun A s a k => by
  simp only [Den] at hv; obtain ⟨t, rfl⟩ := hv
  exact IsiPair.str_str (Then.here rfl)
end
end Mine
end
section
open PySem PySem.W PySem.Calls PyProof.Rows
set_option maxRecDepth 100000
set_option maxHeartbeats 4000000
namespace Mine
variable [Bd]

noncomputable def OwnL (M : List Addr) (h : Heap) (r : Addr) (ds : List D) : Prop := ∃ vs : List Value, h.PlainList r vs.toArray ∧ Dens M h ds vs

/-- a frame: its data by name, its own lists, the base heap that stays -/
structure FS (env : Env) (M₀ X : List Addr) (h₀ h : Heap) (ρ : List (Str × D)) (σ : List (Addr × List D)) : Prop where
  fd : FD env (X ++ M₀) h ρ
  base : Stay h₀ h
  ns : ∃ mL, h.Ns env.locals mL
  new : ∀ a ∈ X, h₀.get? a = none
  lm : env.locals ∈ X
  cm : ∀ x c, env.cells.lookup x = some c → c ∈ X ∧ c ≠ env.locals ∧ ∃ v, h.IsCell c v
  cd : ∀ x y c, env.cells.lookup x = some c → env.cells.lookup y = some c → x = y
  own : ∀ r ds, (r, ds) ∈ σ → OwnL (X ++ M₀) h r ds ∧ r ∈ X ∧ r ≠ env.locals ∧ ∀ x, env.cells.lookup x ≠ some r
  od : σ.Pairwise (fun x y => x.1 ≠ y.1)

section
variable {env : Env} {M₀ X : List Addr} {h₀ h h' : Heap} {ρ : List (Str × D)} {σ : List (Addr × List D)} {x : Str} {d : D} {v : Value}

theorem OwnL.stays {M r ds} {h h' : Heap} (o : OwnL M h r ds) (k : Stay h h') : OwnL M h' r ds := let ⟨vs, a, b⟩ := o; ⟨vs, plain_same a (k r), b.stays k⟩
theorem FS.grow (F : FS env M₀ X h₀ h ρ σ) (k : Stay h h') : FS env M₀ X h₀ h' ρ σ :=
  ⟨F.fd.stays k, stays_trans F.base k, let ⟨m, e⟩ := F.ns; ⟨m, ns_same e (k _)⟩, F.new, F.lm, fun x c e => let ⟨a, b, v, c⟩ := F.cm x c e; ⟨a, b, v, cell_same c (k _)⟩, F.cd,
    fun r ds m => let ⟨a, b⟩ := F.own r ds m; ⟨a.stays k, b⟩, F.od⟩
noncomputable def Has (ρ : List (Str × D)) : List (Str × D) → Prop
  | [] => True
  | q :: r => ρ.lookup q.1 = some q.2 ∧ Has ρ r
theorem Has.mem {ρ : List (Str × D)} : ∀ {ρ' : List (Str × D)}, Has ρ ρ' → ∀ q ∈ ρ', ρ.lookup q.1 = some q.2
  | _ :: _, ⟨a, _⟩, _, .head _ => a
  | _ :: _, ⟨_, b⟩, _, .tail _ m => b.mem _ m
theorem FS.names {ρ' : List (Str × D)} (F : FS env M₀ X h₀ h ρ σ) (hs : Has ρ ρ' := by repeat' (first | exact True.intro | refine And.intro rfl ?_)) : FS env M₀ X h₀ h ρ' σ :=
  { F with fd := ⟨F.fd.mok, F.fd.kind, fun x d e => F.fd.var x d (by
      have key : ∀ {l : List (Str × D)}, l.lookup x = some d → (x, d) ∈ l := by
        intro l
        induction l with
        | nil => intro e; cases e
        | cons q l ih =>
          intro e
          obtain ⟨n, k⟩ := q
          rw [List.lookup_cons] at e
          by_cases hn : (x == n) = true
          · rw [hn] at e; have := beq_iff_eq.mp hn; subst this; cases e; exact .head _
          · simp only [Bool.not_eq_true] at hn; rw [hn] at e; exact .tail _ (ih e)
      exact hs.mem _ (key e))⟩ }
theorem FS.rebase (F : FS env M₀ X h₀ h ρ σ) : FS env M₀ X (hideAll h X) h ρ σ :=
  { F with base := .of fun b o e => of_hideAll X e, new := fun a m => hideAll_none X m }
theorem FS.unbase {h₁ : Heap} (F : FS env M₀ X h₁ h ρ σ) (k : Stay h₀ h₁) : FS env M₀ X h₀ h ρ σ :=
  { F with base := stays_trans k F.base, new := fun a m => none_of_stays k (F.new a m) }
theorem FS.hidden (F : FS env M₀ X h₀ h ρ σ) : Stay h₀ (hideAll h X) := fun b o e => let ⟨sl, e', f⟩ := F.base b o e; ⟨sl, hideAll_get X e' (fun m => by rw [F.new b m] at e; cases e), f⟩
/-- own lists seen as data -/
theorem FS.view {r : Addr} {ds : List D} (F : FS env M₀ X h₀ h ρ σ) (hx : ρ.lookup x = some (.ref r)) (hr : (r, ds) ∈ σ) : FD env [] h ((x, .list ds) :: ρ) := by
  refine ⟨MOk.nil, F.fd.kind, fun z e hz => ?_⟩
  rw [List.lookup_cons] at hz
  have toNil : ∀ {d v}, Den (X ++ M₀) h d v → Den [] h d v := fun y => Den.kept (M := X ++ M₀) (M' := []) Kept.refl (fun a m => nomatch m) y
  by_cases hzx : (z == x) = true
  · have := beq_iff_eq.mp hzx; subst this
    rw [hzx] at hz; cases hz
    obtain ⟨u, hu, du⟩ := F.fd.var z _ hx
    simp only [Den] at du; subst du
    obtain ⟨⟨vs, hl, hd⟩, _⟩ := F.own r ds hr
    exact ⟨_, hu, .of_list (fun m => nomatch m) hl.isList (Dens.kept (M := X ++ M₀) (M' := []) Kept.refl (fun a m => nomatch m) hd)⟩
  · simp only [Bool.not_eq_true] at hzx
    rw [hzx] at hz
    obtain ⟨u, hu, du⟩ := F.fd.var z e hz
    exact ⟨u, hu, toNil du⟩
theorem FD.nil {M} (F : FD env M h ρ) : FD env [] h ρ := ⟨MOk.nil, F.kind, fun z e hz => let ⟨u, hu, du⟩ := F.var z e hz; ⟨u, hu, Den.kept (M := M) (M' := []) Kept.refl (fun a m => nomatch m) du⟩⟩

/-- what a change at one own address keeps -/
theorem FS.change {a : Addr} (F : FS env M₀ X h₀ h ρ σ) (hs : Heap.SameBut a h h') (ha : a ∈ X) {ρ' : List (Str × D)} {σ' : List (Addr × List D)} (hns : ∃ mL, h'.Ns env.locals mL)
    (hao : ∃ o, h'.get? a = some o)
    (hvar : ∀ z e, ρ'.lookup z = some e → ∃ v, VarAt env h' z v ∧ Den (X ++ M₀) h' e v)
    (hcell : ∀ z c, env.cells.lookup z = some c → ∃ v, h'.IsCell c v)
    (hown : ∀ r ds, (r, ds) ∈ σ' → OwnL (X ++ M₀) h' r ds ∧ r ∈ X ∧ r ≠ env.locals ∧ ∀ x, env.cells.lookup x ≠ some r)
    (hod : σ'.Pairwise (fun x y => x.1 ≠ y.1)) : FS env M₀ X h₀ h' ρ' σ' :=
  ⟨⟨fun q m => by
      obtain ⟨o, e⟩ := F.fd.mok q m
      by_cases hqa : q = a
      · subst hqa; exact hao
      · exact ⟨o, (hs.2 q hqa).trans e⟩, F.fd.kind, hvar⟩,
    fun b o e => (F.base b o e).trans fun o' e' => .of ((hs.2 b (fun q => by rw [q, F.new a ha] at e; cases e)).trans e'), hns, F.new, F.lm, fun z c e => let ⟨a, b, _⟩ := F.cm z c e; ⟨a, b, hcell z c e⟩, F.cd, hown, hod⟩

theorem ow_change {a r : Addr} {ds : List D} {M : List Addr} (o : OwnL M h r ds) (hs : Heap.SameBut a h h') (hra : r ≠ a) (ha : a ∈ M) : OwnL M h' r ds :=
  let ⟨vs, p, q⟩ := o; ⟨vs, p.at fun ob e => (hs.2 r hra).trans e, q.keep (.same hs ha)⟩

theorem ns_nd {h : Heap} {a : Addr} {m} (hn : h.Ns a m) : ∃ o, h.get? a = some o ∧ nd o = false := let ⟨o, es, ep, e, d, _⟩ := hn; ⟨o, e, by unfold nd; rw [d]⟩
theorem FS.store {w : World} {n : Nat} {A : Around} {s : Shared} {Q : Unit → Shared → Prop} {E : Value → Shared → Prop} (a : AOk n A s.heap) (F : FS env M₀ X h₀ s.heap ρ σ) (hv : Den (X ++ M₀) s.heap d v)
    (hk : env.kindOf x = some .local ∨ (env.kindOf x = some .cell ∧ (env.cells.lookup x).isSome = true))
    (H : ∀ h' tk, AOk n A h' → FS env M₀ X h₀ h' ((x, d) :: ρ) σ → (∀ b o, b ∉ X → s.heap.get? b = some o → h'.get? b = some o) → Q () { s with heap := h', toks := tk }) : wpAny (model prog w) A (storeName env x v) Q E s := by
  have hM : ∀ a ∈ X, a ∈ X ++ M₀ := fun a m => List.mem_append_left _ m
  rcases hk with hk | ⟨hk, hc⟩
  · obtain ⟨mL, hns⟩ := F.ns
    refine wpAny_storeName_local hk hns (fun h' hn hs => H h' _ (a.change hs fun _ _ _ => ns_nd hn) ?_ (fun b o nb e => (hs.2 b fun q => nb (q ▸ F.lm)).trans e)) (by show (env.scope.kind == .class || _) = false; rw [F.fd.kind]; rfl)
    have hcell : ∀ z c, env.cells.lookup z = some c → ∀ {v}, s.heap.IsCell c v → h'.IsCell c v := fun z c e v y => y.sameBut hs (F.cm z c e).2.1
    refine F.change hs F.lm ⟨_, hn⟩ (let ⟨o, _, _, ho, _⟩ := hn; ⟨o, ho⟩) (fun z e hz => ?_) (fun z c e => let ⟨v, y⟩ := (F.cm z c e).2.2; ⟨v, hcell z c e y⟩) (fun r ds m => let ⟨a, b, c, d⟩ := F.own r ds m; ⟨ow_change a hs c (hM _ F.lm), b, c, d⟩) F.od
    rw [List.lookup_cons] at hz
    by_cases hzx : (z == x) = true
    · have := beq_iff_eq.mp hzx; subst this
      rw [hzx] at hz; cases hz
      exact ⟨v, by simp only [VarAt, hk]; exact ⟨_, hn, by simp⟩, hv.keep (.same hs (hM _ F.lm))⟩
    · have hne : z ≠ x := fun q => hzx (beq_iff_eq.mpr q)
      simp only [Bool.not_eq_true] at hzx
      rw [hzx] at hz
      obtain ⟨u, hu, du⟩ := F.fd.var z e hz
      refine ⟨u, ?_, du.keep (.same hs (hM _ F.lm))⟩
      unfold VarAt at hu ⊢
      split at hu
      · obtain ⟨m2, e1, e2⟩ := hu
        refine ⟨_, hn, ?_⟩
        have : m2 = mL := by
          obtain ⟨o1, es1, _, g1, d1, _, f1⟩ := e1
          obtain ⟨o2, es2, _, g2, d2, _, f2⟩ := hns
          rw [g1] at g2; cases g2; rw [d1] at d2; cases d2
          funext y; rw [← f1, ← f2]
        subst this
        simp [hne, e2]
      · obtain ⟨c, e1, e2⟩ := hu; exact ⟨c, e1, hcell _ c e1 e2⟩
      · obtain ⟨c, e1, e2⟩ := hu; exact ⟨c, e1, hcell _ c e1 e2⟩
      · trivial
  · obtain ⟨c, hc⟩ := Option.isSome_iff_exists.mp hc
    obtain ⟨cX, cL, v₀, hcv⟩ := F.cm x c hc
    refine wpAny_storeName_cell F.fd.kind hk hc hcv fun h' hv' hs => ?_
    have H' := H h' s.toks (a.change hs fun o e1 e2 => by obtain ⟨o', e3, e4⟩ := hcv; rw [e3] at e1; cases e1; unfold nd at e2; rw [e4] at e2; cases e2) ?_ (fun b o nb e => (hs.2 b fun q => nb (q ▸ cX)).trans e)
    · exact H'
    obtain ⟨mL, hns⟩ := F.ns
    have hn : h'.Ns env.locals mL := hns.sameBut hs (Ne.symm cL)
    have hcell : ∀ z c', env.cells.lookup z = some c' → z ≠ x → ∀ {v}, s.heap.IsCell c' v → h'.IsCell c' v := fun z c' e hzx v y => y.sameBut hs fun q => hzx (F.cd z x c (q ▸ e) hc)
    refine F.change hs cX ⟨_, hn⟩ (let ⟨o, ho, _⟩ := hv'; ⟨o, ho⟩) (fun z e hz => ?_) (fun z c' e => ?_) (fun r ds m => let ⟨a, b, c'', d⟩ := F.own r ds m; ⟨ow_change a hs (fun q => d x (q ▸ hc)) (hM _ cX), b, c'', d⟩) F.od
    · rw [List.lookup_cons] at hz
      by_cases hzx : (z == x) = true
      · have := beq_iff_eq.mp hzx; subst this
        rw [hzx] at hz; cases hz
        exact ⟨v, by simp only [VarAt, hk]; exact ⟨c, hc, hv'⟩, hv.keep (.same hs (hM _ cX))⟩
      · have hne : z ≠ x := fun q => hzx (beq_iff_eq.mpr q)
        simp only [Bool.not_eq_true] at hzx
        rw [hzx] at hz
        obtain ⟨u, hu, du⟩ := F.fd.var z e hz
        refine ⟨u, ?_, du.keep (.same hs (hM _ cX))⟩
        unfold VarAt at hu ⊢
        split at hu
        · obtain ⟨m2, e1, e2⟩ := hu; exact ⟨m2, e1.sameBut hs (Ne.symm cL), e2⟩
        · obtain ⟨c', e1, e2⟩ := hu; exact ⟨c', e1, hcell _ c' e1 hne e2⟩
        · obtain ⟨c', e1, e2⟩ := hu; exact ⟨c', e1, hcell _ c' e1 hne e2⟩
        · trivial
    · by_cases hzx : z = x
      · subst hzx; rw [hc] at e; cases e; exact ⟨_, hv'⟩
      · obtain ⟨_, _, v, y⟩ := F.cm z c' e; exact ⟨v, hcell z c' e hzx y⟩

/-- a new object becomes an own list -/
theorem FS.adopt {r : Addr} {ds : List D} (F : FS env M₀ X h₀ h ρ σ) (k : Stay h h') (hr : h.get? r = none) (o : ∃ vs : List Value, h'.PlainList r vs.toArray ∧ Dens (r :: X ++ M₀) h' ds vs) : FS env M₀ (r :: X) h₀ h' ρ ((r, ds) :: σ) := by
  have F' := F.grow k
  have up : ∀ {d v}, Den (X ++ M₀) h d v → Den (r :: X ++ M₀) h' d v := fun y => y.kept (.of k) fun a m => by
    rcases List.mem_cons.mp m with rfl | m
    · exact .inr hr
    · exact .inl m
  have ups : ∀ {d v}, Dens (X ++ M₀) h d v → Dens (r :: X ++ M₀) h' d v := fun y => y.kept (.of k) fun a m => by
    rcases List.mem_cons.mp m with rfl | m
    · exact .inr hr
    · exact .inl m
  obtain ⟨vs, hp, hd⟩ := o
  have hrL : r ≠ env.locals := by obtain ⟨mL, o, _, _, ho, _⟩ := F.ns; exact Ne.symm (ne_of_get ho hr)
  have hrc : ∀ x, env.cells.lookup x ≠ some r := fun x e => by obtain ⟨_, _, v, o, ho, _⟩ := F.cm x r e; rw [hr] at ho; cases ho
  refine ⟨⟨fun q m => ?_, F.fd.kind, fun z e hz => ?_⟩, F'.base, F'.ns, fun a m => ?_, .tail _ F.lm, fun z c e => let ⟨a, b⟩ := F'.cm z c e; ⟨.tail _ a, b⟩, F.cd, fun r' ds' m => ?_, ?_⟩
  · rcases List.mem_cons.mp m with rfl | m
    · obtain ⟨n, ho⟩ := hp; exact ⟨_, ho⟩
    · exact F'.fd.mok q m
  · obtain ⟨u, hu, du⟩ := F.fd.var z e hz
    exact ⟨u, hu.stays k, up du⟩
  · rcases List.mem_cons.mp m with rfl | m
    · exact none_of_stays F.base hr
    · exact F.new a m
  · rcases List.mem_cons.mp m with e | m
    · cases e; exact ⟨⟨vs, hp, hd⟩, .head _, hrL, hrc⟩
    · obtain ⟨⟨vs', hp', hd'⟩, b, c⟩ := F.own r' ds' m
      exact ⟨⟨vs', plain_same hp' (k r'), ups hd'⟩, .tail _ b, c⟩
  · refine List.Pairwise.cons (fun q m => ?_) F.od
    obtain ⟨⟨vs', ⟨n, ho⟩, _⟩, _⟩ := F.own q.1 q.2 m
    exact Ne.symm (ne_of_get ho hr)
/-- an own list is let go -/
theorem FS.drop {r : Addr} {ds : List D} (F : FS env M₀ (r :: X) h₀ h ρ ((r, ds) :: σ)) (hlm : env.locals ≠ r) : FS env M₀ X h₀ h ρ σ := by
  have dn : ∀ {d v}, Den (r :: X ++ M₀) h d v → Den (X ++ M₀) h d v := fun y => y.kept .refl fun a m => .inl (.tail _ m)
  have dns : ∀ {d v}, Dens (r :: X ++ M₀) h d v → Dens (X ++ M₀) h d v := fun y => y.kept .refl fun a m => .inl (.tail _ m)
  have hr := F.own r ds (.head _)
  refine ⟨⟨fun q m => F.fd.mok q (.tail _ m), F.fd.kind, fun z e hz => let ⟨u, hu, du⟩ := F.fd.var z e hz; ⟨u, hu, dn du⟩⟩, F.base, F.ns, fun a m => F.new a (.tail _ m), ?_, fun z c e => ?_, F.cd, fun r' ds' m => ?_, (List.pairwise_cons.mp F.od).2⟩
  · rcases List.mem_cons.mp F.lm with e | m
    · exact absurd e hlm
    · exact m
  · obtain ⟨a, b⟩ := F.cm z c e
    refine ⟨?_, b⟩
    rcases List.mem_cons.mp a with q | m
    · exact absurd (q ▸ e) (hr.2.2.2 z)
    · exact m
  · obtain ⟨⟨vs, hp, hd⟩, b, c⟩ := F.own r' ds' (.tail _ m)
    refine ⟨⟨vs, hp, dns hd⟩, ?_, c⟩
    rcases List.mem_cons.mp b with q | m'
    · exact absurd q.symm ((List.pairwise_cons.mp F.od).1 _ m)
    · exact m'
/-- further addresses that the data avoid -/
theorem FS.addM {wr : List Addr} (F : FS env M₀ X h₀ h ρ σ) (k : Stay h h') (hn : ∀ a ∈ wr, h.get? a = none) (hl : ∀ a ∈ wr, ∃ o, h'.get? a = some o) : FS env (wr ++ M₀) X h₀ h' ρ σ := by
  have F' := F.grow k
  have hm : ∀ a ∈ X ++ (wr ++ M₀), a ∈ X ++ M₀ ∨ h.get? a = none := fun a m => by
    rcases List.mem_append.mp m with m | m
    · exact .inl (List.mem_append_left _ m)
    · rcases List.mem_append.mp m with m | m
      · exact .inr (hn a m)
      · exact .inl (List.mem_append_right _ m)
  have up : ∀ {d v}, Den (X ++ M₀) h d v → Den (X ++ (wr ++ M₀)) h' d v := fun y => y.kept (.of k) hm
  have ups : ∀ {d v}, Dens (X ++ M₀) h d v → Dens (X ++ (wr ++ M₀)) h' d v := fun y => y.kept (.of k) hm
  refine ⟨⟨fun q m => ?_, F.fd.kind, fun z e hz => let ⟨u, hu, du⟩ := F.fd.var z e hz; ⟨u, hu.stays k, up du⟩⟩, F'.base, F'.ns, F.new, F.lm, F'.cm, F.cd, fun r ds m => ?_, F.od⟩
  · rcases List.mem_append.mp m with m | m
    · exact F'.fd.mok q (List.mem_append_left _ m)
    · rcases List.mem_append.mp m with m | m
      · exact hl q m
      · exact F'.fd.mok q (List.mem_append_right _ m)
  · obtain ⟨⟨vs, hp, hd⟩, b⟩ := F.own r ds m
    exact ⟨⟨vs, plain_same hp (k r), ups hd⟩, b⟩
theorem VarAt.kept {z : Str} {v : Value} {wr : List Addr} (y : VarAt env h z v) (k : ∀ b o, b ∉ wr → h.get? b = some o → h'.get? b = some o) (hl : env.locals ∉ wr) (hc : ∀ x c, env.cells.lookup x = some c → c ∉ wr) : VarAt env h' z v := by
  unfold VarAt at y ⊢
  split at y
  · obtain ⟨m2, e1, e2⟩ := y; exact ⟨m2, e1.at' fun o e => k _ o hl e, e2⟩
  · obtain ⟨c, e1, o, e2, e3⟩ := y; exact ⟨c, e1, o, k _ o (hc _ _ e1) e2, e3⟩
  · obtain ⟨c, e1, o, e2, e3⟩ := y; exact ⟨c, e1, o, k _ o (hc _ _ e1) e2, e3⟩
  · trivial
/-- a change of what lies beside the frame -/
theorem FS.beside {wr : List Addr} (F : FS env (wr ++ M₀) X h₀ h ρ σ) (k : ∀ b o, b ∉ wr → h.get? b = some o → h'.get? b = some o) (hX : ∀ a ∈ wr, a ∉ X) (hl : ∀ a ∈ wr, ∃ o, h'.get? a = some o) (h0 : ∀ a ∈ wr, h₀.get? a = none) :
    FS env (wr ++ M₀) X h₀ h' ρ σ := by
  have kM : Kept (X ++ (wr ++ M₀)) h h' := fun b o n e => .of (k b o (fun q => n (List.mem_append_right _ (List.mem_append_left _ q))) e)
  have hL : env.locals ∉ wr := fun q => hX _ q F.lm
  have hC : ∀ x c, env.cells.lookup x = some c → c ∉ wr := fun x c e q => hX _ q (F.cm x c e).1
  refine ⟨⟨fun q m => ?_, F.fd.kind, fun z e hz => let ⟨u, hu, du⟩ := F.fd.var z e hz; ⟨u, hu.kept k hL hC, du.keep kM⟩⟩, fun b o e => (F.base b o e).trans fun o' e' => .of (k b o' (fun q => by rw [h0 b q] at e; cases e) e'), ?_, F.new, F.lm, fun z c e => ?_, F.cd, fun r ds m => ?_, F.od⟩
  · by_cases hq : q ∈ wr
    · exact hl q hq
    · obtain ⟨o, e⟩ := F.fd.mok q m; exact ⟨o, k q o hq e⟩
  · obtain ⟨m, e⟩ := F.ns; exact ⟨m, e.at' fun o e => k _ o hL e⟩
  · obtain ⟨a, b, v, o, e2, e3⟩ := F.cm z c e; exact ⟨a, b, v, o, k _ o (hC _ _ e) e2, e3⟩
  · obtain ⟨⟨vs, hp, hd⟩, b, c⟩ := F.own r ds m
    exact ⟨⟨vs, hp.at fun o e => k r o (fun q => hX _ q b) e, hd.keep kM⟩, b, c⟩
theorem FS.besideOut {wr : List Addr} (F : FS env (wr ++ M₀) X h₀ h ρ σ) (k : ∀ b o, b ∉ wr → h.get? b = some o → h'.get? b = some o) (hX : ∀ a ∈ wr, a ∉ X) (hM : ∀ a ∈ wr, a ∉ M₀) (h0 : ∀ a ∈ wr, h₀.get? a = none) :
    FS env M₀ X h₀ h' ρ σ := by
  have kM : Kept (X ++ (wr ++ M₀)) h h' := fun b o n e => .of (k b o (fun q => n (List.mem_append_right _ (List.mem_append_left _ q))) e)
  have hm : ∀ a ∈ X ++ M₀, a ∈ X ++ (wr ++ M₀) ∨ h.get? a = none := fun a m => by
    rcases List.mem_append.mp m with m | m
    · exact .inl (List.mem_append_left _ m)
    · exact .inl (List.mem_append_right _ (List.mem_append_right _ m))
  have hL : env.locals ∉ wr := fun q => hX _ q F.lm
  have hC : ∀ x c, env.cells.lookup x = some c → c ∉ wr := fun x c e q => hX _ q (F.cm x c e).1
  refine ⟨⟨fun q m => ?_, F.fd.kind, fun z e hz => let ⟨u, hu, du⟩ := F.fd.var z e hz; ⟨u, hu.kept k hL hC, du.kept kM hm⟩⟩, fun b o e => (F.base b o e).trans fun o' e' => .of (k b o' (fun q => by rw [h0 b q] at e; cases e) e'), ?_, F.new, F.lm, fun z c e => ?_, F.cd, fun r ds m => ?_, F.od⟩
  · have hq : q ∉ wr := fun hq => by
      rcases List.mem_append.mp m with m | m
      · exact hX q hq m
      · exact hM q hq m
    obtain ⟨o, e⟩ := F.fd.mok q (by
      rcases List.mem_append.mp m with m | m
      · exact List.mem_append_left _ m
      · exact List.mem_append_right _ (List.mem_append_right _ m))
    exact ⟨o, k q o hq e⟩
  · obtain ⟨m, e⟩ := F.ns; exact ⟨m, e.at' fun o e => k _ o hL e⟩
  · obtain ⟨a, b, v, o, e2, e3⟩ := F.cm z c e; exact ⟨a, b, v, o, k _ o (hC _ _ e) e2, e3⟩
  · obtain ⟨⟨vs, hp, hd⟩, b, c⟩ := F.own r ds m
    exact ⟨⟨vs, hp.at fun o e => k r o (fun q => hX _ q b) e, hd.kept kM hm⟩, b, c⟩
/-- an own list is handed out -/
theorem FS.give {r : Addr} {ds : List D} (F : FS env M₀ X h₀ h ρ σ) (hr : (r, ds) ∈ σ) (hM : MOk M₀ h₀) : Den M₀ h (.list ds) (.ref r) := by
  obtain ⟨⟨vs, hp, hd⟩, b, _⟩ := F.own r ds hr
  refine .of_list (fun m => ?_) hp.isList (hd.kept .refl fun a m => .inl (List.mem_append_right _ m))
  obtain ⟨o, ho⟩ := hM r m; rw [F.new r b] at ho; cases ho
end
end Mine
end
section
open PySem PySem.W PySem.Calls PyProof.Rows
set_option maxRecDepth 100000
set_option maxHeartbeats 4000000
namespace Mine
variable [Bd]

/-- from a state with this very heap the tree ends, and `Q` holds of what it gives and the new heap -/
noncomputable def headFrame (A : Around) : Option Addr := (A.frames.bind (·.head?)).bind (·.frame)
noncomputable def Sx {α : Type} (w : World) (n : Nat) (fr : Option Addr) (t : Sem α) (h : Heap) (Q : α → Heap → Prop) : Prop :=
  ∀ A s, AOk n A s.heap → headFrame A = fr → s.heap = h → wpAny (model prog w) A t (fun f s' => ∃ h' tk, s' = { s with heap := h', toks := tk } ∧ AOk n A h' ∧ Q f h') NoE s

section
variable {α : Type} {w : World} {n : Nat} {fr : Option Addr} {env : Env} {M₀ X : List Addr} {h₀ h : Heap} {ρ : List (Str × D)} {σ : List (Addr × List D)} {x : Str} {pos px : Pos} {d : D} {e : Expr} {Q : Flow → Heap → Prop} {rest body orelse : List Stmt} {st : Stmt}

theorem Sx.mono {t : Sem α} {Q Q' : α → Heap → Prop} (s : Sx w n fr t h Q) (f : ∀ v h', Q v h' → Q' v h') : Sx w n fr t h Q' := fun A s' a hf e =>
  wpAny_mono (s A s' a hf e) (fun v s'' ⟨h', tk, e', a', q⟩ => ⟨h', tk, e', a', f v h' q⟩) fun _ _ x => x
theorem Sx.run {t : Sem α} {Q : α → Heap → Prop} {A : Around} {s : Shared} {R : α → Shared → Prop} {E : Value → Shared → Prop} (x : Sx w n fr t h Q) (a : AOk n A s.heap) (hf : headFrame A = fr) (e : s.heap = h)
    (f : ∀ v h' tk, AOk n A h' → Q v h' → R v { s with heap := h', toks := tk }) : wpAny (model prog w) A t R E s :=
  wpAny_mono (x A s a hf e) (fun v s' ⟨h', tk, e', a', q⟩ => e' ▸ f v h' tk a' q) fun _ _ e => e.elim

theorem sx_nil (q : Q .next h) : Sx w n fr (execs [] env) h Q := fun A s a hf e => wpAny_execs_nil ⟨s.heap, s.toks, rfl, a, e ▸ q⟩
theorem sx_cons (x : Sx w n fr (exec st env) h (fun f h' => match f with | .next => Sx w n fr (execs rest env) h' Q | f => Q f h')) : Sx w n fr (execs (st :: rest) env) h Q := fun A s a hf e =>
  wpAny_execs_cons (x.run a hf e fun f h' tk a q => by
    cases f with
    | next => exact q.run (R := fun f s' => ∃ h' tk, s' = { s with heap := h', toks := tk } ∧ AOk n A h' ∧ Q f h') a hf rfl fun v h'' tk' a' q' => ⟨h'', tk', rfl, a', q'⟩
    | _ => exact ⟨h', tk, rfl, a, q⟩)
theorem sx_assign (F : FS env M₀ X h₀ h ρ σ) (x : Ev w n env (X ++ M₀) h e d) (H : ∀ h', FS env M₀ X h₀ h' ((y, d) :: ρ) σ → Q .next h')
    (hk : env.kindOf y = some .local ∨ (env.kindOf y = some .cell ∧ (env.cells.lookup y).isSome = true) := by first | exact .inl rfl | exact .inr ⟨rfl, rfl⟩)
    (hs : swapsWith e (some (.Name y px)) pos.line env = pure false := by rfl) : Sx w n fr (exec (.Assign [.Name y px] e pos) env) h Q := fun A s a hf eh =>
  wpAny_Assign_Name (x.run a (eh ▸ stays_refl _) fun v h1 t1 k1 a p1 => ((eh ▸ F).grow k1).store (s := { s with heap := h1, toks := t1 }) a p1 hk fun h' tk a F' _ => ⟨h', tk, rfl, a, H h' F'⟩) hs
theorem sx_return {P : Value → Heap → Prop} (x : Ex w n h (eval e env) P) (H : ∀ v h', Stay h h' → P v h' → Q (.ret v) h') : Sx w n fr (exec (.Return (some e) pos) env) h Q := fun A s a hf eh =>
  wpAny_Return_some (x.run a (eh ▸ stays_refl _) fun v h1 t1 k1 a p1 => ⟨h1, t1, rfl, a, H v h1 (eh ▸ k1) p1⟩)
theorem sx_if {b : Bool} (x : Tr w n env h e b) (y : b = true → ∀ h', Stay h h' → Sx w n fr (execs body env) h' Q) (z : b = false → ∀ h', Stay h h' → Sx w n fr (execs orelse env) h' Q) :
    Sx w n fr (exec (.If e body orelse pos) env) h Q := fun A s a hf eh =>
  wpAny_If (x.run a (eh ▸ stays_refl _) fun v h1 t1 k1 a p1 => by
    subst p1
    cases v with
    | true => rw [if_pos rfl]; exact (y rfl h1 (eh ▸ k1)).run (R := fun f s' => ∃ h' tk, s' = { s with heap := h', toks := tk } ∧ AOk n A h' ∧ Q f h') a hf rfl fun v h'' tk' a' q' => ⟨h'', tk', rfl, a', q'⟩
    | false => rw [if_neg (by decide)]; exact (z rfl h1 (eh ▸ k1)).run (R := fun f s' => ∃ h' tk, s' = { s with heap := h', toks := tk } ∧ AOk n A h' ∧ Q f h') a hf rfl fun v h'' tk' a' q' => ⟨h'', tk', rfl, a', q'⟩)
/-- `x = [..]`, a list that the frame will change -/
theorem sx_newList {y : Str} {es : List Expr} {ds : List D} {lp : Pos} (F : FS env M₀ X h₀ h ρ σ) (x : ExL w n env (X ++ M₀) h lp es ds) (hs' : ds.length ≤ 2 ^ 24)
    (H : ∀ r h', h.get? r = none → FS env M₀ (r :: X) h₀ h' ((y, .ref r) :: ρ) ((r, ds) :: σ) → Q .next h')
    (hk : env.kindOf y = some .local ∨ (env.kindOf y = some .cell ∧ (env.cells.lookup y).isSome = true) := by first | exact .inl rfl | exact .inr ⟨rfl, rfl⟩)
    (hs : swapsWith (.List es lp) (some (.Name y px)) pos.line env = pure false := by rfl) : Sx w n fr (exec (.Assign [.Name y px] (.List es lp) pos) env) h Q := fun A s a hf eh =>
  wpAny_Assign_Name (List_ (x.run a (eh ▸ stays_refl _) fun vs h1 t1 k1 a p1 => by
    have hl := p1.length
    refine wpAny_newObj_type ?_ (by show vs.toArray.size ≤ 2 ^ 24; simp [hl]; omega)
    have hr : h1.get? h1.objs.size = none := none_of_le (Nat.le_refl _)
    have F1 := ((eh ▸ F).grow k1).adopt (h' := h1.push { cls := .type "list", data := .seq vs.toArray }) (push_stays h1 _) hr ⟨vs, ⟨_, Heap.get?_push_size _ rfl⟩, p1.kept (.of (push_stays _ _)) fun q m => by
      rcases List.mem_cons.mp m with rfl | m
      · exact .inr hr
      · exact .inl m⟩
    exact F1.store (s := { s with heap := h1.push _, toks := t1 }) (a.up (push_stays _ _)) Den.ref' hk fun h' tk a F' _ => ⟨h', tk, rfl, a, H _ h' (eh ▸ none_of_stays k1 hr) F'⟩)) hs
/-- `r.append(e)`, r an own list -/
theorem sx_append {y : Str} {r : Addr} {ds : List D} {apos np : Pos} (F : FS env M₀ X h₀ h ρ ((r, ds) :: σ)) (hy : Ex w n h (eval (.Name y np) env) (fun u _ => u = .ref r)) (x : Ev w n env (X ++ M₀) h e d) (hlen : ds.length < 2 ^ 24)
    (H : ∀ h', FS env M₀ X h₀ h' ρ ((r, ds ++ [d]) :: σ) → Q .next h') (he : starEach [e] env = (false, eval e env) :: starEach [] env := by rfl)
    (hi : interactive env = false := by rfl) (hs : swapsWith (.Call (.Attribute (.Name y np) "append" apos) [e] [] pos) none px.line env = pure false := by rfl) (hline : (apos.endLine == pos.line) = true := by rfl) :
    Sx w n fr (exec (.Expr (.Call (.Attribute (.Name y np) "append" apos) [e] [] pos) px) env) h Q := fun A s a hf eh => by
  refine wpAny_Expr ?_ hi hs
  refine wpAny_Call_method rfl (by rw [he]; rfl) hline PySem.F.plainAttrs_list slot_list_append type_list_append ?_
  refine hy.run a (eh ▸ stays_refl _) fun v h1 t1 k1 a p1 => ?_
  subst p1
  have F1 := (eh ▸ F).grow k1
  obtain ⟨⟨vs, ⟨nn, ho⟩, hd⟩, hrX, hrL, hrc⟩ := F1.own r ds (.head _)
  refine ⟨⟨_, ho, rfl⟩, fun a e => by cases e; exact ⟨_, ho, rfl⟩, ?_⟩
  rw [he]
  refine Calls.callWith_builtin rfl (evalArgs_plain (spliced_cons ?_))
  refine (x.up (eh ▸ k1)).run a (stays_refl _) fun u h2 t2 k2 a p2 => spliced_nil ?_
  have F2 := F1.grow k2
  have hlv := hd.length
  refine wpAny_list_append_plain (hsz := by show vs.toArray.size ≤ 2 ^ 24; simp [hlv]; omega) ⟨_, (k2 _ _ ho).get (.inl rfl)⟩ fun h3 hl3 hs3 => ?_
  have hM : r ∈ X ++ M₀ := List.mem_append_left _ hrX
  refine ⟨h3, t2, rfl, a.change hs3 (fun o e1 e2 => by rw [(k2 _ _ ho).get (.inl rfl)] at e1; cases e1; cases e2), H h3 (F2.change hs3 hrX ?_ ?_ (fun z e hz => ?_) (fun z c e => ?_) (fun r' ds' m => ?_) ?_)⟩
  · obtain ⟨mL, q⟩ := F2.ns; exact ⟨mL, q.sameBut hs3 (Ne.symm hrL)⟩
  · obtain ⟨q, e⟩ := hl3; exact ⟨_, e⟩
  · obtain ⟨u', hu, du⟩ := F2.fd.var z e hz
    refine ⟨u', ?_, du.keep (.same hs3 hM)⟩
    unfold VarAt at hu ⊢
    split at hu
    · obtain ⟨m2, e1, e2⟩ := hu; exact ⟨m2, e1.sameBut hs3 (Ne.symm hrL), e2⟩
    · obtain ⟨c, e1, e2⟩ := hu; exact ⟨c, e1, e2.sameBut hs3 fun q => hrc _ (q ▸ e1)⟩
    · obtain ⟨c, e1, e2⟩ := hu; exact ⟨c, e1, e2.sameBut hs3 fun q => hrc _ (q ▸ e1)⟩
    · trivial
  · obtain ⟨_, _, v, y⟩ := F2.cm z c e; exact ⟨v, y.sameBut hs3 fun q => hrc _ (q ▸ e)⟩
  · rcases List.mem_cons.mp m with e | m
    · cases e
      exact ⟨⟨vs ++ [u], by simpa using hl3, ((hd.stays k2).keep (.same hs3 hM)).append (.cons (p2.keep (.same hs3 hM)) .nil)⟩, hrX, hrL, hrc⟩
    · obtain ⟨a, b⟩ := F2.own r' ds' (.tail _ m)
      exact ⟨ow_change a hs3 (fun q => (List.pairwise_cons.mp F2.od).1 _ m q.symm) hM, b⟩
  · have := List.pairwise_cons.mp F2.od; exact List.Pairwise.cons (fun q m => this.1 q m) this.2

/-- for, over what can be walked -/
theorem sx_for {y : Str} {py : Pos} {N : Nat} {it : Nat → D} {ρs : Nat → List (Str × D)} {σs : Nat → List (Addr × List D)} (F : FS env M₀ X h₀ h (ρs 0) (σs 0))
    (hiter : Ex w n h (eval e env) (fun v h' => Itr w n (X ++ M₀) h' v N it))
    (turn : ∀ i M₁ base h', i < N → Stay h₀ base → FS env M₁ X base h' ((y, it i) :: ρs i) (σs i) → Sx w n fr (execs body env) h' (fun f h'' => (f = .next ∨ f = .cont) ∧ FS env M₁ X base h'' (ρs (i + 1)) (σs (i + 1))))
    (done : ∀ h', FS env M₀ X h₀ h' (ρs N) (σs N) → Q .next h')
    (hk : env.kindOf y = some .local ∨ (env.kindOf y = some .cell ∧ (env.cells.lookup y).isSome = true) := by first | exact .inl rfl | exact .inr ⟨rfl, rfl⟩)
    (hs : ∀ x, foldedSetIterable e env x = pure x := by intro _; rfl) : Sx w n fr (exec (.For (.Name y py) e body [] pos) env) h Q := fun A s a hf eh => by
  have F0 : FS env M₀ X h₀ s.heap (ρs 0) (σs 0) := eh ▸ F
  refine wpAny_For (hiter.run a (eh ▸ stays_refl _) fun xv h1 t1 k1 a hit => ?_) hs
  have F1 := F0.grow k1
  refine hit A _ _ _ a (stays_refl _) fun I fp wr P St h₂ t₂ W hst hfp hlive hwr hfM hnf k₂ hP => ?_
  dsimp only at hwr k₂ hP ⊢
  have hXwr : ∀ b ∈ wr, b ∉ X := fun b hb hX => by
    obtain ⟨o, ho⟩ := F1.fd.mok b (List.mem_append_left _ hX)
    rw [hwr b hb] at ho; cases ho
  have hMwr : ∀ b ∈ wr, b ∉ M₀ := fun b hb hX => by
    obtain ⟨o, ho⟩ := F1.fd.mok b (List.mem_append_right _ hX)
    rw [hwr b hb] at ho; cases ho
  have hfX : ∀ b ∈ fp, b ∉ X := fun b hb hX => by
    by_cases hbw : b ∈ wr
    · exact hXwr b hbw hX
    · exact hfM b hb hbw (List.mem_append_left _ hX)
  have G₀ : FS env (wr ++ M₀) X h₀ h₂ (ρs 0) (σs 0) := F1.addM k₂ hwr (hlive 0 h₂ hst)
  have h0wr : ∀ a ∈ wr, h₀.get? a = none := fun a m => none_of_stays F1.base (hwr a m)
  refine codeAny_forLoop (fun k s' => ∃ (i : Nat) (H : Heap) (tk : Nat), s' = { s with heap := H, toks := tk } ∧ AOk n A H ∧ FS env (wr ++ M₀) X h₀ H (ρs i) (σs i) ∧ St i H ∧ i ≤ N ∧ k = N + 1 - i ∧
    (∀ b o, b ∉ X → b ∉ wr → h₂.get? b = some o → Same H b o)) ?_ (N + 1) ⟨0, h₂, t₂, rfl, a.up k₂, G₀, hst, Nat.zero_le _, rfl, fun _ _ _ _ e => .of e⟩
  rintro kk s' ⟨i, H, tk, rfl, aH, G, hstH, hi, rfl, kH⟩
  by_cases hlt : i < N
  · refine W.item i _ _ _ hlt hstH fun v H₁ tk₁ hPv hst₁ hk₁ => ?_
    have G1 : FS env (wr ++ M₀) X h₀ H₁ (ρs i) (σs i) := G.beside hk₁ hXwr (hlive _ _ hst₁) h0wr
    have hd : Den (X ++ (wr ++ M₀)) H₁ (it i) v := (hP i v hlt hPv).kept (M := X ++ M₀) (fun b o n e => (k₂ b o e).trans fun o' e' => (kH b o' (fun q => n (List.mem_append_left _ q)) (fun q => by rw [hwr b q] at e; cases e) e').trans fun o'' e'' => .of (hk₁ b o'' (fun q => by rw [hwr b q] at e; cases e) e'')) fun a m => by
      rcases List.mem_append.mp m with m | m
      · exact .inl (List.mem_append_left _ m)
      · rcases List.mem_append.mp m with m | m
        · exact .inr (hwr a m)
        · exact .inl (List.mem_append_right _ m)
    refine wpAny_assign_Name (G1.store (s := { s with heap := H₁, toks := tk₁ }) (a.beside hwr aH hk₁) hd hk fun H₂ tk₂ a₂ G2 kX => ?_)
    have GB := G2.rebase
    have hst₂ : St (i + 1) H₂ := W.frame _ _ _ hst₁ fun b hb o e => kX b o (hfX b hb) e
    refine (turn i _ _ H₂ hlt G2.hidden GB).run a₂ hf rfl fun f H₃ tk₃ a₃ hff => ?_
    obtain ⟨hff, G3⟩ := hff
    have k3 : ∀ b o, b ∉ X → H₂.get? b = some o → Same H₃ b o := fun b o n e => G3.base b o (hideAll_get X e n)
    have fin : ∃ m, m < N + 1 - i ∧ ∃ (i : Nat) (H : Heap) (tk : Nat), ({ s with heap := H₃, toks := tk₃ } : Shared) = { s with heap := H, toks := tk } ∧ AOk n A H ∧ FS env (wr ++ M₀) X h₀ H (ρs i) (σs i) ∧ St i H ∧ i ≤ N ∧ m = N + 1 - i ∧
        (∀ b o, b ∉ X → b ∉ wr → h₂.get? b = some o → Same H b o) :=
      ⟨N + 1 - (i + 1), by omega, i + 1, H₃, tk₃, rfl, a₃, G3.unbase G2.hidden, W.frame _ _ _ hst₂ fun b hb o e => (k3 b o (hfX b hb) e).get (.inl (hnf _ _ hst₂ b hb o e)), hlt, rfl, fun b o n nw e => (kH b o n nw e).trans fun o e => k3 b o n (kX b o n (hk₁ b o nw e))⟩
    rcases hff with rfl | rfl <;> exact fin
  · have hin : i = N := by omega
    subst hin
    refine W.done _ _ _ hstH fun H₁ tk₁ hk₁ => wpAny_execs_nil ?_
    exact ⟨H₁, tk₁, rfl, a.beside hwr aH hk₁, done H₁ (G.besideOut hk₁ hXwr hMwr h0wr)⟩
end
end Mine
end
section
open PySem PySem.W PySem.Calls PyProof.Rows
set_option maxRecDepth 100000
set_option maxHeartbeats 4000000
namespace Mine
variable [Bd]

/-- the arguments bear data -/
inductive Binds (M : List Addr) (h : Heap) : List (Str × D) → List (Str × Value) → Prop
  | nil : Binds M h [] []
  | cons {x d v ρ bs} : Den M h d v → Binds M h ρ bs → Binds M h ((x, d) :: ρ) ((x, v) :: bs)
theorem Binds.up {M M' h h'} (k : Kept M h h') (hm : ∀ a ∈ M', a ∈ M ∨ h.get? a = none) : ∀ {ρ bs}, Binds M h ρ bs → Binds M' h' ρ bs
  | _, _, .nil => .nil
  | _, _, .cons a b => .cons (a.kept k hm) (b.up k hm)
theorem Binds.get {M h} : ∀ {ρ bs}, Binds M h ρ bs → ∀ {x : Str} {d}, ρ.lookup x = some d → ∃ v, bs.lookup x = some v ∧ Den M h d v
  | _, _, .nil, x, d, e => by cases e
  | _, _, .cons (x := y) (v := v) a b, x, d, e => by
    rw [List.lookup_cons] at e ⊢
    by_cases hn : (x == y) = true
    · rw [hn] at e ⊢; cases e; exact ⟨v, rfl, a⟩
    · simp only [Bool.not_eq_true] at hn; rw [hn] at e ⊢; exact b.get e

theorem bindL_get {k : Str → Option NameKind} : ∀ (bs : List (Str × Value)) (m : Str → Option Value) {x : Str} {v : Value}, (bs.map (·.1)).Nodup → bs.lookup x = some v → k x = some .local → bindL k bs m x = some v
  | (y, u) :: r, m, x, v, nd, e, hk => by
    rw [List.lookup_cons] at e
    unfold bindL
    have nd' := List.nodup_cons.mp nd
    by_cases hn : (x == y) = true
    · have := beq_iff_eq.mp hn; subst this
      rw [hn] at e; cases e
      have key : ∀ (r : List (Str × Value)) (m : Str → Option Value), x ∉ r.map (·.1) → bindL k r m x = m x := by
        intro r
        induction r with
        | nil => intro m _; rfl
        | cons q r ih =>
          intro m hn
          obtain ⟨z, t⟩ := q
          unfold bindL
          rw [ih _ fun h => hn (.tail _ h)]
          split
          · have : x ≠ z := fun q => hn (q ▸ .head _)
            simp [this]
          · rfl
      rw [key r _ nd'.1]; simp [hk]
    · simp only [Bool.not_eq_true] at hn; rw [hn] at e; exact bindL_get r _ nd'.2 e hk
theorem bindC_get {k : Str → Option NameKind} : ∀ (bs : List (Str × Value)) (m : Str → Option Value) {x : Str} {v : Value}, (bs.map (·.1)).Nodup → bs.lookup x = some v → k x ≠ some .local → bindC k bs m x = some v
  | (y, u) :: r, m, x, v, nd, e, hk => by
    rw [List.lookup_cons] at e
    unfold bindC
    have nd' := List.nodup_cons.mp nd
    by_cases hn : (x == y) = true
    · have := beq_iff_eq.mp hn; subst this
      rw [hn] at e; cases e
      have key : ∀ (r : List (Str × Value)) (m : Str → Option Value), x ∉ r.map (·.1) → bindC k r m x = m x := by
        intro r
        induction r with
        | nil => intro m _; rfl
        | cons q r ih =>
          intro m hn
          obtain ⟨z, t⟩ := q
          unfold bindC
          rw [ih _ fun h => hn (.tail _ h)]
          split
          · rfl
          · have : x ≠ z := fun q => hn (q ▸ .head _)
            simp [this]
      rw [key r _ nd'.1]; simp [hk]
    · simp only [Bool.not_eq_true] at hn; rw [hn] at e; exact bindC_get r _ nd'.2 e hk

theorem lookup_mem {α : Type} {l : List (Str × α)} {x : Str} {a : α} (e : l.lookup x = some a) : (x, a) ∈ l := by
  induction l with
  | nil => cases e
  | cons q l ih =>
    obtain ⟨n, k⟩ := q
    rw [List.lookup_cons] at e
    by_cases hn : (x == n) = true
    · rw [hn] at e; have := beq_iff_eq.mp hn; subst this; cases e; exact .head _
    · simp only [Bool.not_eq_true] at hn; rw [hn] at e; exact .tail _ (ih e)

/-- the looks that a def's call asks -/
noncomputable def defOk (scope : Scope) (bs : List Str) : Bool :=
  (bs.all fun x => scope.names.lookup x == some .local || (scope.names.lookup x == some .cell && ((cellsFrom 0 scope.names []).lookup x).isSome)) && decide bs.Nodup && !scope.isCoroutine && !scope.isGenerator && (scope.kind == .function) &&
  decide ((cellsFrom 0 scope.names []).map (·.1)).Nodup

theorem cellsFrom_isSome {x : Str} : ∀ (names : List (Str × NameKind)) (n n' : Nat) (acc acc' : List (Str × Addr)), (acc.lookup x).isSome = (acc'.lookup x).isSome → ((cellsFrom n names acc).lookup x).isSome = ((cellsFrom n' names acc').lookup x).isSome
  | [], _, _, _, _, h => h
  | (y, k) :: r, n, n', acc, acc', h => by
    unfold cellsFrom
    split
    · refine cellsFrom_isSome r _ _ _ _ ?_
      rw [List.lookup_cons, List.lookup_cons]
      cases (x == y) <;> simp [h]
    · exact cellsFrom_isSome r _ _ _ _ h

theorem cx_def {w : World} {n : Nat} {M : List Addr} {h : Heap} {f : Addr} {vs : List Value} {P : Value → Heap → Prop}
    {name qual : Str} {params : Arguments} {body : List Stmt} {scope : Scope} {dV kV doc pm cdv ct oc : Value} {an od : Option Addr} {osl : Array (Option Value)} {ρ : List (Str × D)} {bs : List (Str × Value)}
    (X : TR w h) (hM : MOk M h)
    (ho : (K39 w.params).lookup f = some ⟨oc, od, .func (fnOf name qual params body scope dV kV doc pm an cdv ct), osl⟩) (hcd : codeIn (K39 w.params) cdv qual = true)
    (hbind : ∀ s : Shared, Stay h s.heap → BindsTo s (fnOf name qual params body scope dV kV doc pm an cdv ct) ⟨vs, []⟩ bs) (hb : Binds M h ρ bs) (ok : defOk scope (bs.map (·.1)) = true)
    (H : ∀ L Y h₀ h', Stay h h₀ → FS (envOfC qual scope L f cdv) M Y h₀ h' ρ [] →
      Sx w n (some L) (execs body (envOfC qual scope L f cdv)) h' (fun fl h'' => Stay h₀ h'' ∧ P (match fl with | .ret v => v | _ => .none) h'')) : Cx w (n + 1) h (.call (.ref f) ⟨vs, []⟩) P := fun A s a k => by
  simp only [defOk, Bool.and_eq_true, decide_eq_true_eq, Bool.not_eq_true', beq_iff_eq] at ok
  obtain ⟨⟨⟨⟨⟨ok1, ok2⟩, ok3⟩, ok4⟩, ok5⟩, ok6⟩ := ok
  have XS := X.stays k
  obtain ⟨K, mg, mb, T⟩ := XS
  have hb' := hb.up (M' := M) (.of k) fun a m => .inl m
  refine codeAny_call_function (fd := fnOf name qual params body scope dV kV doc pm an cdv ct) (by have := a.depth; omega) (K _ _ ho) rfl ok3 ok4 rfl (codeRec_of K hcd) (hbind s k _ _ _ _ ?_)
  have hkind : ∀ x ∈ bs, scope.names.lookup x.1 = some .local ∨ (scope.names.lookup x.1 = some .cell ∧ ((cellsFrom (s.heap.objs.size + 1) scope.names []).lookup x.1).isSome = true) := fun x hx => by
    have := List.all_eq_true.mp ok1 x.1 (List.mem_map_of_mem hx)
    simp only [Bool.or_eq_true, beq_iff_eq, Bool.and_eq_true] at this
    rcases this with e | ⟨e, e'⟩
    · exact .inl e
    · exact .inr ⟨e, (cellsFrom_isSome scope.names (s.heap.objs.size + 1) 0 [] [] rfl).trans e'⟩
  refine wpAny_newFunctionEnv_cells ok5 hkind fun env' he s' x => ?_
  subst he
  have hk₁ := x.toInCall.keep
  refine ⟨T.nolimit.keeps hk₁, codeAny_func ?_⟩
  obtain ⟨h₁, tk, rfl, _⟩ := x.done
  have hk₁ : Stay s.heap h₁ := .of hk₁
  have hns := x.toInCall.ns
  have hnd : ((cellsFrom (s.heap.objs.size + 1) scope.names []).map (·.1)).Nodup := by rw [cellsFrom_names scope.names (s.heap.objs.size + 1) 0 [] [] rfl]; exact ok6
  let Y : List Addr := s.heap.objs.size :: (cellsFrom (s.heap.objs.size + 1) scope.names []).map (·.2)
  have hYn : ∀ q ∈ Y, s.heap.get? q = none := fun q m => by
    rcases List.mem_cons.mp m with rfl | m
    · exact none_of_le (Nat.le_refl _)
    · obtain ⟨p, hp, rfl⟩ := List.mem_map.mp m
      exact none_of_le (Nat.le_of_lt (x.above p.1 p.2 hp))
  have F : FS (envOfC qual scope s.heap.objs.size f cdv) M Y s.heap h₁ ρ [] := by
    refine ⟨⟨fun q m => ?_, ok5, fun z e hz => ?_⟩, hk₁, ⟨_, hns⟩, hYn, .head _, fun z c e => ?_, fun z y c e1 e2 => ?_, (fun _ _ m => nomatch m), List.Pairwise.nil⟩
    · rcases List.mem_append.mp m with m | m
      · rcases List.mem_cons.mp m with rfl | m
        · obtain ⟨o, _, _, ho, _⟩ := hns; exact ⟨o, ho⟩
        · obtain ⟨p, hp, rfl⟩ := List.mem_map.mp m
          obtain ⟨o, ho, _⟩ := x.cell p.1 p.2 (lookup_of_mem_nodup hnd hp); exact ⟨o, ho⟩
      · exact hk₁.some (k.some (hM q m))
    · obtain ⟨v, e1, e2⟩ := hb'.get hz
      refine ⟨v, ?_, e2.kept (M := M) (.of hk₁) fun q m => ?_⟩
      · rcases hkind _ (lookup_mem e1) with e3 | ⟨e3, e4⟩
        · have : (envOfC qual scope s.heap.objs.size f cdv).kindOf z = some .local := e3
          simp only [VarAt, this]
          exact ⟨_, hns, bindL_get bs _ ok2 e1 e3⟩
        · have e5 : (envOfC qual scope s.heap.objs.size f cdv).kindOf z = some .cell := e3
          simp only [VarAt, e5]
          obtain ⟨c, hc⟩ := Option.isSome_iff_exists.mp e4
          refine ⟨c, hc, ?_⟩
          have := x.cell z c hc
          rwa [bindC_get bs _ ok2 e1 (by show scope.names.lookup z ≠ _; simp only at e3; rw [e3]; simp)] at this
      · rcases List.mem_append.mp m with m | m
        · exact .inr (hYn q m)
        · exact .inl m
    · have hm := lookup_mem e
      exact ⟨.tail _ (List.mem_map_of_mem (f := (·.2)) hm), Nat.ne_of_gt (x.above z c hm), _, x.cell z c e⟩
    · exact name_of_addr x.apart (lookup_mem e1) (lookup_mem e2)
  obtain ⟨oL, hoL, hoL2⟩ := ns_nd hns
  have h142 : Bd.b ≤ s.heap.objs.size := a.big
  refine (H _ Y s.heap h₁ k F).run ((a.up hk₁).deeper (L := s.heap.objs.size) (by show scope.kind ≠ _; rw [ok5]; decide) rfl hoL hoL2 h142) (by obtain ⟨l, e, _⟩ := a.frames; unfold headFrame; rw [Around.frames_deeper e]; rfl) rfl fun fl h'' tk' _ hq => ?_
  exact ⟨_, rfl, h'', tk', rfl, hq.1, hq.2⟩
end Mine
end
section
open PySem PySem.W PySem.Calls PyProof.Rows
set_option maxRecDepth 100000
set_option maxHeartbeats 4000000
namespace Mine
variable [Bd]

noncomputable def addNew (acc : List D) (d : D) : List D := if acc.any (D.eqb · d) then acc else acc ++ [d]
noncomputable def dedup (l : List D) : List D := l.foldl addNew []
theorem dedup_take_succ {l : List D} {i : Nat} (hi : i < l.length) : dedup (l.take (i + 1)) = addNew (dedup (l.take i)) (l.getD i .none) := by
  unfold dedup
  rw [List.take_add_one, List.foldl_append]
  simp [List.getD, hi]
theorem addNew_len (acc : List D) (d : D) : (addNew acc d).length ≤ acc.length + 1 := by unfold addNew; split <;> simp
theorem addNew_mem {acc : List D} {d x : D} (h : x ∈ addNew acc d) : x ∈ acc ∨ x = d := by
  unfold addNew at h; split at h
  · exact .inl h
  · simpa using h
theorem foldl_addNew_mem : ∀ (l acc : List D) {x : D}, x ∈ l.foldl addNew acc → x ∈ acc ∨ x ∈ l
  | [], acc, x, h => .inl h
  | a :: l, acc, x, h => by
    rcases foldl_addNew_mem l _ h with h | h
    · rcases addNew_mem h with h | h
      · exact .inl h
      · exact .inr (h ▸ .head _)
    · exact .inr (.tail _ h)
theorem dedup_mem {l : List D} {x : D} (h : x ∈ dedup l) : x ∈ l := (foldl_addNew_mem l [] h).elim (fun h => nomatch h) id
theorem foldl_addNew_len : ∀ (l acc : List D), (l.foldl addNew acc).length ≤ acc.length + l.length
  | [], acc => Nat.le_refl _
  | a :: l, acc => by have := foldl_addNew_len l (addNew acc a); have := addNew_len acc a; simp only [List.foldl_cons, List.length_cons]; omega
theorem dedup_len (l : List D) : (dedup l).length ≤ l.length := by have := foldl_addNew_len l []; unfold dedup; simpa using this

theorem spec_dedup {w : World} {n : Nat} {M : List Addr} {h : Heap} {l : List D} {v : Value} (ty : Ty) (hty : ty.depth ≤ 6) (X : TR w h) (hM : MOk M h) (hv : Den M h (.list l) v) (hl : HasTy (.list ty) (.list l)) (hlen : l.length ≤ 2 ^ 20) (hn : 2 ≤ n) :
    Cx w (n + 1) h (.call (.ref 38) ⟨[v], []⟩) (fun u h' => Den M h' (.list (dedup l)) u) := by
  have hl' : ∀ x ∈ l, HasTy ty x := by simpa only [HasTy] using hl
  refine cx_def (ρ := [(Str.ofString "unhashable_params", .list l)]) X hM (by with_unfolding_all rfl) (by with_unfolding_all rfl) (fun s k => .of_eq rfl) (.cons hv .nil) (by rfl) fun L Y h₀ h' k F => ?_
  refine sx_cons (sx_newList F exl_nil (by decide) fun r h1 hr F1 => ?_)
  refine sx_cons (sx_for (N := l.length) (it := fun i => l.getD i .none) (ρs := fun _ => [(Str.ofString "new_unhashable", .ref r), (Str.ofString "unhashable_params", .list l)]) (σs := fun i => [(r, dedup (l.take i))]) F1 ?_ ?_ ?_)
  · exact (ev_local (d := .list l) F1.fd rfl).post fun v h' _ q => itr_list q
  · intro i M₁ base h2 hi kb G
    have hd : l.getD i .none ∈ l := by simp [List.getD, hi]
    have hlen2 : (dedup (l.take i)).length ≤ l.length := Nat.le_trans (dedup_len _) (by simp; omega)
    refine sx_cons (sx_if (b := !(dedup (l.take i)).any (D.eqb · (l.getD i .none))) ?_ ?_ ?_)
    · refine tr_cmp (M := []) (ev_local (d := l.getD i .none) G.fd.nil rfl) (ev_local (d := .list (dedup (l.take i))) (G.view (x := Str.ofString "new_unhashable") rfl (.head _)) rfl) (cp_ninl ty ?_ (hl' _ hd) (by omega) (by omega))
      simp only [HasTy]; intro x hx; exact hl' x (List.mem_of_mem_take (dedup_mem hx))
    · intro hb h3 k3
      have G3 := G.grow k3
      refine sx_cons (sx_append G3 ((ev_local (d := .ref r) G3.fd rfl).post fun v h' _ q => by simpa only [Den] using q) (ev_local (d := l.getD i .none) G3.fd rfl) (by omega) fun h4 G4 => sx_nil (sx_nil ⟨.inl rfl, ?_⟩))
      rw [dedup_take_succ hi, addNew, if_neg (by simpa using hb)]
      exact G4.names
    · intro hb h3 k3
      refine sx_nil (sx_nil ⟨.inl rfl, ?_⟩)
      rw [dedup_take_succ hi, addNew, if_pos (by simpa using hb)]
      exact (G.grow k3).names
  · intro h2 G
    have eD : dedup (l.take l.length) = dedup l := by rw [List.take_length]
    refine sx_cons (sx_return ((ev_local (d := .ref r) G.fd rfl).post (P' := fun u _ => u = .ref r) fun v h' _ q => by simpa only [Den] using q) fun v h3 k3 q => ?_)
    subst q
    have G3 := G.grow k3
    exact ⟨G3.base, (G3.give (ds := dedup l) (by rw [← eD]; exact .head _) (hM.stays k))⟩
end Mine
end
section
open PySem PySem.W PySem.Calls PyProof.Rows
set_option maxRecDepth 100000
set_option maxHeartbeats 4000000
namespace Mine
variable [Bd]
open MeetsSeq MeetsSeq2 MeetsSeq3 SeqRoads2 PySem.SeqAt in
theorem remove_loopAt (l : Addr) (items : Array Value) (n : Nat) (x : Value) (e : Value → Bool) (hsz : items.size ≤ 2 ^ 20) (k : Nat) :
    ∀ i : Nat, items.size - i = k → Meets (Builtin.«list.remove.loop» ⟨[.ref l, x, rawInt i], []⟩)
      (fun A R s => s.heap.get? l = some { cls := .type "list", data := .seq items n } ∧ (∀ y, y ∈ items → EqAt A.in1 s y x (e y)) ∧ A.handled = none ∧
        (∀ j h', (items.toList.drop i).findIdx? e = some j → h'.PlainList l (items.toList.eraseIdx (i + j)).toArray → Heap.SameBut l s.heap h' → R (.ok (.ret .none)) { s with heap := h' }) ∧
        ((items.toList.drop i).findIdx? e = none → ∀ h' tk ea, Heap.NewExc s.heap h' ea "ValueError" → R (.error (.ref ea)) { s with heap := h', toks := tk })) := by
  induction k with
  | zero =>
    intro i hk prog w A R s h
    obtain ⟨hp, g, d, tk, os⟩ := s; obtain ⟨hl, he, hh, h1, h2⟩ := h
    wp_walk using AutoSeq1.wpAny_loadPart' hl
    have hi : items[((i : Nat) : Int).toNat]? = none := by simp; omega
    have hd : items.toList.drop i = [] := by simp; omega
    rw [hd] at h2
    rw [hi]
    wp_walk
    exact wpAny_raiseErrorWords plainExc_ValueError hh (h2 (by simp))
  | succ k ih =>
    intro i hk prog w A R s h
    obtain ⟨hp, g, d, tk, os⟩ := s; obtain ⟨hl, he, hh, h1, h2⟩ := h
    wp_walk using AutoSeq1.wpAny_loadPart' hl
    have hlt : i < items.size := by omega
    have hi : items[((i : Nat) : Int).toNat]? = some items[i] := by simp [hlt]
    have hd : items.toList.drop i = items[i] :: items.toList.drop (i + 1) := by simp [List.drop_eq_getElem_cons, hlt]
    rw [hd] at h1 h2
    rw [hi]
    refine wpAny_bind (he _ (Array.getElem_mem hlt) prog w _ _ ?_)
    cases hb : e items[i] with
    | true =>
      wp_walk
      have hers : items.eraseIdxIfInBounds ((i : Nat) : Int).toNat = (items.toList.eraseIdx i).toArray := by
        simp [Array.eraseIdxIfInBounds, hlt]
        apply Array.ext'
        simp
      have hmap : ∃ n', Obj.mapSeq (fun x => x.eraseIdxIfInBounds ((i : Nat) : Int).toNat) { cls := .type "list", data := .seq items n } = { cls := .type "list", data := .seq (items.toList.eraseIdx i).toArray n' } := by
        simp only [Obj.mapSeq, hers]
        exact ⟨_, rfl⟩
      obtain ⟨n', hmap⟩ := hmap
      have hs' : (Obj.mapSeq (fun x => x.eraseIdxIfInBounds ((i : Nat) : Int).toNat) { cls := .type "list", data := .seq items n }).data.pastItsLine = none := by
        rw [hmap]
        refine pastItsLine_seq ?_
        have : (items.toList.eraseIdx i).length ≤ items.toList.length := List.length_eraseIdx_le ..
        simp at this ⊢
        show _ ≤ 2 ^ 24 + 1
        omega
      rw [hs']
      refine wpAny_pure ?_
      wp_walk
      refine h1 0 _ (by rw [List.findIdx?_cons, hb]; rfl) ⟨n', ?_⟩ (Heap.SameBut.update ..)
      rw [Heap.get?_update_self _ hl (by rw [hmap]; rfl), hmap]
      simp
    | false =>
      have hc : ((i : Int) + 1) = ((i + 1 : Nat) : Int) := by push_cast; rfl
      wp_walk
      rw [hc]
      exact ⟨plainId_quiet plain_remove_loop _, codeAny_builtin entry_remove_loop (by
        rw [Around.under_plainId plain_remove_loop _]
        refine ih (i + 1) (by omega) prog w A R _ ⟨hl, he, hh, fun j h' q => ?_, fun q => ?_⟩
        · have := h1 (j + 1) h' (by rw [List.findIdx?_cons, hb]; simp [q])
          have e2 : i + 1 + j = i + (j + 1) := by omega
          rw [e2]; exact this
        · exact h2 (by rw [List.findIdx?_cons, hb]; simp [q]))⟩
end Mine
end
section
open PySem PySem.W PySem.Calls PyProof.Rows
set_option maxRecDepth 100000
set_option maxHeartbeats 4000000
namespace Mine
variable [Bd]
open MeetsSeq MeetsSeq2 MeetsSeq3 SeqRoads2 PySem.SeqAt in
theorem list_removeAt (l : Addr) (items : Array Value) (n : Nat) (x : Value) (e : Value → Bool) (hsz : items.size ≤ 2 ^ 20) :
    Meets (Builtin.«list.remove» ⟨[.ref l, x], []⟩)
      (fun A R s => s.heap.get? l = some { cls := .type "list", data := .seq items n } ∧ (∀ y, y ∈ items → EqAt A.in1 s y x (e y)) ∧ A.handled = none ∧
        (∀ j h', items.toList.findIdx? e = some j → h'.PlainList l (items.toList.eraseIdx j).toArray → Heap.SameBut l s.heap h' → R (.ok (.ret .none)) { s with heap := h' }) ∧
        (items.toList.findIdx? e = none → ∀ h' tk ea, Heap.NewExc s.heap h' ea "ValueError" → R (.error (.ref ea)) { s with heap := h', toks := tk })) := by
  intro prog w A R s h
  obtain ⟨hp, g, d, tk, os⟩ := s; obtain ⟨hl, he, hh, h1, h2⟩ := h
  wp_walk using AutoSeq1.wpAny_loadPart' hl
  exact ⟨plainId_quiet plain_remove_loop _, codeAny_builtin entry_remove_loop (by
    rw [Around.under_plainId plain_remove_loop _]
    exact remove_loopAt l items n x e hsz _ 0 rfl prog w A R _ ⟨hl, he, hh, fun j h' q => by simpa using h1 j h' q, fun q => h2 q⟩)⟩

theorem call_remove {w : World} {A : Around} {s : Shared} {E : Value → Shared → Prop} {Q : Value → Shared → Prop} {l : Addr} {items : List Value} {x : Value} {e : Value → Bool} (hsz : items.length ≤ 2 ^ 20) (hl : s.heap.PlainList l items.toArray)
    (he : ∀ y, y ∈ items.toArray → SeqAt.EqAt A.in1 s y x (e y)) (hh : A.handled = none)
    (h1 : ∀ j h', items.findIdx? e = some j → h'.PlainList l (items.eraseIdx j).toArray → Heap.SameBut l s.heap h' → Q .none { s with heap := h' })
    (h2 : items.findIdx? e = none → ∀ h' tk ea, Heap.NewExc s.heap h' ea "ValueError" → E (.ref ea) { s with heap := h', toks := tk }) :
    wpAny (model prog w) A (PySem.call (.builtin "list.remove") [.ref l, x] []) Q E s := by
  obtain ⟨n, ho⟩ := hl
  refine call_meets PySem.F.slot_list_remove ⟨_, ho, rfl⟩ PySem.F.entry_list_remove (PySem.F.args_list_remove_2 _ _) (list_removeAt l items.toArray n x e (by simpa using hsz)) ⟨ho, he, hh, fun j h' q p hs => ?_, fun q h' tk ea p => ?_⟩
  · exact h1 j h' (by simpa using q) (by simpa using p) hs
  · exact h2 (by simpa using q) h' tk ea p

theorem funFrames_of {A : Around} {h : Heap} {l : List Env} (hl : ∀ env ∈ l, env.scope.kind ≠ .module ∧ ∃ L o, env.frame = some L ∧ h.get? L = some o ∧ nd o = false ∧ Bd.b ≤ L) : h.FunFrames {} l := by
  induction l with
  | nil => trivial
  | cons env l ih =>
    obtain ⟨hk, L, o, e1, e2, e3, _⟩ := hl env (.head _)
    refine ⟨hk, ⟨L, o, e1, none_of_le (Nat.zero_le _), e2, fun vs q => ?_⟩, ih fun e m => hl e (.tail _ m)⟩
    unfold nd at e3; rw [q] at e3; cases e3
theorem slots_same {h h' : Heap} {l : List Env} (hl : ∀ env ∈ l, env.scope.kind ≠ .module ∧ ∃ L o, env.frame = some L ∧ h.get? L = some o ∧ nd o = false ∧ Bd.b ≤ L) (x : Heap.SlotsOnly (l.filterMap (·.frame)) h h') : Stay h h' := fun b o e => by
  by_cases hb : b ∈ l.filterMap (·.frame)
  · obtain ⟨sl, e'⟩ := x.2.2 b o e
    obtain ⟨env, m, hf⟩ := List.mem_filterMap.mp hb
    obtain ⟨_, L, o', e1, e2, e3, e4⟩ := hl env m
    rw [hf] at e1; cases e1
    rw [e] at e2; cases e2
    refine ⟨sl, e', fun q => ?_⟩
    rcases q with q | q
    · rw [e3] at q; cases q
    · exact absurd q (Nat.not_lt.mpr e4)
  · exact .of ((x.2.1 b hb).trans e)
theorem noteFrame_first {M : Model} {A : Around} {s : Shared} {E : Value → Shared → Prop} {Q : Unit → Shared → Prop} {env : Env} {L ea : Addr} {ob : Obj} {vs : Array Value} (fr : FrOk A s.heap) (hh : headFrame A = some L) (hf : env.frame = some L)
    (he : s.heap.get? ea = some ob) (hd : ob.data = .fields vs) (h1 : vs[1]? = some .none)
    (k : ∀ h' tb, (∀ b o, b ≠ ea → s.heap.get? b = some o → Same h' b o) → s.heap.get? tb = none → tb ≠ ea → h'.get? ea = some (ob.mapFields (·.setIfInBounds 1 (.ref tb))) →
      (∃ otb tvs, h'.get? tb = some otb ∧ otb.data = .fields tvs ∧ tvs[3]? = some (rawInt L)) → Q () { s with heap := h' }) : wpAny M A (noteFrame (.ref ea) env) Q E s := by
  obtain ⟨l, hl, hall⟩ := fr
  unfold headFrame at hh
  rw [hl] at hh
  cases l with
  | nil => simp at hh
  | cons env' outer =>
  simp only [Option.bind_some, List.head?_cons] at hh
  unfold noteFrame
  simp only [hf]
  refine wpAny_bind (wpAny_field he hd h1 ?_)
  rw [if_neg (by decide)]
  have hfo : ∀ {Q' : Value → Shared → Prop}, (∀ h₁, Stay s.heap h₁ → Q' (.ref L) { s with heap := h₁ }) → wpAny M A (PySem.frameOf env) Q' E s := fun {Q'} kk => by
    unfold PySem.frameOf
    refine wpAny_bind (wpAny_frameEnvs hl ?_)
    have hdw : ((env' :: outer).dropWhile fun x => x.frame != env.frame) = env' :: outer := by simp [List.dropWhile, hh, hf]
    rw [hdw]
    unfold frameObject
    refine wpAny_bind (wpAny_bind (wpAny_readyFrames_fun (funFrames_of (A := A) hall) fun h₁ hs₁ => wpAny_pure ?_))
    rw [hh]
    exact wpAny_pure (kk h₁ (slots_same hall hs₁))
  refine wpAny_bind (hfo fun h₁ ks => ?_)
  refine wpAny_bind (wpAny_entryPlaceOf fun pl hpl => ?_)
  unfold EntryCells.newEntry newFields
  refine wpAny_bind (wpAny_newObj_type ?_ (hpl.sizeOk5 _ _ _ _ _))
  have hnd : nd ob = true := by unfold nd; rw [hd]
  have he₁ : h₁.get? ea = some ob := (ks _ _ he).get (.inl hnd)
  have he₂ := Heap.get?_push_of_some (h := h₁) { cls := .type "traceback", dict := none, data := .fields ([.none, .ref L, .none, rawInt L, .none] ++ (if pl.isEmpty then List.replicate 6 Value.none else pl)).toArray } he₁
  have hsz : 1 < vs.size := (Array.getElem?_eq_some_iff.mp h1).1
  refine wpAny_setField he₂ hd hsz ?_
  have hTe : h₁.objs.size ≠ ea := Nat.ne_of_gt (Heap.lt_size he₁)
  have hd₃ := Obj.data_mapFields hd (·.setIfInBounds 1 (Value.ref h₁.objs.size))
  refine k _ h₁.objs.size (fun b o hb e => ?_) (none_of_stays ks (none_of_le (Nat.le_refl _))) hTe (Heap.get?_update_self _ he₂ (Obj.isFreed_of_fields hd₃)) ⟨_, _, (Heap.get?_update_other _ _ (Ne.symm hTe)).trans (Heap.get?_push_size h₁ rfl), rfl, ?_⟩
  · obtain ⟨sl, e', f⟩ := ks b o e
    exact ⟨sl, (Heap.get?_update_other _ _ (Ne.symm hb)).trans (Heap.get?_push_of_some _ e'), f⟩
  · simp
end Mine
end
section
open PySem PySem.W PySem.Calls PyProof.Rows
set_option maxRecDepth 100000
set_option maxHeartbeats 4000000
namespace Mine
variable [Bd]
section
variable {w : World} {n : Nat} {fr : Option Addr} {env : Env} {M₀ X : List Addr} {h₀ h : Heap} {ρ : List (Str × D)} {σ : List (Addr × List D)} {pos : Pos} {e : Expr} {body : List Stmt}

theorem for_core {A : Around} {s : Shared} {E : Value → Shared → Prop} {Q : Flow → Shared → Prop} {y : Str} {py : Pos} {N : Nat} {it : Nat → D} {ρs : Nat → List (Str × D)} {σs : Nat → List (Addr × List D)} (J : Nat → Prop)
    (a : AOk n A s.heap) (F0 : FS env M₀ X h₀ s.heap (ρs 0) (σs 0)) (hJ : J 0)
    (hiter : Ex w n s.heap (eval e env) (fun v h' => Itr w n (X ++ M₀) h' v N it))
    (turn : ∀ i M₁ base H tk, i < N → J i → Stay h₀ base → Stay s.heap H ∨ True → AOk n A H → FS env M₁ X base H ((y, it i) :: ρs i) (σs i) →
      wpAny (model prog w) A (execs body env) (fun f s'' => (f = .next ∨ f = .cont) ∧ J (i + 1) ∧ ∃ H' tk', s'' = { s with heap := H', toks := tk' } ∧ AOk n A H' ∧ FS env M₁ X base H' (ρs (i + 1)) (σs (i + 1)))
        (notedBy (model prog w) A env (cameBackBy (model prog w) A env E)) { s with heap := H, toks := tk })
    (done : ∀ H tk, J N → AOk n A H → FS env M₀ X h₀ H (ρs N) (σs N) → Q .next { s with heap := H, toks := tk })
    (hk : env.kindOf y = some .local ∨ (env.kindOf y = some .cell ∧ (env.cells.lookup y).isSome = true) := by first | exact .inl rfl | exact .inr ⟨rfl, rfl⟩)
    (hs : ∀ x, foldedSetIterable e env x = pure x := by intro _; rfl) : wpAny (model prog w) A (exec (.For (.Name y py) e body [] pos) env) Q E s := by
  refine wpAny_For (hiter.run a (stays_refl _) fun xv h1 t1 k1 a hit => ?_) hs
  have F1 := F0.grow k1
  refine hit A _ _ _ a (stays_refl _) fun I fp wr P St h₂ t₂ W hst hfp hlive hwr hfM hnf k₂ hP => ?_
  dsimp only at hwr k₂ hP ⊢
  have hXwr : ∀ b ∈ wr, b ∉ X := fun b hb hX => by
    obtain ⟨o, ho⟩ := F1.fd.mok b (List.mem_append_left _ hX)
    rw [hwr b hb] at ho; cases ho
  have hMwr : ∀ b ∈ wr, b ∉ M₀ := fun b hb hX => by
    obtain ⟨o, ho⟩ := F1.fd.mok b (List.mem_append_right _ hX)
    rw [hwr b hb] at ho; cases ho
  have hfX : ∀ b ∈ fp, b ∉ X := fun b hb hX => by
    by_cases hbw : b ∈ wr
    · exact hXwr b hbw hX
    · exact hfM b hb hbw (List.mem_append_left _ hX)
  have G₀ : FS env (wr ++ M₀) X h₀ h₂ (ρs 0) (σs 0) := F1.addM k₂ hwr (hlive 0 h₂ hst)
  have h0wr : ∀ a ∈ wr, h₀.get? a = none := fun a m => none_of_stays F1.base (hwr a m)
  refine codeAny_forLoop (fun k s' => ∃ (i : Nat) (H : Heap) (tk : Nat), s' = { s with heap := H, toks := tk } ∧ J i ∧ AOk n A H ∧ FS env (wr ++ M₀) X h₀ H (ρs i) (σs i) ∧ St i H ∧ i ≤ N ∧ k = N + 1 - i ∧
    (∀ b o, b ∉ X → b ∉ wr → h₂.get? b = some o → Same H b o)) ?_ (N + 1) ⟨0, h₂, t₂, rfl, hJ, a.up k₂, G₀, hst, Nat.zero_le _, rfl, fun _ _ _ _ e => .of e⟩
  rintro kk s' ⟨i, H, tk, rfl, hJi, aH, G, hstH, hi, rfl, kH⟩
  by_cases hlt : i < N
  · refine W.item i _ _ _ hlt hstH fun v H₁ tk₁ hPv hst₁ hk₁ => ?_
    have G1 : FS env (wr ++ M₀) X h₀ H₁ (ρs i) (σs i) := G.beside hk₁ hXwr (hlive _ _ hst₁) h0wr
    have hd : Den (X ++ (wr ++ M₀)) H₁ (it i) v := (hP i v hlt hPv).kept (M := X ++ M₀) (fun b o n e => (k₂ b o e).trans fun o' e' => (kH b o' (fun q => n (List.mem_append_left _ q)) (fun q => by rw [hwr b q] at e; cases e) e').trans fun o'' e'' => .of (hk₁ b o'' (fun q => by rw [hwr b q] at e; cases e) e'')) fun a m => by
      rcases List.mem_append.mp m with m | m
      · exact .inl (List.mem_append_left _ m)
      · rcases List.mem_append.mp m with m | m
        · exact .inr (hwr a m)
        · exact .inl (List.mem_append_right _ m)
    refine wpAny_assign_Name (G1.store (s := { s with heap := H₁, toks := tk₁ }) (a.beside hwr aH hk₁) hd hk fun H₂ tk₂ a₂ G2 kX => ?_)
    have GB := G2.rebase
    have hst₂ : St (i + 1) H₂ := W.frame _ _ _ hst₁ fun b hb o e => kX b o (hfX b hb) e
    refine wpAny_mono (turn i _ _ H₂ tk₂ hlt hJi G2.hidden (.inr trivial) a₂ GB) (fun f s₃ hff => ?_) fun _ _ x => x
    obtain ⟨hff, hJ', H₃, tk₃, rfl, a₃, G3⟩ := hff
    have k3 : ∀ b o, b ∉ X → H₂.get? b = some o → Same H₃ b o := fun b o n e => G3.base b o (hideAll_get X e n)
    have fin : ∃ m, m < N + 1 - i ∧ ∃ (i : Nat) (H : Heap) (tk : Nat), ({ s with heap := H₃, toks := tk₃ } : Shared) = { s with heap := H, toks := tk } ∧ J i ∧ AOk n A H ∧ FS env (wr ++ M₀) X h₀ H (ρs i) (σs i) ∧ St i H ∧ i ≤ N ∧ m = N + 1 - i ∧
        (∀ b o, b ∉ X → b ∉ wr → h₂.get? b = some o → Same H b o) :=
      ⟨N + 1 - (i + 1), by omega, i + 1, H₃, tk₃, rfl, hJ', a₃, G3.unbase G2.hidden, W.frame _ _ _ hst₂ fun b hb o e => (k3 b o (hfX b hb) e).get (.inl (hnf _ _ hst₂ b hb o e)), hlt, rfl, fun b o n nw e => (kH b o n nw e).trans fun o e => k3 b o n (kX b o n (hk₁ b o nw e))⟩
    rcases hff with rfl | rfl <;> exact fin
  · have hin : i = N := by omega
    subst hin
    refine W.done _ _ _ hstH fun H₁ tk₁ hk₁ => wpAny_execs_nil ?_
    exact done H₁ tk₁ hJi (a.beside hwr aH hk₁) (G.besideOut hk₁ hXwr hMwr h0wr)

theorem raised_ret {A : Around} {s : Shared} {E : Value → Shared → Prop} {Q : Flow → Shared → Prop} {L ea : Addr} {H H' : Heap} {tk : Nat} {t : Expr} {hp rp cp : Pos} {k : Nat} (fr : FrOk A H) (hh : headFrame A = some L) (hf : env.frame = some L) (hx : Heap.NewExc H H' ea "ValueError")
    (hname : ∀ (A' : Around) (s' : Shared) (Q' : Value → Shared → Prop) (E' : Value → Shared → Prop), Stay H s'.heap → Q' (.type "ValueError") s' → wpAny (model prog w) A' (eval t env) Q' E' s')
    (hQ : ∀ Hf tk', Stay H Hf → Q (.ret (.bool false)) { s with heap := Hf, toks := tk' }) :
    notedBy (model prog w) A env (cameBackBy (model prog w) A env (fun e s₁ => wpAny (model prog w) A (noteFrame e env) (fun _ s₂ => wpAny (model prog w) A (setFlight e none) (fun _ s₃ =>
      wpAny (model prog w) A (handleBy e env [.ExceptHandler (some t) none [.Return (some (.Constant (.bool false) k cp)) rp] hp]) Q E s₃) E s₂) E s₁)) (.ref ea) { s with heap := H', toks := tk } := by
  obtain ⟨ob, tt, he, hcls, hd⟩ := hx.there
  have kH : Stay H H' := .of hx.keeps
  refine noteFrame_first (s := { s with heap := H', toks := tk }) (fr.up kH) hh hf he hd rfl fun h2 tb k2 htb0 htbe he2 ⟨otb, tvs, htb, hdt, h3⟩ => ?_
  dsimp only at k2 htb0
  have hsz : 3 < tvs.size := (Array.getElem?_eq_some_iff.mp h3).1
  have hne : ∀ b o, H.get? b = some o → b ≠ ea := fun b o e q => by rw [q, hx.new] at e; cases e
  have hnt : ∀ b o, H.get? b = some o → b ≠ tb := fun b o e q => by have := hx.keeps b o e; rw [q, htb0] at this; cases this
  have s2 : Stay H h2 := fun b o e => k2 b o (hne b o e) (hx.keeps b o e)
  have hd2 : (ob.mapFields (·.setIfInBounds 1 (.ref tb))).data = .fields #[tt, .ref tb, .none, .none, .bool false, .none] := by rw [Obj.data_mapFields hd]; rfl
  have hcls2 : (ob.mapFields (·.setIfInBounds 1 (.ref tb))).cls = .type "ValueError" := by rw [Obj.cls_mapFields]; exact hcls
  -- an update of the traceback
  have up : ∀ {hq : Heap} {f : Obj → Obj}, Stay H hq → Stay H (hq.update tb f) := fun {hq f} kq b o e => by
    obtain ⟨sl, e', f'⟩ := kq b o e
    exact ⟨sl, (Heap.get?_update_ne _ _ _ _ (hnt b o e)).trans e', f'⟩
  unfold cameBackBy
  refine wpAny_bind (wpAny_field he2 hd2 rfl ?_)
  rw [if_neg (by simp)]
  refine wpAny_bind (wpAny_field he2 hd2 rfl ?_)
  rw [if_pos (by simp)]
  refine wpAny_setField htb hdt hsz ?_
  have htb3 := Heap.get?_update_self (Obj.mapFields (·.setIfInBounds 3 (env.frame.elim Value.none fun f => rawInt f))) htb (Obj.isFreed_of_fields (Obj.data_mapFields hdt _))
  have hdt3 := Obj.data_mapFields hdt (·.setIfInBounds 3 (env.frame.elim Value.none fun f => rawInt f))
  have he3 := (Heap.get?_update_ne h2 ea tb (Obj.mapFields (·.setIfInBounds 3 (env.frame.elim Value.none fun f => rawInt f))) (Ne.symm htbe)).trans he2
  have s3 := up (f := Obj.mapFields (·.setIfInBounds 3 (env.frame.elim Value.none fun f => rawInt f))) s2
  refine wpAny_noteFrame_inFlight (L := L) hf he3 hd2 rfl htb3 hdt3 (by simp [Array.getElem?_setIfInBounds, hsz, hf]) ?_
  refine wpAny_setFlight_none he3 hd2 rfl htb3 hdt3 (by simp [hsz]) ?_
  have htb4 := Heap.get?_update_self (Obj.mapFields (·.setIfInBounds 3 Value.none)) htb3 (Obj.isFreed_of_fields (Obj.data_mapFields hdt3 _))
  have hdt4 := Obj.data_mapFields hdt3 (·.setIfInBounds 3 Value.none)
  have he4 := (Heap.get?_update_ne _ ea tb (Obj.mapFields (·.setIfInBounds 3 Value.none)) (Ne.symm htbe)).trans he3
  have s4 := up (f := Obj.mapFields (·.setIfInBounds 3 Value.none)) s3
  refine wpAny_handleBy_builtin (X := "ValueError") (T := "ValueError") (b := true) ?_ ?_ ?_ (hname _ _ _ _ s4 ⟨rfl, ⟨_, he4, hcls2⟩, ?_⟩)
  · rw [isSubtype_type]; kernel_rfl
  · rw [isSubtype_type]; kernel_rfl
  · rw [isSubtype_type]; kernel_rfl
  rw [if_pos rfl]
  refine wpAny_setFlight_none he4 hd2 rfl htb4 hdt4 (by simp [hsz]) ?_
  refine wpAny_execs_cons (wpAny_Return_some ?_)
  rw [eval_Constant]
  exact wpAny_pure (hQ _ _ (up s4))
end
end Mine
end
section
open PySem PySem.W PySem.Calls PyProof.Rows
set_option maxRecDepth 100000
set_option maxHeartbeats 4000000
namespace Mine
variable [Bd]
section
variable {w : World} {n : Nat} {fr : Option Addr} {env : Env} {M M₀ X : List Addr} {h₀ h : Heap} {ρ : List (Str × D)} {σ : List (Addr × List D)} {pos px : Pos} {e : Expr} {d r : D} {Q : Flow → Heap → Prop}

theorem eq_list_map (ty : Ty) {A : Around} {s : Shared} {l : List D} {vs : List Value} {d : D} {v : Value} (hp : HasTy (.list ty) (.list l)) (hq : HasTy ty d) (dl : Dens M s.heap l vs) (dd : Den M s.heap d v) (hu : A.units + ty.depth < cLine) :
    ∃ e : Value → Bool, (∀ y ∈ vs.toArray, SeqAt.EqAt A s y v (e y)) ∧ vs.map e = l.map (D.eqb · d) := by
  classical
  have hp' : ∀ x ∈ l, HasTy ty x := by simpa only [HasTy] using hp
  let f : Value → Bool := fun y => if hy : ∃ d', d' ∈ l ∧ Den M s.heap d' y then D.eqb hy.choose d else false
  have fe : ∀ d' y, d' ∈ l → Den M s.heap d' y → f y = D.eqb d' d := fun d' y m p => by
    have hy : ∃ d', d' ∈ l ∧ Den M s.heap d' y := ⟨d', m, p⟩
    show (if hy : ∃ d', d' ∈ l ∧ Den M s.heap d' y then D.eqb hy.choose d else false) = _
    rw [dif_pos hy, den_inj ty (hp' _ hy.choose_spec.1) (hp' _ m) hy.choose_spec.2 p]
  have mem : ∀ {l : List D} {vs : List Value}, Dens M s.heap l vs → ∀ y ∈ vs, ∃ d' ∈ l, Den M s.heap d' y := by
    intro l
    induction l with
    | nil => intro vs x y hy; simp only [Dens] at x; subst x; cases hy
    | cons a l ih =>
      intro vs x y hy
      simp only [Dens] at x
      obtain ⟨v0, r, rfl, hv, hr⟩ := x
      cases hy with
      | head => exact ⟨a, .head _, hv⟩
      | tail _ hy => obtain ⟨d', m, p⟩ := ih hr y hy; exact ⟨d', .tail _ m, p⟩
  refine ⟨f, fun y hy => ?_, ?_⟩
  · obtain ⟨d', m, p⟩ := mem dl y (by simpa using hy)
    rw [fe d' y m p]
    exact eqAt_of ty (hp' _ m) hq p dd hu
  · have : ∀ {l' : List D} {vs : List Value}, (∀ x ∈ l', x ∈ l) → Dens M s.heap l' vs → vs.map f = l'.map (D.eqb · d) := by
      intro l'
      induction l' with
      | nil => intro vs _ x; simp only [Dens] at x; subst x; rfl
      | cons a l' ih =>
        intro vs hsub x
        simp only [Dens] at x
        obtain ⟨v0, r, rfl, hv, hr⟩ := x
        rw [List.map_cons, List.map_cons, fe a v0 (hsub a (.head _)) hv, ih (fun x hx => hsub x (.tail _ hx)) hr]
    exact this (fun _ h => h) dl

noncomputable def rem1 (l : List D) (d : D) : Option (List D) := (l.findIdx? (D.eqb · d)).map fun j => l.eraseIdx j
noncomputable def remAll (l2 l1 : List D) : Option (List D) := l1.foldlM rem1 l2
noncomputable def cmpD (a b : List D) : Bool := match remAll (dedup b) (dedup a) with | some r => r.isEmpty | none => false

theorem findIdx_map {α β : Type} {p : α → Bool} {q : β → Bool} : ∀ {l : List α} {m : List β}, l.map p = m.map q → l.findIdx? p = m.findIdx? q
  | [], [], _ => rfl
  | [], _ :: _, h => by simp at h
  | _ :: _, [], h => by simp at h
  | a :: l, b :: m, h => by
    simp only [List.map_cons, List.cons.injEq] at h
    rw [List.findIdx?_cons, List.findIdx?_cons, h.1, findIdx_map h.2]
theorem Dens.erase {h} : ∀ {l : List D} {vs : List Value} (i : Nat), Dens M h l vs → Dens M h (l.eraseIdx i) (vs.eraseIdx i)
  | [], _, i, x => by simp only [Dens] at x; subst x; simp [Dens]
  | _ :: _, _, 0, x => by simp only [Dens] at x; obtain ⟨v, r, rfl, hv, hr⟩ := x; simpa using hr
  | _ :: _, _, i+1, x => by simp only [Dens] at x; obtain ⟨v, r, rfl, hv, hr⟩ := x; simp only [List.eraseIdx_cons_succ]; exact .cons hv (hr.erase i)

/-- a call of a def of the text by its name -/
theorem ev_def1 {x : Str} {f : Addr} {p' : Pos} (X : TR w h) (hx : nsIn (K39 w.params) mainGlobals x = some (some (.ref f))) (hkeep : keepIn (K39 w.params) (.ref f) = true) (arg : Ev w n env M h e d)
    (spec : ∀ h' v, Stay h h' → Den M h' d v → Cx w n h' (.call (.ref f) ⟨[v], []⟩) (fun u h'' => Den M h'' r u)) (hkind : env.scope.kind = .function := by rfl) (hk : env.kindOf x = some .globalImplicit := by rfl)
    (hg : env.globals = mainGlobals := by rfl) (hb : (x == ("__debug__" : Str)) = false := by decide)
    (he : starEach [e] env = (false, eval e env) :: starEach [] env := by rfl) : Ev w n env M h (.Call (.Name x p') [e] [] pos) r :=
  ex_call X (ex_global X hx hkind hk hg hb) (keep_def hkeep) (exl_cons arg exl_nil he) (fun h' vs k q => by
    simp only [Dens] at q
    obtain ⟨v, r, rfl, hv, rfl⟩ := q
    exact Ex.call (spec h' v k hv)) he
theorem ev_def2 {x : Str} {f : Addr} {p' : Pos} {e₂ : Expr} {d₂ : D} (X : TR w h) (hx : nsIn (K39 w.params) mainGlobals x = some (some (.ref f))) (hkeep : keepIn (K39 w.params) (.ref f) = true) (arg : Ev w n env M h e d) (arg₂ : Ev w n env M h e₂ d₂)
    (spec : ∀ h' v v₂, Stay h h' → Den M h' d v → Den M h' d₂ v₂ → Cx w n h' (.call (.ref f) ⟨[v, v₂], []⟩) (fun u h'' => Den M h'' r u)) (hkind : env.scope.kind = .function := by rfl) (hk : env.kindOf x = some .globalImplicit := by rfl)
    (hg : env.globals = mainGlobals := by rfl) (hb : (x == ("__debug__" : Str)) = false := by decide)
    (he : starEach [e, e₂] env = (false, eval e env) :: starEach [e₂] env := by rfl) (he₂ : starEach [e₂] env = (false, eval e₂ env) :: starEach [] env := by rfl) (hplain : (backTo pos (starEach [e₂] env)).any (·.1) = false := by rfl) : Ev w n env M h (.Call (.Name x p') [e, e₂] [] pos) r :=
  ex_call X (ex_global X hx hkind hk hg hb) (keep_def hkeep) (exl_cons arg (exl_cons arg₂ exl_nil he₂) he) (fun h' vs k q => by
    simp only [Dens] at q
    obtain ⟨v, r, rfl, hv, v₂, r, rfl, hv₂, rfl⟩ := q
    exact Ex.call (spec h' v v₂ k hv hv₂)) he hplain

/-- a fresh list -/
noncomputable def FreshL (M : List Addr) (h : Heap) (ds : List D) (u : Value) (h' : Heap) : Prop := ∃ (r : Addr) (vs : List Value), u = .ref r ∧ h.get? r = none ∧ h'.PlainList r vs.toArray ∧ Dens (r :: M) h' ds vs
theorem c_list_new {l : List D} {v : Value} (hv : Den M h (.list l) v) (hl : l.length < 2 ^ 24) : Ex w n h (PySem.call (.type "list") [v] []) (FreshL M h l) := fun A s a k => by
  have hv := hv.stays k
  simp only [Den] at hv; obtain ⟨r, vs, rfl, _, hl', dl⟩ := hv
  have hlen := dl.length
  obtain ⟨o, ho, hc, nn, hd⟩ := hl'
  refine call_list_seq r (.inl rfl) ho hc hd (fun h' c' k' e => Then.mk (.of k') ⟨_, vs, rfl, none_of_stays k (none_of_le (Nat.le_refl _)), ⟨_, e⟩, dl.kept (.of (.of k')) fun q m => ?_⟩) (by show vs.toArray.size ≤ 2 ^ 24; simp [hlen]; omega)
  rcases List.mem_cons.mp m with rfl | m
  · exact .inr (none_of_le (Nat.le_refl _))
  · exact .inl m
theorem sx_adopt {y : Str} {ds : List D} (F : FS env M₀ X h₀ h ρ σ) (x : Ex w n h (eval e env) (FreshL (X ++ M₀) h ds))
    (H : ∀ r h', h.get? r = none → FS env M₀ (r :: X) h₀ h' ((y, .ref r) :: ρ) ((r, ds) :: σ) → Q .next h')
    (hk : env.kindOf y = some .local ∨ (env.kindOf y = some .cell ∧ (env.cells.lookup y).isSome = true) := by first | exact .inl rfl | exact .inr ⟨rfl, rfl⟩)
    (hs : swapsWith e (some (.Name y px)) pos.line env = pure false := by rfl) : Sx w n fr (exec (.Assign [.Name y px] e pos) env) h Q := fun A s a hf eh =>
  wpAny_Assign_Name (x.run a (eh ▸ stays_refl _) fun v h1 t1 k1 a p1 => by
    obtain ⟨r, vs, rfl, hr, hp, hd⟩ := p1
    have k1 : Stay h h1 := eh ▸ k1
    have F1 := F.adopt k1 hr ⟨vs, hp, hd⟩
    exact F1.store (s := { s with heap := h1, toks := t1 }) a Den.ref' hk fun h' tk a F' _ => ⟨h', tk, rfl, a, H _ h' hr F'⟩) hs
end
end Mine
end
section
open PySem PySem.W PySem.Calls PyProof.Rows
set_option maxRecDepth 100000
set_option maxHeartbeats 4000000
namespace Mine
variable [Bd]
/-- an own list is changed -/
theorem FS.setOwn {env : Env} {M₀ X : List Addr} {h₀ h h' : Heap} {ρ : List (Str × D)} {σ : List (Addr × List D)} {r : Addr} {ds ds' : List D} {vs' : List Value} (F : FS env M₀ X h₀ h ρ ((r, ds) :: σ)) (hs : Heap.SameBut r h h') (hp : h'.PlainList r vs'.toArray)
    (hd : Dens (X ++ M₀) h' ds' vs') : FS env M₀ X h₀ h' ρ ((r, ds') :: σ) := by
  obtain ⟨_, hrX, hrL, hrc⟩ := F.own r ds (.head _)
  have hM : r ∈ X ++ M₀ := List.mem_append_left _ hrX
  refine F.change hs hrX ?_ ?_ (fun z e hz => ?_) (fun z c e => ?_) (fun r' ds'' m => ?_) ?_
  · obtain ⟨mL, q⟩ := F.ns; exact ⟨mL, q.sameBut hs (Ne.symm hrL)⟩
  · obtain ⟨q, e⟩ := hp; exact ⟨_, e⟩
  · obtain ⟨u', hu, du⟩ := F.fd.var z e hz
    refine ⟨u', ?_, du.keep (.same hs hM)⟩
    unfold VarAt at hu ⊢
    split at hu
    · obtain ⟨m2, e1, e2⟩ := hu; exact ⟨m2, e1.sameBut hs (Ne.symm hrL), e2⟩
    · obtain ⟨c, e1, e2⟩ := hu; exact ⟨c, e1, e2.sameBut hs fun q => hrc _ (q ▸ e1)⟩
    · obtain ⟨c, e1, e2⟩ := hu; exact ⟨c, e1, e2.sameBut hs fun q => hrc _ (q ▸ e1)⟩
    · trivial
  · obtain ⟨_, _, v, y⟩ := F.cm z c e; exact ⟨v, y.sameBut hs fun q => hrc _ (q ▸ e)⟩
  · rcases List.mem_cons.mp m with e | m
    · cases e; exact ⟨⟨vs', hp, hd⟩, hrX, hrL, hrc⟩
    · obtain ⟨a, b⟩ := F.own r' ds'' (.tail _ m)
      exact ⟨ow_change a hs (fun q => (List.pairwise_cons.mp F.od).1 _ m q.symm) hM, b⟩
  · have := List.pairwise_cons.mp F.od; exact List.Pairwise.cons (fun q m => this.1 q m) this.2
end Mine
end
section
open PySem PySem.W PySem.Calls PyProof.Rows
set_option maxRecDepth 100000
set_option maxHeartbeats 4000000
namespace Mine
variable [Bd]

theorem spec_dedup' {w : World} {n : Nat} {M : List Addr} {h : Heap} {l : List D} {v : Value} (ty : Ty) (hty : ty.depth ≤ 6) (X : TR w h) (hM : MOk M h) (hv : Den M h (.list l) v) (hl : HasTy (.list ty) (.list l)) (hlen : l.length ≤ 2 ^ 20) (hn : 3 ≤ n) :
    Cx w n h (.call (.ref 38) ⟨[v], []⟩) (fun u h' => Den M h' (.list (dedup l)) u) := by
  obtain ⟨m, rfl⟩ : ∃ m, n = m + 1 := ⟨n - 1, by omega⟩
  exact spec_dedup ty hty X hM hv hl hlen (by omega)
theorem hasTy_list {ty : Ty} {l : List D} : HasTy (.list ty) (.list l) ↔ ∀ x ∈ l, HasTy ty x := by simp only [HasTy]
theorem dedup_ty {ty : Ty} {l : List D} (hl : HasTy (.list ty) (.list l)) : HasTy (.list ty) (.list (dedup l)) := hasTy_list.mpr fun x m => hasTy_list.mp hl x (dedup_mem m)
theorem rem1_mem {l r : List D} {d x : D} (h : rem1 l d = some r) (m : x ∈ r) : x ∈ l := by
  unfold rem1 at h
  cases q : l.findIdx? (D.eqb · d) with
  | none => rw [q] at h; cases h
  | some j => rw [q] at h; cases h; exact List.mem_of_mem_eraseIdx m
theorem remAll_mem : ∀ {a l r : List D} {x : D}, remAll l a = some r → x ∈ r → x ∈ l
  | [], l, r, x, h, m => by cases h; exact m
  | d :: a, l, r, x, h, m => by
    unfold remAll at h
    rw [List.foldlM_cons] at h
    cases q : rem1 l d with
    | none => rw [q] at h; cases h
    | some l' => rw [q] at h; exact rem1_mem q (remAll_mem (a := a) h m)
theorem rem1_len {l r : List D} {d : D} (h : rem1 l d = some r) : r.length ≤ l.length := by
  unfold rem1 at h
  cases q : l.findIdx? (D.eqb · d) with
  | none => rw [q] at h; cases h
  | some j => rw [q] at h; cases h; exact List.length_eraseIdx_le ..
theorem remAll_len : ∀ {a l r : List D}, remAll l a = some r → r.length ≤ l.length
  | [], l, r, h => by cases h; exact Nat.le_refl _
  | d :: a, l, r, h => by
    unfold remAll at h
    rw [List.foldlM_cons] at h
    cases q : rem1 l d with
    | none => rw [q] at h; cases h
    | some l' => rw [q] at h; exact Nat.le_trans (remAll_len (a := a) h) (rem1_len q)
theorem remAll_snoc {a l : List D} {d : D} : remAll l (a ++ [d]) = (remAll l a).bind (rem1 · d) := by
  unfold remAll
  rw [List.foldlM_append]
  cases List.foldlM rem1 l a with
  | none => rfl
  | some r => show (rem1 r d >>= fun x => List.foldlM rem1 x []) = _; simp [List.foldlM]

theorem spec_cmp {w : World} {n : Nat} {M : List Addr} {h : Heap} {l₁ l₂ : List D} {v₁ v₂ : Value} (ty : Ty) (hty : ty.depth ≤ 5) (X : TR w h) (hM : MOk M h) (hv₁ : Den M h (.list l₁) v₁) (hv₂ : Den M h (.list l₂) v₂)
    (hl₁ : HasTy (.list ty) (.list l₁)) (hl₂ : HasTy (.list ty) (.list l₂)) (hlen₁ : l₁.length ≤ 2 ^ 20) (hlen₂ : l₂.length ≤ 2 ^ 20) (hn : 4 ≤ n) :
    Cx w n h (.call (.ref 45) ⟨[v₁, v₂], []⟩) (fun u h' => Den M h' (.bool (cmpD l₁ l₂)) u) := by
  obtain ⟨m, rfl⟩ : ∃ m, n = m + 1 := ⟨n - 1, by omega⟩
  refine cx_def (ρ := [(Str.ofString "first_args", .list l₁), (Str.ofString "second_args", .list l₂)]) X hM (by with_unfolding_all rfl) (by with_unfolding_all rfl) (fun s k => .of_eq rfl) (.cons hv₁ (.cons hv₂ .nil)) (by rfl) fun L Y h₀ h' k F => ?_
  have X₀ := X.stays k
  refine sx_cons (sx_assign (d := .list (dedup l₁)) F (ev_def1 (X₀.stays F.base) (by with_unfolding_all rfl) (by with_unfolding_all rfl) (ev_local (d := .list l₁) F.fd rfl) fun h2 v k2 hv => spec_dedup' ty (by omega) (X₀.stays (stays_trans F.base k2)) (F.fd.mok.stays k2) hv hl₁ hlen₁ (by omega)) fun h1 F1 => ?_)
  refine sx_cons (sx_assign (d := .list (dedup l₂)) F1 (ev_def1 (X₀.stays F1.base) (by with_unfolding_all rfl) (by with_unfolding_all rfl) (ev_local (d := .list l₂) F1.fd rfl) fun h2 v k2 hv => spec_dedup' ty (by omega) (X₀.stays (stays_trans F1.base k2)) (F1.fd.mok.stays k2) hv hl₂ hlen₂ (by omega)) fun h2 F2 => ?_)
  have hd₁ := dedup_ty hl₁
  have hd₂ := dedup_ty hl₂
  have hn₁ : (dedup l₁).length ≤ 2 ^ 20 := Nat.le_trans (dedup_len _) hlen₁
  have hn₂ : (dedup l₂).length ≤ 2 ^ 20 := Nat.le_trans (dedup_len _) hlen₂
  generalize hg₁ : dedup l₁ = a at *
  generalize hg₂ : dedup l₂ = b at *
  refine sx_cons (sx_adopt (ds := b) F2 (ex_call (X₀.stays F2.base) (ex_builtin (X₀.stays F2.base) (by with_unfolding_all rfl) rfl) keep_type (exl_cons (ev_local (d := .list b) F2.fd rfl) exl_nil) fun h3 vs k3 q => ?_) fun r h3 hr F3 => ?_)
  · simp only [Dens] at q
    obtain ⟨v, rr, rfl, hv, rfl⟩ := q
    exact (c_list_new hv (by omega)).post fun u h4 k4 ⟨r, vs, e, hr, p, q⟩ => ⟨r, vs, e, none_of_stays k3 hr, p, q⟩
  have F3 := F3.names (ρ' := [(Str.ofString "first_unhashable", .list a), (Str.ofString "t", .ref r)])
  refine sx_cons (fun A s aok hf eh => ?_)
  subst eh
  have tkt : ∀ i, i < a.length → remAll b (a.take (i + 1)) = (remAll b (a.take i)).bind (rem1 · (a.getD i .none)) := fun i hi => by
    rw [List.take_add_one, List.getElem?_eq_getElem hi, ← remAll_snoc]; simp [List.getD, hi]
  refine wpAny_Try_except (wpAny_execs_cons (for_core (ρs := fun _ => [(Str.ofString "first_unhashable", .list a), (Str.ofString "t", .ref r)]) (σs := fun i => [(r, (remAll b (a.take i)).getD [])]) (N := a.length) (it := fun i => a.getD i .none)
    (fun i => (remAll b (a.take i)).isSome = true) aok F3 rfl ((ev_local (d := .list a) F3.fd rfl).post fun v h' _ q => itr_list q) ?_ ?_))
  · intro i M₁ base H tk hi hJ kb _ aH G
    obtain ⟨bi, hbi⟩ := Option.isSome_iff_exists.mp hJ
    have G := G
    simp only [hbi, Option.getD_some] at G
    have hai : a.getD i .none ∈ a := by simp [List.getD, hi]
    have htyi : HasTy ty (a.getD i .none) := hasTy_list.mp hd₁ _ hai
    refine wpAny_execs_cons (wpAny_Expr ?_)
    refine wpAny_Call_method rfl rfl rfl PySem.F.plainAttrs_list PySem.F.slot_list_remove PySem.F.type_list_remove ?_
    refine Ex.run (n := m) ((ev_local (d := .ref r) G.fd rfl).post (P' := fun u _ => u = .ref r) fun v h' _ q => by simpa only [Den] using q) aH (stays_refl _) fun v H1 t1 k1 a1 p1 => ?_
    subst p1
    have G1 := G.grow k1
    obtain ⟨⟨vs, ⟨nn, ho⟩, hd⟩, hrX, hrL, hrc⟩ := G1.own r bi (.head _)
    refine ⟨⟨_, ho, rfl⟩, fun a e => by cases e; exact ⟨_, ho, rfl⟩, ?_⟩
    refine Calls.callWith_builtin rfl (evalArgs_plain (spliced_cons ?_))
    refine Ex.run (n := m) (ev_local (d := a.getD i .none) G1.fd rfl) a1 (stays_refl _) fun u H2 t2 k2 a2 p2 => spliced_nil ?_
    have G2 := G1.grow k2
    have hd2 := hd.stays k2
    have hbit : HasTy (.list ty) (.list bi) := hasTy_list.mpr fun x mx => hasTy_list.mp hd₂ x (remAll_mem hbi mx)
    obtain ⟨e, he, hmap⟩ := eq_list_map ty (A := A.in1) (s := { s with heap := H2, toks := t2 }) hbit htyi hd2 p2 (units_ok1 a2 (by omega) (by omega))
    have hfi : vs.findIdx? e = bi.findIdx? (D.eqb · (a.getD i .none)) := findIdx_map hmap
    have hlenb : bi.length ≤ b.length := remAll_len hbi
    have hlv := hd2.length
    refine call_remove (e := e) (by omega) ⟨nn, (k2 _ _ ho).get (.inl rfl)⟩ he a2.handled (fun j H3 hj hp3 hs3 => ?_) (fun hj H3 tk3 ea hx => ?_)
    · have hrem : remAll b (a.take (i + 1)) = some (bi.eraseIdx j) := by
        rw [tkt i hi, hbi]
        show rem1 bi _ = _
        unfold rem1
        rw [← hfi, hj]; rfl
      refine wpAny_execs_nil ⟨.inl rfl, by simp only [hrem]; rfl, H3, _, rfl, a2.change hs3 (fun o e1 e2 => by rw [(k2 _ _ ho).get (.inl rfl)] at e1; cases e1; cases e2), ?_⟩
      simp only [hrem, Option.getD_some]
      exact (G2.setOwn (ds' := bi.eraseIdx j) hs3 hp3 ((hd2.keep (.same hs3 (List.mem_append_left _ hrX))).erase j)).names
    · have hrem : remAll b (a.take (i + 1)) = none := by
        rw [tkt i hi, hbi]
        show rem1 bi _ = _
        unfold rem1
        rw [← hfi, hj]; rfl
      have hcmp : cmpD l₁ l₂ = false := by
        have : remAll b a = none := by
          rw [← List.take_append_drop (i + 1) a]
          unfold remAll at hrem ⊢
          rw [List.foldlM_append, hrem]; rfl
        unfold cmpD
        rw [hg₁, hg₂, this]
      refine raised_ret (H := H2) a2.frames hf rfl hx (fun A' s' Q' E' kS q => ?_) (fun Hf tk' kf => ?_)
      · obtain ⟨K, mg, mb, T⟩ := X₀.stays (stays_trans (stays_trans kb G2.base) kS)
        exact Name_function_global rfl rfl (loadGlobal_builtin T.g (mg_none_of K T.g (by with_unfolding_all rfl)) T.b ((T.builtins _ (by decide)).trans (by rfl)) q) (by decide)
      · exact ⟨Hf, tk', rfl, a2.up kf, stays_trans (stays_trans kb G2.base) kf, by rw [hcmp]; exact Den.bool'⟩
  · intro H tk hJ aH G
    obtain ⟨bi, hbi⟩ := Option.isSome_iff_exists.mp hJ
    simp only [hbi, Option.getD_some] at G
    rw [List.take_length] at hbi
    have hlenb : bi.length ≤ b.length := remAll_len hbi
    refine wpAny_execs_nil (wpAny_execs_nil ⟨H, tk, rfl, aH, ?_⟩)
    refine sx_cons (sx_return (ev_not (M := []) (ev_local (d := .list bi) (G.view (x := Str.ofString "t") rfl (.head _)) rfl) rfl (by show bi.length < 2 ^ 24; omega)) fun v h3 k3 q => ?_)
    refine ⟨stays_trans G.base k3, ?_⟩
    have : cmpD l₁ l₂ = !(!bi.isEmpty) := by unfold cmpD; rw [hg₁, hg₂, hbi]; simp
    rw [this]
    simp only [Den] at q ⊢
    exact q
end Mine
end
section
open PySem PySem.W PySem.Calls PyProof.Rows
set_option maxRecDepth 100000
set_option maxHeartbeats 4000000
namespace Mine
variable [Bd]

theorem spec_laid {w : World} {n : Nat} {M : List Addr} {h : Heap} {a b : List D} {v₁ v₂ : Value} (ty : Ty) (hty : ty.depth ≤ 6) (X : TR w h) (hM : MOk M h) (hv₁ : Den M h (.list a) v₁) (hv₂ : Den M h (.list b) v₂)
    (hl₁ : HasTy (.list ty) (.list a)) (hl₂ : HasTy (.list ty) (.list b)) (hlen : a.length + b.length ≤ 2 ^ 20) (hn : 4 ≤ n) :
    Cx w n h (.call (.ref 126) ⟨[v₁, v₂], []⟩) (fun u h' => Den M h' (.list (dedup (a ++ b))) u) := by
  obtain ⟨m, rfl⟩ : ∃ m, n = m + 1 := ⟨n - 1, by omega⟩
  refine cx_def (ρ := [(Str.ofString "a", .list a), (Str.ofString "b", .list b)]) X hM (by with_unfolding_all rfl) (by with_unfolding_all rfl) (fun s k => .of_eq rfl) (.cons hv₁ (.cons hv₂ .nil)) (by rfl) fun L Y h₀ h' k F => ?_
  have X₀ := X.stays k
  have hl : HasTy (.list ty) (.list (a ++ b)) := hasTy_list.mpr fun x m => (List.mem_append.mp m).elim (hasTy_list.mp hl₁ x) (hasTy_list.mp hl₂ x)
  refine sx_cons (sx_return (ev_def1 (X₀.stays F.base) (by with_unfolding_all rfl) (by with_unfolding_all rfl) (ev_bin F.fd.mok (ev_local (d := .list a) F.fd rfl) (ev_local (d := .list b) F.fd rfl) (bin_addl (by unfold sizeLine; omega)))
    fun h2 v k2 hv => spec_dedup' ty hty (X₀.stays (stays_trans F.base k2)) (F.fd.mok.stays k2) hv hl (by simp; omega) (by omega)) fun v h3 k3 q => ⟨stays_trans F.base k3, ?_⟩)
  exact q.kept .refl fun q m => .inl (List.mem_append_right _ m)

theorem ev_filter_list {w : World} {n : Nat} {env : Env} {M : List Addr} {h : Heap} {ρ : List (Str × D)} {elt iter : Expr} {x : Str} {px pos : Pos} {ifs : List Expr} {scope : Scope} {l : List D} {p : D → Bool}
    (F : FD env M h ρ) (ok : compOk scope env x ρ = true) (hiter : Ev w n env M h iter (.list l))
    (htests : ∀ d ∈ l, ∀ M' C h', Stay h h' → FD (cEnv scope env C) M' h' ((x, d) :: ρ) → Ex w n h' (testsT ifs (cEnv scope env C)) (fun ok _ => ok = p d))
    (helt : ∀ d ∈ l, ∀ M' C h', p d = true → Stay h h' → FD (cEnv scope env C) M' h' ((x, d) :: ρ) → Ev w n (cEnv scope env C) M' h' elt d)
    (hN : l.length ≤ 2 ^ 20) (hs : ∀ x, foldedSetIterable iter env x = pure x := by intro _; rfl) :
    Ev w n env M h (.ListComp elt [⟨.Name x px, iter, ifs, 0⟩] scope pos) (.list (l.filter p)) := by
  have := ev_comp_list (f := id) (px := px) (pos := pos) F ok hiter htests helt hN hs
  rwa [List.map_id] at this

noncomputable def same2 : D → D → Bool
  | .list a, .list b => cmpD a b
  | _, _ => false
noncomputable def keptD (kept : List D) (row : D) : List D := if (kept.filter fun d => same2 d row).isEmpty then kept ++ [row] else kept
theorem eqbs_nil {l : List D} : D.eqbs l [] = l.isEmpty := by cases l <;> rfl
theorem spec_kept {w : World} {n : Nat} {M : List Addr} {h : Heap} {a b : List D} {v₁ v₂ : Value} (ty : Ty) (hty : ty.depth ≤ 5) (X : TR w h) (hM : MOk M h) (hv₁ : Den M h (.list a) v₁) (hv₂ : Den M h (.list b) v₂)
    (hl₁ : HasTy (.list (.list ty)) (.list a)) (hl₂ : HasTy (.list ty) (.list b)) (hlen : a.length ≤ 2 ^ 10) (hlen' : ∀ d ∈ a, ∀ l, d = .list l → l.length ≤ 2 ^ 20) (hlen₂ : b.length ≤ 2 ^ 20) (hn : 6 ≤ n) :
    Cx w n h (.call (.ref 131) ⟨[v₁, v₂], []⟩) (fun u h' => Den M h' (.list (keptD a (.list b))) u) := by
  obtain ⟨m, rfl⟩ : ∃ m, n = m + 1 := ⟨n - 1, by omega⟩
  refine cx_def (ρ := [(Str.ofString "kept", .list a), (Str.ofString "row", .list b)]) X hM (by with_unfolding_all rfl) (by with_unfolding_all rfl) (fun s k => .of_eq rfl) (.cons hv₁ (.cons hv₂ .nil)) (by rfl) fun L Y h₀ h' k F => ?_
  have X₀ := X.stays k
  refine sx_cons (sx_return (P := fun v h' => Den (Y ++ M) h' (.list (keptD a (.list b))) v) (ev_ite (b := !D.eqbs (a.filter fun d => same2 d (.list b)) []) (tr_cmp (M := Y ++ M)
      (ev_filter_list (p := fun d => same2 d (.list b)) F.fd (by rfl) (ev_local (d := .list a) F.fd rfl) ?_ ?_ (by omega)) (ev_list F.fd.mok exl_nil (by decide)) (cp_nel (.list ty) ?_ ?_ ?_ (by simp only [Ty.depth]; omega))) ?_ ?_) fun v h3 k3 q => ⟨stays_trans F.base k3, ?_⟩)
  · intro d hd M' C h4 k4 G
    refine tests_one ?_
    have : HasTy (.list ty) d := hasTy_list.mp hl₁ d hd
    cases d with
    | list l =>
      refine tr_plain (M := M') (d := .bool (cmpD l b)) (ev_def2 (X₀.stays (stays_trans F.base k4)) (by with_unfolding_all rfl) (by with_unfolding_all rfl) (ev_local (d := .list l) G rfl) (ev_cell (d := .list b) G rfl) fun h5 v v₂ k5 q1 q2 => spec_cmp ty hty (X₀.stays (stays_trans (stays_trans F.base k4) k5)) (G.mok.stays k5) q1 q2 this hl₂ (hlen' _ hd _ rfl) hlen₂ (by omega)) rfl
    | _ => cases this
  · intro d hd M' C h4 hp k4 G
    exact ev_local (d := d) G rfl
  · exact hasTy_list.mpr fun x mx => hasTy_list.mp hl₁ x ((List.mem_filter.mp mx).1)
  · exact hasTy_list.mpr fun x mx => nomatch mx
  · omega
  · intro hb
    rw [eqbs_nil] at hb
    unfold keptD
    rw [if_neg (by simpa using hb)]
    exact ev_local (d := .list a) F.fd rfl
  · intro hb
    rw [eqbs_nil] at hb
    unfold keptD
    rw [if_pos (by simpa using hb)]
    refine ev_bin F.fd.mok (ev_local (d := .list a) F.fd rfl) (ev_list F.fd.mok (exl_cons (ev_cell (d := .list b) F.fd rfl) exl_nil) (by show 1 ≤ 2 ^ 24; decide)) (bin_addl (by unfold sizeLine; simp only [List.length_singleton]; omega))
  · exact q.kept .refl fun q m => .inl (List.mem_append_right _ m)
end Mine
end
section
open PySem PySem.W PySem.Calls PyProof.Rows
set_option maxRecDepth 100000
set_option maxHeartbeats 4000000
namespace Mine
variable [Bd]
section
variable {w : World} {A : Around} {E : Value → Shared → Prop} {R : Result → Shared → Prop} {s : Shared}

theorem compTurn_two0 (elt : Expr) (g1 : Expr) (i1 : Expr) (g2 : Comprehension) (scope : Scope) (pos : Pos) (it acc : Value) (env : Env) (h : g2.is_async = 0) :
    compTurn (.ListComp elt [⟨g1, i1, [], 0⟩, g2] scope pos) 0 it acc env = (do
      standAt i1.pos
      match ← pyNext it with
      | none => pure (.done .next)
      | some v =>
        letOwnedTupleGo g1 it v
        assign g1 env v
        let x ← eval g2.iter env
        standAt g2.iter.pos
        let x ← foldedSetIterable g2.iter env x
        let _ ← runOwn (.compStart (.ListComp elt [⟨g1, i1, [], 0⟩, g2] scope pos) 1 (← holding [x] (pyIter x)) acc env) env
        again (.compLoop (.ListComp elt [⟨g1, i1, [], 0⟩, g2] scope pos) 0 it acc env)) := by
  obtain ⟨t, i, f, z⟩ := g2
  cases h
  rfl
theorem compTurn_two1 (elt : Expr) (g1 : Comprehension) (target iter : Expr) (ifs : List Expr) (scope : Scope) (pos : Pos) (it acc : Value) (env : Env) :
    compTurn (.ListComp elt [g1, ⟨target, iter, ifs, 0⟩] scope pos) 1 it acc env = (do
      standAt iter.pos
      match ← pyNext it with
      | none => pure (.done .next)
      | some v =>
        letOwnedTupleGo target it v
        assign target env v
        let mut ok := true
        for c in ifs do
          if ok then ok ← isTrue c env (eval c env)
        if ok then
          (do let _ ← call (.builtin "list.append") [acc, ← eval elt env])
        again (.compLoop (.ListComp elt [g1, ⟨target, iter, ifs, 0⟩] scope pos) 1 it acc env)) := by rfl

theorem loop_two0 {elt g1 i1 : Expr} {g2 : Comprehension} {scope : Scope} {pos : Pos} {it acc : Value} {env : Env} (h2 : g2.is_async = 0) (I : Nat → Shared → Prop)
    (turn : ∀ n s, I n s → wpAny (model prog w) A (pyNext it) (fun r s₁ => match r with
      | none => R (.ok .next) s₁
      | some v => wpAny (model prog w) A (assign g1 env v) (fun _ s₂ => wpAny (model prog w) A (eval g2.iter env) (fun x s₃ => wpAny (model prog w) A (pyIter x) (fun it2 s₄ =>
          codeAny (model prog w) A (.compStart (.ListComp elt [⟨g1, i1, [], 0⟩, g2] scope pos) 1 it2 acc env) (fun r s' => match r with | .ok _ => ∃ m, m < n ∧ I m s' | .error e => False) s₄)
            (notedBy (model prog w) A env fun e s' => R (.error e) s') s₃) (notedBy (model prog w) A env fun e s' => R (.error e) s') s₂) (notedBy (model prog w) A env fun e s' => R (.error e) s') s₁) (notedBy (model prog w) A env fun e s' => R (.error e) s') s)
    (n : Nat) (h : I n s) (hs : ∀ x, foldedSetIterable g2.iter env x = pure x) (ht : ∀ v, letOwnedTupleGo g1 it v = pure () := by intro _; rfl) :
    codeAny (model prog w) A (.compLoop (.ListComp elt [⟨g1, i1, [], 0⟩, g2] scope pos) 0 it acc env) R s := by
  refine codeAny_loop rfl I (fun n s hI => ?_) n h
  show wpAny _ A ((compTurn (.ListComp elt [⟨g1, i1, [], 0⟩, g2] scope pos) 0 it acc env).onRaise (fun x => do noteFrame x env; theTreesLotGoes x)) _ _ s
  refine wpAny_noted ?_
  rw [compTurn_two0 _ _ _ _ _ _ _ _ _ h2]
  refine wpAny_bind (wpAny_standAt (wpAny_bind (wpAny_mono (turn n s hI) (fun r s₁ h₁ => ?_) fun _ _ h' => h')))
  cases r with
  | none => exact wpAny_pure h₁
  | some v =>
    refine wpAny_bind (wpAny_of_eq (ht v) ?_)
    refine wpAny_bind (wpAny_mono h₁ (fun _ s₂ h₂ => wpAny_bind (wpAny_mono h₂ (fun x s₃ h₃ => wpAny_bind (wpAny_standAt (wpAny_bind (wpAny_of_eq (hs x) (wpAny_bind (wpAny_holding (wpAny_mono h₃ (fun it2 s₄ h₄ => wpAny_bind (wpAny_runOwn (codeAny_mono h₄ (fun r s₅ h₅ => ?_)))) fun _ _ h' => h'))))))) fun _ _ h' => h')) fun _ _ h' => h')
    cases r with
    | ok f => exact wpAny_pure ⟨rfl, h₅⟩
    | error e => exact h₅.elim

theorem loop_two1 {elt target iter : Expr} {g1 : Comprehension} {ifs : List Expr} {scope : Scope} {pos : Pos} {it acc : Value} {env : Env} (I : Nat → Shared → Prop)
    (turn : ∀ n s, I n s → wpAny (model prog w) A (pyNext it) (fun r s₁ => match r with
      | none => R (.ok .next) s₁
      | some v => wpAny (model prog w) A (assign target env v) (fun _ s₂ =>
          wpAny (model prog w) A (testsT ifs env) (fun ok s₃ =>
            if ok = true then wpAny (model prog w) A (eval elt env) (fun x s₄ =>
              wpAny (model prog w) A (call (.builtin "list.append") [acc, x]) (fun _ s₅ => ∃ m, m < n ∧ I m s₅) (notedBy (model prog w) A env fun e s' => R (.error e) s') s₄) (notedBy (model prog w) A env fun e s' => R (.error e) s') s₃
            else ∃ m, m < n ∧ I m s₃) (notedBy (model prog w) A env fun e s' => R (.error e) s') s₂) (notedBy (model prog w) A env fun e s' => R (.error e) s') s₁) (notedBy (model prog w) A env fun e s' => R (.error e) s') s)
    (n : Nat) (h : I n s) (ht : ∀ v, letOwnedTupleGo target it v = pure () := by intro _; rfl) :
    codeAny (model prog w) A (.compLoop (.ListComp elt [g1, ⟨target, iter, ifs, 0⟩] scope pos) 1 it acc env) R s := by
  refine codeAny_loop rfl I (fun n s hI => ?_) n h
  show wpAny _ A ((compTurn (.ListComp elt [g1, ⟨target, iter, ifs, 0⟩] scope pos) 1 it acc env).onRaise (fun x => do noteFrame x env; theTreesLotGoes x)) _ _ s
  refine wpAny_noted ?_
  rw [compTurn_two1]
  refine wpAny_bind (wpAny_standAt (wpAny_bind (wpAny_mono (turn n s hI) (fun r s₁ h₁ => ?_) fun _ _ h' => h')))
  cases r with
  | none => exact wpAny_pure h₁
  | some v =>
    refine wpAny_bind (wpAny_of_eq (ht v) ?_)
    refine wpAny_bind (wpAny_mono h₁ (fun _ s₂ h₂ => wpAny_bind (wpAny_mono h₂ (fun ok s₃ h₃ => ?_) fun _ _ h' => h')) fun _ _ h' => h')
    cases ok with
    | false => exact wpAny_pure ⟨rfl, h₃⟩
    | true =>
      exact wpAny_bind (wpAny_bind (wpAny_mono h₃ (fun x s₄ h₄ => wpAny_bind (wpAny_mono h₄ (fun _ s₅ h₅ => wpAny_pure (wpAny_pure ⟨rfl, h₅⟩)) fun _ _ h' => h')) fun _ _ h' => h'))

theorem start_two1 {elt target iter : Expr} {g1 : Comprehension} {ifs : List Expr} {scope : Scope} {pos : Pos} {it acc : Value} {env : Env}
    (h0 : codeAny (model prog w) A (.compLoop (.ListComp elt [g1, ⟨target, iter, ifs, 0⟩] scope pos) 1 it acc env) R s)
    (h : wpAny (model prog w) A (pyIter it) (fun it' s' => codeAny (model prog w) A (.compLoop (.ListComp elt [g1, ⟨target, iter, ifs, 0⟩] scope pos) 1 it' acc env) R s')
      (notedBy (model prog w) A env fun x s' => R (.error x) s') s) :
    codeAny (model prog w) A (.compStart (.ListComp elt [g1, ⟨target, iter, ifs, 0⟩] scope pos) 1 it acc env) R s := by
  refine codeAny_of_tree ?_
  show wpAny _ _ ((compStart (.ListComp elt [g1, ⟨target, iter, ifs, 0⟩] scope pos) 1 it acc env).onRaise (fun x => do noteFrame x env; standAt theWindowsPlace)) _ _ s
  refine wpAny_notedAt ?_
  unfold compStart
  show wpAny _ _ (ask >>= _) _ _ s
  refine wpAny_bind (wpAny_askSetting (wpAny_ite ?_))
  split
  · first
      | exact wpAny_bind (wpAny_pure (wpAny_pure (And.intro rfl h0)))
      | exact wpAny_pure (And.intro rfl h0)
  · first
      | exact wpAny_bind (wpAny_rule (wpAny_bind (wpAny_standAt (wpAny_bind (wpAny_mono h (fun it' s' h' => wpAny_pure (And.intro rfl h')) fun _ _ x => x)))))
      | (refine wpAny_bind (wpAny_rule ?_); show wpAny _ _ (standAt iter.pos >>= _) _ _ s; exact wpAny_bind (wpAny_standAt (wpAny_bind (wpAny_mono h (fun it' s' h' => wpAny_pure (And.intro rfl h')) fun _ _ x => x))))
end
end Mine
end
section
open PySem PySem.W PySem.Calls PyProof.Rows
set_option maxRecDepth 100000
set_option maxHeartbeats 4000000
namespace Mine
variable [Bd]

theorem FD.also {env : Env} {M : List Addr} {h : Heap} {ρ : List (Str × D)} {y : Str} {d : D} {u : Value} {m : Str → Option Value} (F : FD env M h ρ) (hk : env.kindOf y = some .local) (hC : h.Ns env.locals m) (hy : m y = some u) (hd : Den M h d u) : FD env M h ((y, d) :: ρ) :=
  ⟨F.mok, F.kind, fun z e hz => by
    rw [List.lookup_cons] at hz
    by_cases hzx : (z == y) = true
    · have := beq_iff_eq.mp hzx; subst this
      rw [hzx] at hz; cases hz
      exact ⟨u, by simp only [VarAt, hk]; exact ⟨m, hC, hy⟩, hd⟩
    · simp only [Bool.not_eq_true] at hzx
      rw [hzx] at hz
      exact F.var z e hz⟩

theorem comp_inner {w : World} {n : Nat} {A : Around} {s : Shared} {E : Value → Shared → Prop} {R : Result → Shared → Prop} {M' : List Addr} {xv : Value} {N : Nat} {it : Nat → D} {C Da : Addr} {ys : List Value} {outs : List D} {m : Str → Option Value}
    {cenv : Env} {ρ : List (Str × D)} {y : Str} {py pos : Pos} {elt iter : Expr} {ifs : List Expr} {g1 : Comprehension} {scope : Scope} {p : Nat → Bool} {f : Nat → D}
    (a : AOk n A s.heap) (hit : Itr w n M' s.heap xv N it) (hDa : s.heap.PlainList Da ys.toArray) (hC : s.heap.Ns C m) (hCM : C ∈ M') (hDM : Da ∈ M') (hmok : MOk M' s.heap) (hd : Dens M' s.heap outs ys) (hlen : outs.length + N ≤ 2 ^ 20)
    (hloc : cenv.locals = C) (hky : cenv.kindOf y = some .local) (hkind : cenv.scope.kind = .function)
    (hfd : ∀ M'' h' m', Kept [C, Da] s.heap h' → (∀ q ∈ M'', q ∈ M' ∨ s.heap.get? q = none) → MOk M'' h' → h'.Ns C m' → (∀ z, z ≠ y → m' z = m z) → FD cenv M'' h' ρ)
    (htests : ∀ i M'' h', i < N → Kept [C, Da] s.heap h' → FD cenv M'' h' ((y, it i) :: ρ) → Ex w n h' (testsT ifs cenv) (fun ok _ => ok = p i))
    (helt : ∀ i M'' h', i < N → p i = true → Kept [C, Da] s.heap h' → FD cenv M'' h' ((y, it i) :: ρ) → Ev w n cenv M'' h' elt (f i))
    (hR : ∀ H tk m' ys', Kept [C, Da] s.heap H → AOk n A H → H.PlainList Da ys'.toArray → H.Ns C m' → (∀ z, z ≠ y → m' z = m z) → Dens M' H (outs ++ ((List.range N).filter p).map f) ys' → R (.ok .next) { s with heap := H, toks := tk }) :
    wpAny (model prog w) A (pyIter xv) (fun iv s' => codeAny (model prog w) A (.compStart (.ListComp elt [g1, ⟨.Name y py, iter, ifs, 0⟩] scope pos) 1 iv (.ref Da) cenv) R s') E s := by
  refine hit A s _ _ a (stays_refl _) fun I fp wr P St h₂ t₂ W hst hfp hlive hwr hfM hnf k₂ hP => ?_
  have hDC : Da ≠ C := fun q => by
    obtain ⟨nn, e1⟩ := hDa
    obtain ⟨o, _, _, e2, e3, _⟩ := hC
    rw [q, e2] at e1; cases e1; cases e3
  have hCw : C ∉ wr := fun q => by obtain ⟨o, e⟩ := hmok C hCM; rw [hwr C q] at e; cases e
  have hDw : Da ∉ wr := fun q => by obtain ⟨o, e⟩ := hmok Da hDM; rw [hwr Da q] at e; cases e
  have hCf : C ∉ fp := fun q => hfM C q hCw hCM
  have hDf : Da ∉ fp := fun q => hfM Da q hDw hDM
  let M'' : List Addr := wr ++ M'
  have hM2 : ∀ q ∈ M'', q ∈ M' ∨ s.heap.get? q = none := fun q hq => (List.mem_append.mp hq).elim (fun e => .inr (hwr q e)) .inl
  have loop : ∀ s₃ : Shared, s₃ = { s with heap := h₂, toks := t₂ } → codeAny (model prog w) A (.compLoop (.ListComp elt [g1, ⟨.Name y py, iter, ifs, 0⟩] scope pos) 1 (.ref I) (.ref Da) cenv) R s₃ := by
    rintro s₃ rfl
    refine loop_two1 (fun k s' => ∃ (i : Nat) (H : Heap) (tk : Nat) (m' : Str → Option Value) (zs : List Value), s' = { s with heap := H, toks := tk } ∧ AOk n A H ∧ St i H ∧ H.PlainList Da zs.toArray ∧ H.Ns C m' ∧ (∀ z, z ≠ y → m' z = m z) ∧
      Dens M'' H (outs ++ ((List.range i).filter p).map f) zs ∧ i ≤ N ∧ k = N + 1 - i ∧ MOk M'' H ∧ (∀ b o, b ∉ C :: Da :: wr → s.heap.get? b = some o → Same H b o)) ?_ (N + 1)
      ⟨0, h₂, t₂, m, ys, rfl, a.up k₂, hst, plain_same hDa (k₂ _), ns_same hC (k₂ _), fun _ _ => rfl, by simpa using (hd.kept (M' := M'') (.of k₂) hM2), Nat.zero_le _, rfl, fun q hq => (List.mem_append.mp hq).elim (hlive _ _ hst q) (hmok.stays k₂ q), fun b o _ e => k₂ b o e⟩
    rintro kk s' ⟨i, H, tk, m', zs, rfl, aH, hstH, haccH, hnsH, hmH, hdens, hi, rfl, hmokH, kH⟩
    have kK : ∀ {H : Heap}, (∀ b o, b ∉ C :: Da :: wr → s.heap.get? b = some o → Same H b o) → Kept [C, Da] s.heap H := fun kH b o nb e => kH b o (fun q => by
      rcases List.mem_cons.mp q with rfl | q
      · exact nb (.head _)
      · rcases List.mem_cons.mp q with rfl | q
        · exact nb (.tail _ (.head _))
        · rw [hwr b q] at e; cases e) e
    by_cases hlt : i < N
    · refine W.item i _ _ _ hlt hstH fun v H₁ tk₁ hPv hst₁ hk₁ => ?_
      refine wpAny_assign_Name (wpAny_storeName_local hky (hloc ▸ hnsH.at' fun o e => hk₁ _ o hCw e) (fun H₂ hn₂ hs₂ => ?_) (by show (cenv.scope.kind == .class || (cenv.scope.kind == .module && _)) = false; rw [hkind]; rfl))
      rw [hloc] at hn₂ hs₂
      have hst₂ : St (i + 1) H₂ := W.frame _ _ _ hst₁ fun b hb' o e => hs₂.extBut b o (fun q => hCf (q ▸ hb')) e
      have up : ∀ b o, b ∉ C :: wr → H.get? b = some o → H₂.get? b = some o := fun b o hbn e => hs₂.extBut b o (fun q => hbn (q ▸ .head _)) (hk₁ b o (fun q => hbn (.tail _ q)) e)
      have kH₂ : ∀ b o, b ∉ C :: Da :: wr → s.heap.get? b = some o → Same H₂ b o := fun b o hbn e => (kH b o hbn e).trans fun o e => .of (up b o (fun q => hbn (by
        rcases List.mem_cons.mp q with rfl | q
        · exact .head _
        · exact .tail _ (.tail _ q))) e)
      have hDCw : Da ∉ C :: wr := fun q => by
        rcases List.mem_cons.mp q with q | q
        · exact hDC q
        · exact hDw q
      have haccH₂ : H₂.PlainList Da zs.toArray := haccH.at fun o e => up _ _ hDCw e
      have hCM2 : ∀ q ∈ C :: wr, q ∈ M'' := fun q hq => by
        rcases List.mem_cons.mp hq with rfl | hq
        · exact List.mem_append_right _ hCM
        · exact List.mem_append_left _ hq
      have hKM2 : Kept M'' H H₂ := fun b o hbn e => .of (up b o (fun q => hbn (hCM2 b q)) e)
      have hdens₂ : Dens M'' H₂ (outs ++ ((List.range i).filter p).map f) zs := hdens.keep hKM2
      have hmok₂ : MOk M'' H₂ := fun q hq => by
        by_cases hqC : q = C
        · subst hqC; obtain ⟨o, _, _, ho, _⟩ := hn₂; exact ⟨o, ho⟩
        by_cases hqw : q ∈ wr
        · exact hlive _ _ hst₂ q hqw
        · obtain ⟨o, ho⟩ := hmokH q hq
          exact ⟨o, up q o (fun e => by
            rcases List.mem_cons.mp e with e | e
            · exact hqC e
            · exact hqw e) ho⟩
      have hm₂ : ∀ z, z ≠ y → (fun x => if x = y then some v else m' x) z = m z := fun z hz => by simp [hz, hmH z hz]
      have a₂ : AOk n A H₂ := (a.beside hwr aH hk₁).change hs₂ fun o _ _ => ns_nd hn₂
      have G0 := hfd M'' H₂ _ (kK kH₂) hM2 hmok₂ hn₂ (by intro z hz; simp [hz, hmH z hz])
      have hvd : Den M'' H₂ (it i) v := (hP i v hlt hPv).kept (M := M') (M' := M'') (fun b o hbn e => kH₂ b o (fun q => by
        rcases List.mem_cons.mp q with rfl | q
        · exact hbn hCM
        · rcases List.mem_cons.mp q with rfl | q
          · exact hbn hDM
          · rw [hwr b q] at e; cases e) e) hM2
      have G := G0.also hky (hloc.symm ▸ hn₂) (by simp) hvd
      refine (htests i M'' H₂ hlt (kK kH₂) G).run a₂ (stays_refl _) fun okb H₃ tk₃ k₃ a hokb => ?_
      subst hokb
      have hst₃ : St (i + 1) H₃ := W.frame _ _ _ hst₂ fun b hb o e => (k₃ b o e).get (.inl (hnf _ _ hst₂ b hb o e))
      have kH₃ : ∀ b o, b ∉ C :: Da :: wr → s.heap.get? b = some o → Same H₃ b o := fun b o hbn e => (kH₂ b o hbn e).trans fun o e => k₃ _ _ e
      have hout := outs_succ (p := p) (f := f) i
      cases hpi : p i with
      | false =>
        simp only [Bool.false_eq_true, if_false]
        rw [hpi] at hout
        exact ⟨N + 1 - (i + 1), by omega, i + 1, H₃, tk₃, _, zs, rfl, a, hst₃, plain_same haccH₂ (k₃ _), ns_same hn₂ (k₃ _), by intro z hz; simp [hz, hmH z hz], by rw [hout]; simpa using hdens₂.stays k₃, hlt, rfl, hmok₂.stays k₃, kH₃⟩
      | true =>
        simp only [if_true]
        rw [hpi] at hout
        refine (helt i M'' H₃ hlt hpi ((kK kH₃)) (G.stays k₃)).run a (stays_refl _) fun u H₄ tk₄ k₄ a hu => ?_
        have hys : zs.length ≤ outs.length + i := by
          have e1 := hdens.length
          have e2 := List.length_filter_le p (List.range i)
          simp at e1 e2; omega
        refine wpAny_list_append_plain (hsz := by show zs.toArray.size ≤ 2 ^ 24; simp; omega) (plain_same (plain_same haccH₂ (k₃ _)) (k₄ _)) fun H₅ hl₅ hs₅ => ?_
        have k5 : Kept M'' H₄ H₅ := .same hs₅ (List.mem_append_right _ hDM)
        have hmok₄ : MOk M'' H₄ := (hmok₂.stays k₃).stays k₄
        refine ⟨N + 1 - (i + 1), by omega, i + 1, H₅, tk₄, _, zs ++ [u], rfl, ?_, ?_, by simpa using hl₅, (ns_same (ns_same hn₂ (k₃ _)) (k₄ _)).sameBut hs₅ (Ne.symm hDC), by intro z hz; simp [hz, hmH z hz], ?_, hlt, rfl, ?_, fun b o hbn e => ?_⟩
        · obtain ⟨nn, ho⟩ := plain_same (plain_same haccH₂ (k₃ _)) (k₄ _)
          exact a.change hs₅ fun o e1 e2 => by rw [ho] at e1; cases e1; cases e2
        · exact W.frame _ _ _ hst₃ fun b hb' o e => hs₅.extBut b o (fun q => hDf (q ▸ hb')) ((k₄ _ _ e).get (.inl (hnf _ _ hst₃ b hb' o e)))
        · rw [hout, ← List.append_assoc]
          exact (((hdens₂.stays k₃).stays k₄).keep k5).append (.cons (hu.keep k5) .nil)
        · intro q hq
          by_cases hqD : q = Da
          · subst hqD; obtain ⟨nn, ho⟩ := hl₅; exact ⟨_, ho⟩
          · obtain ⟨o, ho⟩ := hmok₄ q hq; exact ⟨o, hs₅.extBut q o hqD ho⟩
        · exact (kH₃ b o hbn e).trans fun o e => (k₄ _ _ e).trans fun o e => .of (hs₅.extBut b o (fun q => hbn (q ▸ .tail _ (.head _))) e)
    · have hin : i = N := by omega
      subst hin
      refine W.done _ _ _ hstH fun H₁ tk₁ hk₁ => ?_
      refine hR H₁ tk₁ m' zs ?_ (a.beside hwr aH hk₁) (haccH.at fun o e => hk₁ _ _ hDw e) (hnsH.at' fun o e => hk₁ _ o hCw e) hmH ?_
      · exact kK fun b o hbn e => (kH b o hbn e).trans fun o e => .of (hk₁ b o (fun q => hbn (.tail _ (.tail _ q))) e)
      · exact Dens.kept (M := M'') (M' := M') (fun b o hbn e => .of (hk₁ b o (fun q => hbn (List.mem_append_left _ q)) e)) (fun q hq => .inl (List.mem_append_right _ hq)) hdens
  exact start_two1 (loop _ rfl) (W.self 0 _ _ _ hst (loop _ rfl))
end Mine
end
section
open PySem PySem.W PySem.Calls PyProof.Rows
set_option maxRecDepth 100000
set_option maxHeartbeats 4000000
namespace Mine
variable [Bd]

noncomputable def outs2 (N2 : Nat → Nat) (p : Nat → Nat → Bool) (f : Nat → Nat → D) (i : Nat) : List D := (List.range i).flatMap fun i => ((List.range (N2 i)).filter (p i)).map (f i)
theorem outs2_succ {N2 p f} (i : Nat) : outs2 N2 p f (i + 1) = outs2 N2 p f i ++ ((List.range (N2 i)).filter (p i)).map (f i) := by
  unfold outs2; rw [List.range_succ, List.flatMap_append]; simp
theorem outs2_len {N2 p f} {K : Nat} : ∀ (i : Nat), (∀ j, j < i → N2 j ≤ K) → (outs2 N2 p f i).length ≤ i * K
  | 0, _ => by simp [outs2]
  | i + 1, h => by
    have := outs2_len (N2 := N2) (p := p) (f := f) (K := K) i fun j hj => h j (by omega)
    have h2 := List.length_filter_le (p i) (List.range (N2 i))
    have h3 := h i (by omega)
    rw [outs2_succ, Nat.succ_mul]
    simp only [List.length_append, List.length_map, List.length_range] at *
    omega

theorem ev_comp2 {w : World} {n : Nat} {env : Env} {M : List Addr} {h : Heap} {ρ : List (Str × D)} {elt iter iter2 : Expr} {x y : Str} {px py pos : Pos} {ifs : List Expr} {scope : Scope} {N K : Nat} {it : Nat → D} {N2 : Nat → Nat} {it2 : Nat → Nat → D} {p : Nat → Nat → Bool} {f : Nat → Nat → D}
    (F : FD env M h ρ) (ok : compOk scope env x ρ = true) (oky : (scope.names.lookup y == some .local && x != y) = true)
    (hiter : Ex w n h (eval iter env) (fun v h' => Itr w n M h' v N it))
    (hiter2 : ∀ i M' C h', i < N → Stay h h' → FD (cEnv scope env C) M' h' ((x, it i) :: ρ) → Ex w n h' (eval iter2 (cEnv scope env C)) (fun v h' => Itr w n M' h' v (N2 i) (it2 i)))
    (htests : ∀ i j M' C h', i < N → j < N2 i → Stay h h' → FD (cEnv scope env C) M' h' ((y, it2 i j) :: (x, it i) :: ρ) → Ex w n h' (testsT ifs (cEnv scope env C)) (fun ok _ => ok = p i j))
    (helt : ∀ i j M' C h', i < N → j < N2 i → p i j = true → Stay h h' → FD (cEnv scope env C) M' h' ((y, it2 i j) :: (x, it i) :: ρ) → Ev w n (cEnv scope env C) M' h' elt (f i j))
    (hK : ∀ i, i < N → N2 i ≤ K) (hN : (N + 1) * K ≤ 2 ^ 20) (hs : ∀ x, foldedSetIterable iter env x = pure x := by intro _; rfl) (hs2 : ∀ C x, foldedSetIterable iter2 (cEnv scope env C) x = pure x := by intro _ _; rfl) :
    Ev w n env M h (.ListComp elt [⟨.Name x px, iter, [], 0⟩, ⟨.Name y py, iter2, ifs, 0⟩] scope pos) (.list (outs2 N2 p f N)) := fun A s a k => by
  have ok' := ok
  simp only [compOk, Bool.and_eq_true, beq_iff_eq] at ok'
  obtain ⟨⟨⟨⟨⟨ok1, ok2⟩, ok3⟩, ok4⟩, ok5⟩, ok6⟩ := ok'
  have hnames : ∀ y ∈ scope.names, y.2 = .local → scope.names.lookup y.1 = some .local := fun y hy hl => by
    have := List.all_eq_true.mp ok3 y hy
    simpa [hl] using this
  have hcell : ∀ y ∈ scope.names, y.2 ≠ .cell := fun y hy hl => by
    have := List.all_eq_true.mp ok2 y hy
    simp [hl] at this
  rw [eval_ListComp]
  refine wpAny_comprehension_free (use := none) rfl hs (closureFor_clOf ok1) ok4 hnames (hiter.run a k fun xv hb tb kb a hit => ?_)
  have khb : Stay h hb := stays_trans k kb
  refine hit A _ _ _ a (stays_refl _) fun I fp wr P St h₂ t₂ W hst hfp hlive hwr _ hnf k₂ hP => ?_
  refine wpAny_newObj_type (wpAny_newFunctionEnv hcell (by intro y hy; simp at hy) (fun h₁ hns₁ hsb₁ => ?_) ok4)
  dsimp only at hwr k₂ hP hns₁ hsb₁ ⊢
  generalize hH2 : h₂.push { cls := .type "list", dict := none, data := .seq ([] : List Value).toArray } = H2 at hns₁ hsb₁ ⊢
  have hC : H2.objs.size = h₂.objs.size + 1 := by rw [← hH2, Heap.size_push]
  have hCn : h₂.get? H2.objs.size = none := none_of_le (by rw [hC]; exact Nat.le_succ _)
  have hDn : h₂.get? h₂.objs.size = none := none_of_le (Nat.le_refl _)
  have hDC : h₂.objs.size ≠ H2.objs.size := by rw [hC]; exact Nat.ne_of_lt (Nat.lt_succ_self _)
  have hDg : H2.get? h₂.objs.size = some { cls := .type "list", dict := none, data := .seq ([] : List Value).toArray } := hH2 ▸ Heap.get?_push_size _ rfl
  have k2 : ∀ b o, h₂.get? b = some o → H2.get? b = some o := fun b o e => hH2 ▸ Heap.get?_push_of_some _ e
  have hDf : h₂.objs.size ∉ fp := fun hm => Nat.lt_irrefl _ (hfp _ hm)
  have hCf : H2.objs.size ∉ fp := fun hm => by have := hfp _ hm; rw [hC] at this; exact absurd this (Nat.not_lt.mpr (Nat.le_succ _))
  generalize H2.objs.size = C at *
  generalize h₂.objs.size = Da at *
  have hbD : hb.get? Da = none := none_of_stays k₂ hDn
  have hbC : hb.get? C = none := none_of_stays k₂ hCn
  have old : ∀ b o, h₂.get? b = some o → h₁.get? b = some o := fun b o e => hsb₁.extBut b o (ne_of_get e hCn) (Heap.get?_push_of_some _ (k2 _ _ e))
  have hacc₁ : h₁.PlainList Da (([] : List Value).toArray) := ⟨_, hsb₁.extBut _ _ hDC (Heap.get?_push_of_some _ hDg)⟩
  have hst₁ : St 0 h₁ := W.frame _ _ _ hst fun b _ o e => old b o e
  have hDw : Da ∉ wr := fun hm => hDf (W.sub _ hm)
  have hCw : C ∉ wr := fun hm => hCf (W.sub _ hm)
  have FD0 := F.stays khb
  let M' : List Addr := (C :: Da :: wr) ++ M
  have hMnew : ∀ q ∈ M', q ∈ M ∨ hb.get? q = none := fun q hq => by
    rcases List.mem_append.mp hq with hq | hq
    · rcases List.mem_cons.mp hq with rfl | hq
      · exact .inr hbC
      · rcases List.mem_cons.mp hq with rfl | hq
        · exact .inr hbD
        · exact .inr (hwr _ hq)
    · exact .inl hq
  -- what every state of the loop bears
  have kM' : ∀ {H : Heap}, (∀ b o, b ∉ C :: Da :: wr → hb.get? b = some o → Same H b o) → Stay hb H := fun kH b o e => kH b o (fun q => by
    rcases hMnew b (List.mem_append_left _ q) with q' | q'
    · rcases List.mem_cons.mp q with rfl | q
      · rw [hbC] at e; cases e
      · rcases List.mem_cons.mp q with rfl | q
        · rw [hbD] at e; cases e
        · rw [hwr _ q] at e; cases e
    · rw [q'] at e; cases e) e
  have fdOf : ∀ i H m v, i < N → (∀ b o, b ∉ C :: Da :: wr → hb.get? b = some o → Same H b o) → St (i + 1) H → (∃ ys, H.PlainList Da ys) → H.Ns C m → m x = some v → P i v →
      FD (cEnv scope env C) M' H ((x, it i) :: ρ) := fun i H m v hi kH hstH hacc hns hmx hPv => by
    have kS := kM' kH
    refine fd_comp ok FD0 (fun q hq => ?_) hns hmx ((hP i v hi hPv).kept (.of kS) hMnew) (fun d v hd => hd.kept (.of kS) hMnew) (fun c v hv => cell_same hv (kS _))
    rcases List.mem_append.mp hq with hq | hq
    · rcases List.mem_cons.mp hq with rfl | hq
      · obtain ⟨o, _, _, ho, _⟩ := hns; exact ⟨o, ho⟩
      · rcases List.mem_cons.mp hq with rfl | hq
        · obtain ⟨ys, n, ho⟩ := hacc; exact ⟨_, ho⟩
        · exact hlive _ _ hstH _ hq
    · exact kS.some (FD0.mok q hq)
  -- the loop
  have loop : ∀ s₃ : Shared, s₃ = { s with heap := h₁, toks := t₂ + ([] : List (Str × Value)).length } →
      codeAny (model prog w) A (.compLoop (.ListComp elt [⟨.Name x px, iter, [], 0⟩, ⟨.Name y py, iter2, ifs, 0⟩] scope pos) 0 (.ref I) (.ref Da) (cEnv scope env C))
        (compPost (model prog w) A NoE none (fun v s' => Then s (fun h' => Den M h' (.list (outs2 N2 p f N)) v) s') (.ref Da) C) s₃ := by
    rintro s₃ rfl
    refine loop_two0 rfl
      (fun k s' => ∃ (i : Nat) (H : Heap) (tk : Nat) (m : Str → Option Value) (ys : List Value), s' = { s with heap := H, toks := tk } ∧ St i H ∧ H.PlainList Da ys.toArray ∧ H.Ns C m ∧ Dens M' H (outs2 N2 p f i) ys ∧ i ≤ N ∧ k = N + 1 - i ∧
        (∀ b o, b ∉ C :: Da :: wr → hb.get? b = some o → Same H b o)) ?_ (N + 1) ⟨0, h₁, _, _, [], rfl, hst₁, hacc₁, hns₁, by simp [Dens, outs2], Nat.zero_le _, rfl, fun b o _ e => (k₂ _ _ e).trans fun o e => .of (old _ _ e)⟩ (hs2 C)
    rintro kk s' ⟨i, H, tk, m, ys, rfl, hstH, haccH, hnsH, hdens, hi, rfl, kH⟩
    by_cases hlt : i < N
    · refine W.item i _ _ _ hlt hstH fun v H₁ tk₁ hPv hst₁ hk₁ => ?_
      have hxk : (cEnv scope env C).kindOf x = some .local := by show (relabel scope env).names.lookup x = _; rw [kind_relabel, ok5]
      refine wpAny_assign_Name (wpAny_storeName_local hxk (hnsH.at' fun o e => hk₁ _ o hCw e) (fun H₂ hn₂ hs₂ => ?_) (by show (scope.kind == .class || (scope.kind == .module && _)) = false; rw [ok4]; rfl))
      have hst₂ : St (i + 1) H₂ := W.frame _ _ _ hst₁ fun b hb' o e => hs₂.extBut b o (fun q => hCf ((show b = C from q) ▸ hb')) e
      have up : ∀ b o, b ∉ C :: Da :: wr → H.get? b = some o → H₂.get? b = some o := fun b o hbn e => hs₂.extBut b o (fun q => hbn ((show b = C from q) ▸ .head _)) (hk₁ b o (fun q => hbn (.tail _ (.tail _ q))) e)
      have kH₂ : ∀ b o, b ∉ C :: Da :: wr → hb.get? b = some o → Same H₂ b o := fun b o hbn e => (kH b o hbn e).trans fun o e => .of (up b o hbn e)
      have haccH₂ : H₂.PlainList Da ys.toArray := haccH.at fun o e => hs₂.extBut _ _ hDC (hk₁ _ _ hDw e)
      have hdens₂ : Dens M' H₂ (outs2 N2 p f i) ys := hdens.keep fun b o hbn e => .of (up b o (fun q => hbn (List.mem_append_left _ q)) e)
      have G := fdOf i H₂ _ v hlt kH₂ hst₂ ⟨_, haccH₂⟩ hn₂ (by simp) hPv
      have kh₂ : Stay h H₂ := stays_trans khb (kM' kH₂)
      have khs : Stay hb H₂ := kM' kH₂
      refine (hiter2 i M' C H₂ hlt kh₂ G).run (a.up khs) (stays_refl _) fun xv2 H₃ tk₃ k₃ a₃ hit2 => ?_
      have hst₃ : St (i + 1) H₃ := W.frame _ _ _ hst₂ fun b hb o e => (k₃ b o e).get (.inl (hnf _ _ hst₂ b hb o e))
      have kH₃ : ∀ b o, b ∉ C :: Da :: wr → hb.get? b = some o → Same H₃ b o := fun b o hbn e => (kH₂ b o hbn e).trans fun o e => k₃ _ _ e
      have kS₃ : Stay hb H₃ := kM' kH₃
      have hvd : Den M hb (it i) v := hP i v hlt hPv
      have hlen2 : (outs2 N2 p f i).length + N2 i ≤ 2 ^ 20 := by
        have e1 := outs2_len (N2 := N2) (p := p) (f := f) (K := K) i fun j hj => hK j (by omega)
        have e2 := hK i hlt
        have e3 : (i + 1) * K ≤ (N + 1) * K := Nat.mul_le_mul_right K (by omega)
        rw [Nat.succ_mul] at e3
        omega
      have hxy : x ≠ y := by simp only [Bool.and_eq_true, beq_iff_eq, bne_iff_ne] at oky; exact oky.2
      have hyk : (cEnv scope env C).kindOf y = some .local := by simp only [Bool.and_eq_true, beq_iff_eq, bne_iff_ne] at oky; show (relabel scope env).names.lookup y = _; rw [kind_relabel, oky.1]
      have keepK : ∀ {h'}, Kept [C, Da] H₃ h' → Stay hb h' := fun kk b o e => (kS₃ b o e).trans fun o' e' => kk b o' (fun q => by
        rcases List.mem_cons.mp q with rfl | q
        · rw [hbC] at e; cases e
        · rw [List.mem_singleton.mp q, hbD] at e; cases e) e'
      refine comp_inner (m := fun z => if z = x then some v else m z) (outs := outs2 N2 p f i) (ρ := (x, it i) :: ρ) (p := p i) (f := f i) a₃ hit2 (plain_same haccH₂ (k₃ _)) (ns_same hn₂ (k₃ _)) (.head _) (.tail _ (.head _)) (G.mok.stays k₃) (hdens₂.stays k₃) hlen2 rfl hyk ok4 ?_ ?_ ?_ ?_
      · intro M'' h' m' kk hsub hmok hns hm
        refine fd_comp (v := v) (d := it i) ok FD0 hmok hns ((hm x hxy).trans (if_pos rfl)) ?_ ?_ ?_
        · exact hvd.kept (.of (keepK kk)) fun q hq => (hsub q hq).elim (hMnew q) fun e => .inr (none_of_stays kS₃ e)
        · exact fun d v hd => hd.kept (.of (keepK kk)) fun q hq => (hsub q hq).elim (hMnew q) fun e => .inr (none_of_stays kS₃ e)
        · exact fun c v hv => cell_same hv (keepK kk _)
      · exact fun j M'' h' hj kk G => htests i j M'' C h' hlt hj (stays_trans khb (keepK kk)) G
      · exact fun j M'' h' hj hp kk G => helt i j M'' C h' hlt hj hp (stays_trans khb (keepK kk)) G
      · intro H₄ tk₄ m' ys' kk a₄ hacc₄ hns₄ hm hdens₄
        refine ⟨N + 1 - (i + 1), by omega, i + 1, H₄, tk₄, _, ys', rfl, ?_, hacc₄, hns₄, by rw [outs2_succ]; exact hdens₄, hlt, rfl, fun b o hbn e => (kH₃ b o hbn e).trans fun o e => kk b o (fun q => hbn ?_) e⟩
        · exact W.frame _ _ _ hst₃ fun b hb' o e => (kk b o (fun q => by
            rcases List.mem_cons.mp q with rfl | q
            · exact hCf hb'
            · rw [List.mem_singleton.mp q] at hb'; exact hDf hb') e).get (.inl (hnf _ _ hst₃ b hb' o e))
        · rcases List.mem_cons.mp q with rfl | q
          · exact .head _
          · rw [List.mem_singleton.mp q]; exact .tail _ (.head _)
    · have hin : i = N := by omega
      subst hin
      refine W.done _ _ _ hstH fun H₁ tk₁ hk₁ => ?_
      refine ⟨m, hnsH.at' fun o e => hk₁ _ o hCw e, fun H' hs' => ?_⟩
      have up : ∀ b o, b ∉ C :: Da :: wr → H.get? b = some o → H'.get? b = some o := fun b o hbn e => hs'.extBut b o (fun q => hbn (q ▸ .head _)) (hk₁ b o (fun q => hbn (.tail _ (.tail _ q))) e)
      have kH' : ∀ b o, b ∉ C :: Da :: wr → hb.get? b = some o → Same H' b o := fun b o hbn e => (kH b o hbn e).trans fun o e => .of (up b o hbn e)
      have hl : H'.PlainList Da ys.toArray := haccH.at fun o e => hs'.extBut _ _ hDC (hk₁ _ _ hDw e)
      refine Then.mk (stays_trans kb (kM' kH')) (.of_list (fun q => ?_) hl.isList ?_)
      · obtain ⟨o, ho⟩ := FD0.mok _ q; rw [hbD] at ho; cases ho
      · exact Dens.kept (M := M') (M' := M) (fun b o hbn e => .of (up b o (fun q => hbn (List.mem_append_left _ q)) e)) (fun q hq => .inl (List.mem_append_right _ hq)) hdens
  exact codeAny_compStart_list (loop _ rfl) (W.self 0 _ _ _ hst₁ (loop _ rfl))
end Mine
end
section
open PySem PySem.W PySem.Calls PyProof.Rows
set_option maxRecDepth 100000
set_option maxHeartbeats 4000000
namespace Mine
variable [Bd]

theorem pickD_take {l : List D} {k : Nat} : pickD l none (some (k : Int)) none = l.take k := by
  unfold pickD
  rw [sliceBounds_plain]
  show (sliceRange ((0 : Nat) : Int) ((clipAt l.length k : Nat) : Int) 1).filterMap (l[·]?) = _
  rw [sliceRange_one, clipAt_nat]
  have := pick_run l.toArray 0 (min k l.length - 0)
  simp only [List.getElem?_toArray, List.drop_zero] at this
  rw [this]
  rcases Nat.le_total k l.length with h | h
  · rw [Nat.min_eq_left h]; rfl
  · rw [Nat.min_eq_right h, List.take_of_length_le (by simp), List.take_of_length_le h]
theorem pickD_rev {l : List D} : pickD l none none (some (-1)) = l.reverse := by
  unfold pickD
  have e : sliceRange (sliceBounds none none (some (-1)) l.length).1 (sliceBounds none none (some (-1)) l.length).2.1 (sliceBounds none none (some (-1)) l.length).2.2 = (List.range l.length).map (fun k => l.length - 1 - k) := by
    show sliceRange ((l.length : Int) - 1) (-1) (-1) = _
    unfold sliceRange
    have hc : (if (-1 : Int) > 0 then (if ((l.length : Int) - 1) < -1 then (-1 - ((l.length : Int) - 1) + -1 - 1) / -1 else 0) else (if ((l.length : Int) - 1) > -1 then (((l.length : Int) - 1) - -1 - -1 - 1) / (- -1) else 0)) = (l.length : Int) := by
      rw [if_neg (by decide)]
      by_cases h : l.length = 0
      · rw [h]; rfl
      · rw [if_pos (by omega)]
        show (((l.length : Int) - 1) - -1 - -1 - 1) / 1 = _
        rw [Int.ediv_one]; omega
    simp only [hc, Int.toNat_natCast]
    refine List.map_congr_left fun k hk => ?_
    have := List.mem_range.mp hk
    omega
  rw [e, List.filterMap_map]
  refine List.ext_getElem? fun i => ?_
  have hf : ∀ (k : Nat), (List.range k).filterMap (fun x => l[l.length - 1 - x]?) = (l.reverse).take k ∨ l.length < k := by
    intro k
    induction k with
    | zero => left; rfl
    | succ k ih =>
      by_cases hk : l.length < k + 1
      · exact .inr hk
      · left
        rcases ih with ih | ih
        · rw [List.range_succ, List.filterMap_append, ih, List.take_add_one, List.getElem?_reverse (by omega)]
          rw [List.filterMap_cons]
          cases q : l[l.length - 1 - k]? <;> rfl
        · omega
  rcases hf l.length with h | h
  · show ((List.range l.length).filterMap (fun x => l[l.length - 1 - x]?))[i]? = _
    rw [h, List.take_of_length_le (by simp)]
  · omega

theorem ev_comp_upto {w : World} {n : Nat} {env : Env} {M : List Addr} {h : Heap} {ρ : List (Str × D)} {elt iter : Expr} {x : Str} {px pos : Pos} {ifs : List Expr} {scope : Scope} {N : Nat} {p : Nat → Bool} {f : Nat → D}
    (F : FD env M h ρ) (ok : compOk scope env x ρ = true) (hiter : Ex w n h (eval iter env) (fun v h' => RangeV 0 N h' v)) (hN : N ≤ 2 ^ 20)
    (htests : ∀ i, i < N → ∀ M' C h', Stay h h' → FD (cEnv scope env C) M' h' ((x, .int i) :: ρ) → Ex w n h' (testsT ifs (cEnv scope env C)) (fun ok _ => ok = p i))
    (helt : ∀ i, i < N → ∀ M' C h', p i = true → Stay h h' → FD (cEnv scope env C) M' h' ((x, .int i) :: ρ) → Ev w n (cEnv scope env C) M' h' elt (f i))
    (hs : ∀ x, foldedSetIterable iter env x = pure x := by intro _; rfl) :
    Ev w n env M h (.ListComp elt [⟨.Name x px, iter, ifs, 0⟩] scope pos) (.list (((List.range N).filter p).map f)) := by
  have e0 : ((N : Int) - 0).toNat = N := by omega
  have e1 : ∀ i : Nat, (0 : Int) + (i : Int) = (i : Int) := fun i => by omega
  have := ev_comp_range (px := px) (pos := pos) (elt := elt) (ifs := ifs) (p := p) (f := f) F ok hiter (by decide) (by decide) (by omega) (by omega) (by omega) (fun i hi M' C h' k G => htests i (by omega) M' C h' k (e1 i ▸ G)) (fun i hi M' C h' hp k G => helt i (by omega) M' C h' hp k (e1 i ▸ G)) hs
  rwa [e0] at this

noncomputable def asL : D → List D
  | .list l => l
  | _ => []
theorem flat_range {l : List D} {g : D → List D} : (List.range l.length).flatMap (fun i => g (l.getD i .none)) = l.flatMap g := by
  induction l with
  | nil => rfl
  | cons a l ih =>
    rw [List.length_cons, List.range_succ_eq_map, List.flatMap_cons, List.flatMap_map, List.flatMap_cons]
    congr 1
theorem ev_comp2_list {w : World} {n : Nat} {env : Env} {M : List Addr} {h : Heap} {ρ : List (Str × D)} {iter : Expr} {x y : Str} {px py pos p1 : Pos} {ifs : List Expr} {scope : Scope} {l : List D} {K : Nat} {p : D → Bool}
    (F : FD env M h ρ) (ok : compOk scope env x ρ = true) (oky : (scope.names.lookup y == some .local && x != y) = true) (hiter : Ev w n env M h iter (.list l)) (hl : ∀ d ∈ l, ∃ r, d = .list r ∧ r.length ≤ K)
    (htests : ∀ d ∈ l, ∀ e ∈ asL d, ∀ M' C h', Stay h h' → FD (cEnv scope env C) M' h' ((y, e) :: (x, d) :: ρ) → Ex w n h' (testsT ifs (cEnv scope env C)) (fun ok _ => ok = p e))
    (hK : (l.length + 1) * K ≤ 2 ^ 20) (hs : ∀ x, foldedSetIterable iter env x = pure x := by intro _; rfl) (hs2 : ∀ C u, foldedSetIterable (.Name x p1) (cEnv scope env C) u = pure u := by intro _ _; rfl)
    (hkx : ∀ C, (cEnv scope env C).kindOf x = some .local := by intro _; rfl) (hky : ∀ C, (cEnv scope env C).kindOf y = some .local := by intro _; rfl) (hbx : (x == ("__debug__" : Str)) = false := by decide) (hby : (y == ("__debug__" : Str)) = false := by decide) {p2 : Pos} :
    Ev w n env M h (.ListComp (.Name y p2) [⟨.Name x px, iter, [], 0⟩, ⟨.Name y py, .Name x p1, ifs, 0⟩] scope pos) (.list (l.flatMap fun d => (asL d).filter p)) := by
  have mem : ∀ i, i < l.length → l.getD i .none ∈ l := fun i hi => by simp [List.getD, hi]
  have memj : ∀ (r : List D) i, i < r.length → r.getD i .none ∈ r := fun r i hi => by simp [List.getD, hi]
  have key := ev_comp2 (w := w) (n := n) (px := px) (py := py) (pos := pos) (elt := .Name y p2) (iter2 := .Name x p1) (ifs := ifs) (y := y) (K := K) (N := l.length) (it := fun i => l.getD i .none) (N2 := fun i => (asL (l.getD i .none)).length) (it2 := fun i j => (asL (l.getD i .none)).getD j .none)
    (p := fun i j => p ((asL (l.getD i .none)).getD j .none)) (f := fun i j => (asL (l.getD i .none)).getD j .none) F ok oky (hiter.post fun v h' _ q => itr_list q) ?_ ?_ ?_ ?_ hK hs hs2
  · have e : outs2 (fun i => (asL (l.getD i .none)).length) (fun i j => p ((asL (l.getD i .none)).getD j .none)) (fun i j => (asL (l.getD i .none)).getD j .none) l.length = l.flatMap fun d => (asL d).filter p := by
      rw [← flat_range]
      unfold outs2
      congr 1
      funext i
      have := range_getD (p := p) (f := id) (asL (l.getD i .none))
      simpa using this
    rwa [e] at key
  · intro i M' C h' hi k G
    obtain ⟨r, e, _⟩ := hl _ (mem i hi)
    have G' : FD (cEnv scope env C) M' h' ((x, .list r) :: ρ) := e ▸ G
    rw [e]
    exact (ev_local (d := .list r) G' (by rw [List.lookup_cons, beq_self_eq_true]) (hkx C) hbx).post fun v h' _ q => itr_list q
  · intro i j M' C h' hi hj k G
    exact htests _ (mem i hi) _ (memj _ j hj) M' C h' k G
  · intro i j M' C h' hi hj hp k G
    exact ev_local G (by rw [List.lookup_cons, beq_self_eq_true]) (hky C) hby
  · intro i hi
    obtain ⟨r, e, hr⟩ := hl _ (mem i hi)
    rw [e]; exact hr

noncomputable def firsts (l : List D) : List D := ((List.range l.length).filter fun k => !(l.take k).any (D.eqb · (l.getD k .none))).map fun k => l.getD k .none
theorem mem_dedup_any {l : List D} {d : D} : (dedup l).any (D.eqb · d) = l.any (D.eqb · d) := by
  have key : ∀ (l acc : List D), (l.foldl addNew acc).any (D.eqb · d) = (acc.any (D.eqb · d) || l.any (D.eqb · d)) := by
    intro l
    induction l with
    | nil => intro acc; simp
    | cons a l ih =>
      intro acc
      rw [List.foldl_cons, ih, List.any_cons]
      unfold addNew
      split
      · rename_i hh
        by_cases ha : D.eqb a d = true
        · have := eqb_iff.mp ha; subst this; simp [hh]
        · simp only [Bool.not_eq_true] at ha; simp [ha]
      · rw [List.any_append]; simp [Bool.or_assoc]
  exact key l []
theorem firsts_dedup {l : List D} : firsts l = dedup l := by
  have key : ∀ k, k ≤ l.length → ((List.range k).filter fun k => !(l.take k).any (D.eqb · (l.getD k .none))).map (fun k => l.getD k .none) = dedup (l.take k) := by
    intro k
    induction k with
    | zero => intro _; rfl
    | succ k ih =>
      intro hk
      rw [List.range_succ, List.filter_append, List.map_append, ih (by omega), dedup_take_succ (by omega)]
      unfold addNew
      rw [mem_dedup_any]
      by_cases hh : (l.take k).any (D.eqb · (l.getD k .none)) = true
      · rw [if_pos hh, List.filter_cons_of_neg (by rw [hh]; decide)]; simp
      · rw [if_neg hh, List.filter_cons_of_pos (by simpa using hh)]; simp
  unfold firsts
  rw [key _ (Nat.le_refl _), List.take_length]

section
variable {w : World} {n : Nat} {env : Env} {M : List Addr} {h : Heap} {e e₂ : Expr} {p' pos : Pos}
theorem ex_call1 {x : Str} {f : Value} {P P₁ : Value → Heap → Prop} (X : TR w h) (hf : Ex w n h (eval (.Name x p') env) (fun u _ => u = f)) (hk : KeepOk w f) (arg : Ex w n h (eval e env) P₁)
    (hc : ∀ h' v, Stay h h' → P₁ v h' → Ex w n h' (PySem.call f [v] []) P) (he : starEach [e] env = (false, eval e env) :: starEach [] env := by rfl) : Ex w n h (eval (.Call (.Name x p') [e] [] pos) env) P := fun A s a k =>
  Call_Name rfl (hf.run a k fun u h1 t1 k1 a p1 => by
    subst p1
    rw [he]
    refine callWith_of (P := fun h' => Frag.In (K39 w.params) h') rfl hk (evalArgs_plain ?_)
    refine spliced_cons (arg.run a (stays_trans k k1) fun v h2 t2 k2 a p2 => spliced_nil ?_)
    exact ⟨(X.stays (stays_trans k (stays_trans k1 k2))).K, (hc h2 v (stays_trans k (stays_trans k1 k2)) p2).run a (stays_refl _) fun v h3 t3 k3 a p3 => Then.mk (stays_trans k1 (stays_trans k2 k3)) p3⟩)
theorem ev_len_list {l : List D} (X : TR w h) (x : Ev w n env M h e (.list l)) (hl : l.length < 2 ^ 24) (hkind : env.scope.kind = .function := by rfl) (hk : env.kindOf (Str.ofString "len") = some .globalImplicit := by rfl) (hg : env.globals = mainGlobals := by rfl) (hbn : env.builtins = builtinsNs := by rfl)
    (he : starEach [e] env = (false, eval e env) :: starEach [] env := by rfl) : Ev w n env M h (.Call (.Name (Str.ofString "len") p') [e] [] pos) (.int l.length) :=
  ex_call X (ex_builtin X (by with_unfolding_all rfl) rfl (by decide) hkind hk hg hbn) keep_builtin (exl_cons x exl_nil he) (fun h2 vs k2 q => by
    simp only [Dens] at q
    obtain ⟨v, rr, rfl, hv, rfl⟩ := q
    exact c_len_list hv hl) he
theorem ev_len_str {l : Str} (X : TR w h) (x : Ev w n env M h e (.str l)) (hl : l.length < 2 ^ 24) (hkind : env.scope.kind = .function := by rfl) (hk : env.kindOf (Str.ofString "len") = some .globalImplicit := by rfl) (hg : env.globals = mainGlobals := by rfl) (hbn : env.builtins = builtinsNs := by rfl)
    (he : starEach [e] env = (false, eval e env) :: starEach [] env := by rfl) : Ev w n env M h (.Call (.Name (Str.ofString "len") p') [e] [] pos) (.int l.length) :=
  ex_call X (ex_builtin X (by with_unfolding_all rfl) rfl (by decide) hkind hk hg hbn) keep_builtin (exl_cons x exl_nil he) (fun h2 vs k2 q => by
    simp only [Dens] at q
    obtain ⟨v, rr, rfl, hv, rfl⟩ := q
    exact c_len_str hv hl) he
theorem ex_range1 {b : Int} (X : TR w h) (x : Ev w n env M h e (.int b)) (hkind : env.scope.kind = .function := by rfl) (hk : env.kindOf (Str.ofString "range") = some .globalImplicit := by rfl) (hg : env.globals = mainGlobals := by rfl) (hbn : env.builtins = builtinsNs := by rfl)
    (he : starEach [e] env = (false, eval e env) :: starEach [] env := by rfl) : Ex w n h (eval (.Call (.Name (Str.ofString "range") p') [e] [] pos) env) (fun v h' => RangeV 0 b h' v) :=
  ex_call (M := M) X (ex_builtin X (by with_unfolding_all rfl) rfl (by decide) hkind hk hg hbn) keep_type (exl_cons x exl_nil he) (fun h2 vs k2 q => by
    simp only [Dens] at q
    obtain ⟨v, rr, rfl, hv, rfl⟩ := q
    exact c_range1 hv) he
theorem ex_range2 {a b : Int} (X : TR w h) (x : Ev w n env M h e (.int a)) (y : Ev w n env M h e₂ (.int b)) (hkind : env.scope.kind = .function := by rfl) (hk : env.kindOf (Str.ofString "range") = some .globalImplicit := by rfl) (hg : env.globals = mainGlobals := by rfl) (hbn : env.builtins = builtinsNs := by rfl)
    (he : starEach [e, e₂] env = (false, eval e env) :: starEach [e₂] env := by rfl) (he₂ : starEach [e₂] env = (false, eval e₂ env) :: starEach [] env := by rfl) (hplain : (backTo pos (starEach [e₂] env)).any (·.1) = false := by rfl) : Ex w n h (eval (.Call (.Name (Str.ofString "range") p') [e, e₂] [] pos) env) (fun v h' => RangeV a b h' v) :=
  ex_call (M := M) X (ex_builtin X (by with_unfolding_all rfl) rfl (by decide) hkind hk hg hbn) keep_type (exl_cons x (exl_cons y exl_nil he₂) he) (fun h2 vs k2 q => by
    simp only [Dens] at q
    obtain ⟨v, rr, rfl, hv, v2, rr2, rfl, hv2, rfl⟩ := q
    exact c_range2 hv hv2) he hplain
theorem ev_list_range {a b : Int} (X : TR w h) (F : MOk M h) (x : Ex w n h (eval e env) (fun v h' => RangeV a b h' v)) (ha : -(2 ^ 20) ≤ a) (ha' : a ≤ 2 ^ 20) (hb : -(2 ^ 20) ≤ b) (hb' : b ≤ 2 ^ 20) (hab : b - a ≤ 2 ^ 20)
    (hkind : env.scope.kind = .function := by rfl) (hk : env.kindOf (Str.ofString "list") = some .globalImplicit := by rfl) (hg : env.globals = mainGlobals := by rfl) (hbn : env.builtins = builtinsNs := by rfl)
    (he : starEach [e] env = (false, eval e env) :: starEach [] env := by rfl) : Ev w n env M h (.Call (.Name (Str.ofString "list") p') [e] [] pos) (.list ((List.range (b - a).toNat).map fun (i : Nat) => D.int (a + (i : Int)))) := by
  exact ex_call1 X (ex_builtin (env := env) (pos := p') (n := n) X (by with_unfolding_all rfl) rfl (by decide) hkind hk hg hbn) keep_type x (fun h' v k q => c_list_range (F.stays k) q ha ha' hb hb' hab) he
end

theorem spec_once {w : World} {n : Nat} {M : List Addr} {h : Heap} {l : List D} {v : Value} (ty : Ty) (hty : ty.depth ≤ 5) (X : TR w h) (hM : MOk M h) (hv : Den M h (.list l) v) (K : Nat)
    (hl : HasTy (.list (.list ty)) (.list l)) (hlen : ∀ d ∈ l, ∃ r, d = .list r ∧ r.length ≤ K) (hK : (l.length + 1) * K ≤ 2 ^ 20) (hn : 4 ≤ n) :
    Cx w n h (.call (.ref 119) ⟨[v], []⟩) (fun u h' => Den M h' (.list (dedup (l.flatMap asL))) u) := by
  obtain ⟨m, rfl⟩ : ∃ m, n = m + 1 := ⟨n - 1, by omega⟩
  refine cx_def (ρ := [(Str.ofString "rows", .list l)]) X hM (by with_unfolding_all rfl) (by with_unfolding_all rfl) (fun s k => .of_eq rfl) (.cons hv .nil) (by rfl) fun L Y h₀ h' k F => ?_
  have X₀ := X.stays k
  have hflat : (l.flatMap asL).length ≤ 2 ^ 20 := by
    refine Nat.le_trans ?_ hK
    have : ∀ (l : List D), (∀ d ∈ l, ∃ r, d = .list r ∧ r.length ≤ K) → (l.flatMap asL).length ≤ l.length * K := by
      intro l
      induction l with
      | nil => intro _; simp
      | cons a l ih =>
        intro hl
        obtain ⟨r, e, hr⟩ := hl a (.head _)
        have := ih fun d hd => hl d (.tail _ hd)
        subst e
        rw [List.flatMap_cons, List.length_append, List.length_cons, Nat.succ_mul]
        show r.length + _ ≤ _
        omega
    have h1 := this l hlen
    rw [Nat.succ_mul]; omega
  have hflt : (l.flatMap fun d => (asL d).filter fun _ => true) = l.flatMap asL := by
    have : (fun d => (asL d).filter fun _ => true) = asL := funext fun d => List.filter_eq_self.mpr fun _ _ => rfl
    rw [this]
  refine sx_cons (sx_assign (d := .list (l.flatMap asL)) F (by rw [← hflt]; exact ev_comp2_list (p := fun _ => true) (K := K) F.fd (by rfl) (by decide) (ev_local (d := .list l) F.fd rfl) hlen (fun d hd e he M' C h' k G => tests_nil) hK) fun h1 F1 => ?_)
  generalize hj : l.flatMap asL = jn at *
  have hty' : HasTy (.list ty) (.list jn) := hasTy_list.mpr fun x mx => by
    rw [← hj] at mx
    obtain ⟨d, hd, hx⟩ := List.mem_flatMap.mp mx
    obtain ⟨r, rfl, _⟩ := hlen d hd
    exact hasTy_list.mp (hasTy_list.mp hl _ hd) x hx
  rw [← firsts_dedup]
  refine sx_cons (sx_return (P := fun v h' => Den (Y ++ M) h' (.list (firsts jn)) v) ?_ fun v h3 k3 q => ⟨stays_trans F1.base k3, ?_⟩)
  · unfold firsts
    refine ev_comp_upto F1.fd (by rfl) (ex_range1 (X₀.stays F1.base) (ev_len_list (X₀.stays F1.base) (ev_cell (d := .list jn) F1.fd rfl) (by omega))) (by omega) ?_ ?_
    · intro i hi M' C h2 k2 G
      have hi' : i < jn.length := by omega
      have hx : jn.getD i .none ∈ jn := by simp [List.getD, hi']
      refine tests_one (tr_cmp (M := M') (ev_item (d := jn.getD i .none) (l := jn) (ev_cell G rfl) (ev_local (d := .int i) G rfl) (by omega) (by omega) (by simp [List.getD, hi']))
        (ev_slice_list (l := none) (u := some (i : Int)) (t := none) G.mok (ev_cell (d := .list jn) G rfl) pt_none (pt_some (ev_local (d := .int i) (G.nil) rfl)) pt_none (by simp) (by omega)) ?_)
      rw [pickD_take]
      exact cp_ninl ty (hasTy_list.mpr fun x mx => hasTy_list.mp hty' x (List.mem_of_mem_take mx)) (hasTy_list.mp hty' _ hx) (by omega) (by omega)
    · intro i hi M' C h2 hp k2 G
      have hi' : i < jn.length := by omega
      exact ev_item (d := jn.getD i .none) (l := jn) (ev_cell G rfl) (ev_local (d := .int i) G rfl) (by omega) (by omega) (by simp [List.getD, hi'])
  · exact q.kept .refl fun q m => .inl (List.mem_append_right _ m)
end Mine
end
section
open PySem PySem.W PySem.Calls PyProof.Rows
set_option maxRecDepth 100000
set_option maxHeartbeats 4000000
namespace Mine
variable [Bd]
section
variable {w : World} {n : Nat} {env : Env} {M : List Addr} {h : Heap} {o e : Expr} {apos pos : Pos}

theorem dens_strs {l : List Str} : ∀ {vs : List Value}, Dens M h (l.map .str) vs → ∃ ps : List (Str × Tok), vs = strValues ps ∧ ps.map (·.1) = l := by
  induction l with
  | nil => intro vs q; simp only [List.map_nil, Dens] at q; subst q; exact ⟨[], rfl, rfl⟩
  | cons a l ih =>
    intro vs q
    simp only [List.map_cons, Dens, Den] at q
    obtain ⟨v, r, rfl, ⟨t, rfl⟩, q⟩ := q
    obtain ⟨ps, rfl, e⟩ := ih q
    exact ⟨(a, t) :: ps, rfl, by rw [List.map_cons, e]⟩
theorem ev_join {sep : Str} {l : List Str} (x : Ev w n env M h o (.str sep)) (y : Ev w n env M h e (.list (l.map .str))) (hok : JoinOk sep l = true)
    (hbase : attributeBase o "join" env (eval o env) = eval o env := by rfl) (he : starEach [e] env = (false, eval e env) :: starEach [] env := by rfl) (hline : (apos.endLine == pos.line) = true := by rfl) :
    Ev w n env M h (.Call (.Attribute o "join" apos) [e] [] pos) (.str (Txt.join sep l)) := fun A s a k => by
  refine wpAny_Call_method hbase (by rw [he]; rfl) hline PySem.F.plainAttrs_str PySem.F.slot_str_join PySem.F.type_str_join ?_
  refine x.run a k fun v h1 t1 k1 a p1 => ?_
  simp only [Den] at p1
  obtain ⟨t, rfl⟩ := p1
  refine ⟨typeIs_str _ _ _, (by intro a e; cases e), ?_⟩
  rw [he]
  refine Calls.callWith_builtin rfl (evalArgs_plain (spliced_cons ?_))
  refine y.run a (stays_trans k k1) fun u h2 t2 k2 a p2 => spliced_nil ?_
  simp only [Den] at p2
  obtain ⟨r, vs, rfl, _, hl, dl⟩ := p2
  obtain ⟨ps, rfl, e⟩ := dens_strs dl
  exact SC.join hl e hok fun t' k' => Then.mk (stays_trans k1 k2) Den.str'
end
end Mine
end
section
open PySem PySem.W PySem.Calls PyProof.Rows
set_option maxRecDepth 100000
set_option maxHeartbeats 4000000
namespace Mine
variable [Bd]

noncomputable def patL (x : Int) : List Str := (List.range (x.fmod 4).toNat).map fun k => Txt.item (Str.ofString "*?a.") (((x.fdiv 4).fdiv (4 ^ k)).fmod 4)
noncomputable def patS (x : Int) : Str := Txt.join (Str.ofString "") (patL x)
theorem fmod4 (x : Int) : 0 ≤ x.fmod 4 ∧ x.fmod 4 < 4 := ⟨Int.fmod_nonneg_of_pos _ (by decide), Int.fmod_lt_of_pos _ (by decide)⟩
theorem joinOk_short : ∀ (l : List Str) (sep : Str), sep.length ≤ 16 → l.length ≤ 1024 → (∀ x ∈ l, x.length ≤ 1024) → JoinOk sep l = true := by
  intro l sep hs hl hx
  have key : ∀ (l : List Str) (a : Nat), (∀ x ∈ l, x.length ≤ 1024) → l.foldl (· + ·.length + sep.length) a ≤ a + l.length * 1040 := by
    intro l
    induction l with
    | nil => intro a _; simp
    | cons x l ih =>
      intro a h
      have h1 := h x (.head _)
      have h2 := ih (a + x.length + sep.length) fun y m => h y (.tail _ m)
      simp only [List.foldl_cons, List.length_cons]
      omega
  have := key l 0 hx
  unfold JoinOk
  rw [Bool.not_eq_true', List.foldl_toArray]
  unfold Builtin.Str.tooLong
  simp only [decide_eq_false_iff_not, Nat.not_lt]
  unfold sizeLine
  omega

theorem spec_pattern {w : World} {n : Nat} {M : List Addr} {h : Heap} {x : Int} {v : Value} (X : TR w h) (hM : MOk M h) (hv : Den M h (.int x) v) (hn : 4 ≤ n) :
    Cx w n h (.call (.ref 104) ⟨[v], []⟩) (fun u h' => Den M h' (.str (patS x)) u) := by
  obtain ⟨m, rfl⟩ : ∃ m, n = m + 1 := ⟨n - 1, by omega⟩
  refine cx_def (ρ := [(Str.ofString "x", .int x)]) X hM (by with_unfolding_all rfl) (by with_unfolding_all rfl) (fun s k => .of_eq rfl) (.cons hv .nil) (by rfl) fun L Y h₀ h' k F => ?_
  have X₀ := (X.stays k).stays F.base
  have h4 := fmod4 x
  have e0 : (((x.fmod 4).toNat : Nat) : Int) = x.fmod 4 := by omega
  have el : (patL x).map D.str = ((List.range (x.fmod 4).toNat).filter fun _ => true).map fun k => D.str (Txt.item (Str.ofString "*?a.") (((x.fdiv 4).fdiv (4 ^ k)).fmod 4)) := by
    rw [List.filter_eq_self.mpr fun _ _ => rfl]; unfold patL; rw [List.map_map]; rfl
  refine sx_cons (sx_return (P := fun v h' => Den (Y ++ M) h' (.str (patS x)) v) (ev_join (sep := Str.ofString "") (l := patL x) ev_str ?_ ?_) fun v h3 k3 q => ⟨stays_trans F.base k3, ?_⟩)
  · rw [el]
    refine ev_comp_upto F.fd (by rfl) (e0.symm ▸ ex_range1 X₀ (ev_bin F.fd.mok (ev_cell (d := .int x) F.fd rfl) ev_int (bin_mod (by decide)))) (by omega) (fun i hi M' C h' k G => tests_nil) ?_
    intro i hi M' C h2 hp k2 G
    have h4' := fmod4 ((x.fdiv 4).fdiv (4 ^ i))
    refine ev_char (ev_str) (ev_bin G.mok (ev_bin G.mok (ev_bin G.mok (ev_cell (d := .int x) G rfl) ev_int (bin_div (by decide) (by decide))) (ev_bin G.mok ev_int (ev_local (d := .int i) G rfl) (bin_pow (by omega) (by omega) (by decide))) (bin_div ?_ ?_)) ev_int (bin_mod (by decide))) ?_ ?_ (by decide)
    · show (0 : Int) < 4 ^ _; exact Int.pow_pos (by decide)
    · have hi3 : i ≤ 3 := by omega
      show (4 : Int) ^ (i : Int).toNat < 2 ^ 63
      have : (i : Int).toNat = i := by omega
      rw [this]
      have : i = 0 ∨ i = 1 ∨ i = 2 ∨ i = 3 := by omega
      rcases this with rfl | rfl | rfl | rfl <;> decide
    · exact h4'.1
    · exact h4'.2
  · refine joinOk_short _ _ (by decide) (by unfold patL; rw [List.length_map, List.length_range]; omega) fun y hy => ?_
    unfold patL at hy
    obtain ⟨k, _, rfl⟩ := List.mem_map.mp hy
    show 1 ≤ 1024
    decide
  · exact q.kept .refl fun q m => .inl (List.mem_append_right _ m)
end Mine
end
section
open PySem PySem.W PySem.Calls PyProof.Rows
set_option maxRecDepth 100000
set_option maxHeartbeats 4000000
namespace Mine
variable [Bd]

noncomputable def signAt (x : Str) (i : Nat) : Str := ⟨#[(x.cps[i]?).getD 0]⟩
theorem itr_str {w : World} {n : Nat} {M : List Addr} {h : Heap} {v : Value} {x : Str} (q : Den M h (.str x) v) : Itr w n M h v x.cps.size (fun i => .str (signAt x i)) := fun A s Q E a k H => by
  simp only [Den] at q
  obtain ⟨t, rfl⟩ := q
  have fin : ∀ (ty : String) (W : Walks prog w A s.heap.objs.size [s.heap.objs.size] [s.heap.objs.size] x.cps.size (SignAt x) (fun i h => h.IsStrIter s.heap.objs.size ty x t i)),
      Q (.ref s.heap.objs.size) { s with heap := s.heap.push { cls := .type ty, data := .fields #[.str x t, .int 0 0] } } := fun ty W => by
    refine H _ _ _ _ _ _ s.toks W ⟨_, Heap.get?_push_size _ rfl, rfl, rfl⟩ ?_ ?_ ?_ (fun b hb hbw => absurd hb hbw) ?_ (push_stays _ _) ?_
    · intro b hb
      rw [Heap.size_push, List.mem_singleton.mp hb]; exact Nat.lt_succ_self _
    · rintro i h ⟨o, ho, _⟩ b hb
      rw [List.mem_singleton.mp hb]; exact ⟨o, ho⟩
    · intro b hb
      rw [List.mem_singleton.mp hb]; exact none_of_le (Nat.le_refl _)
    · rintro i h ⟨o, ho, _, hd⟩ b hb o' ho'
      rw [List.mem_singleton.mp hb, ho] at ho'; cases ho'; unfold nd; rw [hd]
    · rintro i v hi ⟨c, u, hc, rfl⟩
      have : signAt x i = ⟨#[c]⟩ := by unfold signAt; rw [hc]; rfl
      show Den _ _ (.str (signAt x i)) _
      rw [this]; exact Den.str'
  cases ha : x.cps.all (· < 128)
  · exact wpAny_pyIter_wide ha (fin _ (Walks.strWide a.handled _ x t))
  · exact wpAny_pyIter_ascii ha (fin _ (Walks.strAscii a.handled _ x t))
end Mine
end
section
open PySem PySem.W PySem.Calls PyProof.Rows
set_option maxRecDepth 100000
set_option maxHeartbeats 4000000
namespace Mine
variable [Bd]

/-- `y = [.. for x in ..]`, y local, on one line: the store goes first -/
theorem sx_comp {w : World} {n : Nat} {fr : Option Addr} {env : Env} {M₀ X : List Addr} {h₀ h : Heap} {ρ : List (Str × D)} {σ : List (Addr × List D)} {Q : Flow → Heap → Prop} {elt iter : Expr} {x y : Str} {px py pos spos : Pos} {ifs : List Expr} {scope : Scope} {N : Nat} {it : Nat → D} {p : Nat → Bool} {f : Nat → D} {out : List D}
    (F : FS env M₀ X h₀ h ρ σ) (ok : compOk scope env x ρ = true) (hout : ((List.range N).filter p).map f = out)
    (hiter : Ex w n h (eval iter env) (fun v h' => Itr w n (X ++ M₀) h' v N it))
    (htests : ∀ i M' C h', i < N → Stay h h' → FD (cEnv scope env C) M' h' ((x, it i) :: ρ) → Ex w n h' (testsT ifs (cEnv scope env C)) (fun ok _ => ok = p i))
    (helt : ∀ i M' C h', i < N → p i = true → Stay h h' → FD (cEnv scope env C) M' h' ((x, it i) :: ρ) → Ev w n (cEnv scope env C) M' h' elt (f i))
    (hN : N ≤ 2 ^ 20) (HQ : ∀ h', FS env M₀ X h₀ h' ((y, .list out) :: ρ) σ → Q .next h') (hk : env.kindOf y = some .local := by rfl)
    (hsw : swapsWith (.ListComp elt [⟨.Name x px, iter, ifs, 0⟩] scope pos) (some (.Name y py)) spos.line env = pure true := by rfl) (hs : ∀ x, foldedSetIterable iter env x = pure x := by intro _; rfl) :
    Sx w n fr (exec (.Assign [.Name y py] (.ListComp elt [⟨.Name x px, iter, ifs, 0⟩] scope pos) spos) env) h Q := fun A s a hf eh => by
  subst hout
  have k : Stay h s.heap := eh ▸ stays_refl _
  have FF := F
  have F := F.fd
  have ok' := ok
  simp only [compOk, Bool.and_eq_true, beq_iff_eq] at ok'
  obtain ⟨⟨⟨⟨⟨ok1, ok2⟩, ok3⟩, ok4⟩, ok5⟩, ok6⟩ := ok'
  have hnames : ∀ y ∈ scope.names, y.2 = .local → scope.names.lookup y.1 = some .local := fun y hy hl => by
    have := List.all_eq_true.mp ok3 y hy
    simpa [hl] using this
  have hcell : ∀ y ∈ scope.names, y.2 ≠ .cell := fun y hy hl => by
    have := List.all_eq_true.mp ok2 y hy
    simp [hl] at this
  rw [exec_Assign_Name_used _ _ _ _ hsw]
  refine wpAny_bind (wpAny_standAt (wpAny_bind ?_))
  show wpAny _ A (do let _ ← comprehension (.ListComp elt [⟨.Name x px, iter, ifs, 0⟩] scope pos) scope env _ (newList []) false (eval iter env) (some (assign (.Name y py) env))) _ _ s
  refine wpAny_bind (wpAny_mono (?_ : wpAny (model prog w) A _ (fun _ s' => ∃ h' tk, s' = { s with heap := h', toks := tk } ∧ AOk n A h' ∧ Q .next h') NoE s) (fun _ s' hq => wpAny_pure (wpAny_pure hq)) fun _ _ e => e)
  refine wpAny_comprehension_free (use := some (assign (.Name y py) env)) (Q := fun _ s' => ∃ h' tk, s' = { s with heap := h', toks := tk } ∧ AOk n A h' ∧ Q .next h') rfl hs (closureFor_clOf ok1) ok4 hnames (hiter.run a k fun xv hb tb kb a hit => ?_)
  have khb : Stay h hb := stays_trans k kb
  refine hit A _ _ _ a (stays_refl _) fun I fp wr P St h₂ t₂ W hst hfp hlive hwr _ hnf k₂ hP => ?_
  refine wpAny_newObj_type (wpAny_newFunctionEnv hcell (by intro y hy; simp at hy) (fun h₁ hns₁ hsb₁ => ?_) ok4)
  dsimp only at hwr k₂ hP hns₁ hsb₁ ⊢
  generalize hH2 : h₂.push { cls := .type "list", dict := none, data := .seq ([] : List Value).toArray } = H2 at hns₁ hsb₁ ⊢
  have hC : H2.objs.size = h₂.objs.size + 1 := by rw [← hH2, Heap.size_push]
  have hCn : h₂.get? H2.objs.size = none := none_of_le (by rw [hC]; exact Nat.le_succ _)
  have hDn : h₂.get? h₂.objs.size = none := none_of_le (Nat.le_refl _)
  have hDC : h₂.objs.size ≠ H2.objs.size := by rw [hC]; exact Nat.ne_of_lt (Nat.lt_succ_self _)
  have hDg : H2.get? h₂.objs.size = some { cls := .type "list", dict := none, data := .seq ([] : List Value).toArray } := hH2 ▸ Heap.get?_push_size _ rfl
  have k2 : ∀ b o, h₂.get? b = some o → H2.get? b = some o := fun b o e => hH2 ▸ Heap.get?_push_of_some _ e
  have hDf : h₂.objs.size ∉ fp := fun hm => Nat.lt_irrefl _ (hfp _ hm)
  have hCf : H2.objs.size ∉ fp := fun hm => by have := hfp _ hm; rw [hC] at this; exact absurd this (Nat.not_lt.mpr (Nat.le_succ _))
  generalize H2.objs.size = C at *
  generalize h₂.objs.size = Da at *
  have hbD : hb.get? Da = none := none_of_stays k₂ hDn
  have hbC : hb.get? C = none := none_of_stays k₂ hCn
  have old : ∀ b o, h₂.get? b = some o → h₁.get? b = some o := fun b o e => hsb₁.extBut b o (ne_of_get e hCn) (Heap.get?_push_of_some _ (k2 _ _ e))
  have hacc₁ : h₁.PlainList Da (([] : List Value).toArray) := ⟨_, hsb₁.extBut _ _ hDC (Heap.get?_push_of_some _ hDg)⟩
  have hst₁ : St 0 h₁ := W.frame _ _ _ hst fun b _ o e => old b o e
  have hDw : Da ∉ wr := fun hm => hDf (W.sub _ hm)
  have hCw : C ∉ wr := fun hm => hCf (W.sub _ hm)
  have FD0 := F.stays khb
  let M' : List Addr := (C :: Da :: wr) ++ (X ++ M₀)
  have hMnew : ∀ q ∈ M', q ∈ (X ++ M₀) ∨ hb.get? q = none := fun q hq => by
    rcases List.mem_append.mp hq with hq | hq
    · rcases List.mem_cons.mp hq with rfl | hq
      · exact .inr hbC
      · rcases List.mem_cons.mp hq with rfl | hq
        · exact .inr hbD
        · exact .inr (hwr _ hq)
    · exact .inl hq
  -- what every state of the loop bears
  have kM' : ∀ {H : Heap}, (∀ b o, b ∉ C :: Da :: wr → hb.get? b = some o → Same H b o) → Stay hb H := fun kH b o e => kH b o (fun q => by
    rcases hMnew b (List.mem_append_left _ q) with q' | q'
    · rcases List.mem_cons.mp q with rfl | q
      · rw [hbC] at e; cases e
      · rcases List.mem_cons.mp q with rfl | q
        · rw [hbD] at e; cases e
        · rw [hwr _ q] at e; cases e
    · rw [q'] at e; cases e) e
  have fdOf : ∀ i H m v, i < N → (∀ b o, b ∉ C :: Da :: wr → hb.get? b = some o → Same H b o) → St (i + 1) H → (∃ ys, H.PlainList Da ys) → H.Ns C m → m x = some v → P i v →
      FD (cEnv scope env C) M' H ((x, it i) :: ρ) := fun i H m v hi kH hstH hacc hns hmx hPv => by
    have kS := kM' kH
    refine fd_comp ok FD0 (fun q hq => ?_) hns hmx ((hP i v hi hPv).kept (.of kS) hMnew) (fun d v hd => hd.kept (.of kS) hMnew) (fun c v hv => cell_same hv (kS _))
    rcases List.mem_append.mp hq with hq | hq
    · rcases List.mem_cons.mp hq with rfl | hq
      · obtain ⟨o, _, _, ho, _⟩ := hns; exact ⟨o, ho⟩
      · rcases List.mem_cons.mp hq with rfl | hq
        · obtain ⟨ys, n, ho⟩ := hacc; exact ⟨_, ho⟩
        · exact hlive _ _ hstH _ hq
    · exact kS.some (FD0.mok q hq)
  -- the loop
  have loop : ∀ s₃ : Shared, s₃ = { s with heap := h₁, toks := t₂ + ([] : List (Str × Value)).length } →
      codeAny (model prog w) A (.compLoop (.ListComp elt [⟨.Name x px, iter, ifs, 0⟩] scope pos) 0 (.ref I) (.ref Da) (cEnv scope env C))
        (compPost (model prog w) A NoE (some (assign (.Name y py) env)) (fun _ s' => ∃ h' tk, s' = { s with heap := h', toks := tk } ∧ AOk n A h' ∧ Q .next h') (.ref Da) C) s₃ := by
    rintro s₃ rfl
    refine codeAny_compLoop_tests
      (fun k s' => ∃ (i : Nat) (H : Heap) (tk : Nat) (m : Str → Option Value) (ys : List Value), s' = { s with heap := H, toks := tk } ∧ St i H ∧ H.PlainList Da ys.toArray ∧ H.Ns C m ∧ Dens M' H (((List.range i).filter p).map f) ys ∧ i ≤ N ∧ k = N + 1 - i ∧
        (∀ b o, b ∉ C :: Da :: wr → hb.get? b = some o → Same H b o)) ?_ (N + 1) ⟨0, h₁, _, _, [], rfl, hst₁, hacc₁, hns₁, by simp [Dens], Nat.zero_le _, rfl, fun b o _ e => (k₂ _ _ e).trans fun o e => .of (old _ _ e)⟩
    rintro kk s' ⟨i, H, tk, m, ys, rfl, hstH, haccH, hnsH, hdens, hi, rfl, kH⟩
    by_cases hlt : i < N
    · refine W.item i _ _ _ hlt hstH fun v H₁ tk₁ hPv hst₁ hk₁ => ?_
      have hxk : (cEnv scope env C).kindOf x = some .local := by show (relabel scope env).names.lookup x = _; rw [kind_relabel, ok5]
      refine wpAny_assign_Name (wpAny_storeName_local hxk (hnsH.at' fun o e => hk₁ _ o hCw e) (fun H₂ hn₂ hs₂ => ?_) (by show (scope.kind == .class || (scope.kind == .module && _)) = false; rw [ok4]; rfl))
      have hst₂ : St (i + 1) H₂ := W.frame _ _ _ hst₁ fun b hb' o e => hs₂.extBut b o (fun q => hCf ((show b = C from q) ▸ hb')) e
      have up : ∀ b o, b ∉ C :: Da :: wr → H.get? b = some o → H₂.get? b = some o := fun b o hbn e => hs₂.extBut b o (fun q => hbn ((show b = C from q) ▸ .head _)) (hk₁ b o (fun q => hbn (.tail _ (.tail _ q))) e)
      have kH₂ : ∀ b o, b ∉ C :: Da :: wr → hb.get? b = some o → Same H₂ b o := fun b o hbn e => (kH b o hbn e).trans fun o e => .of (up b o hbn e)
      have haccH₂ : H₂.PlainList Da ys.toArray := haccH.at fun o e => hs₂.extBut _ _ hDC (hk₁ _ _ hDw e)
      have hdens₂ : Dens M' H₂ (((List.range i).filter p).map f) ys := hdens.keep fun b o hbn e => .of (up b o (fun q => hbn (List.mem_append_left _ q)) e)
      have G := fdOf i H₂ _ v hlt kH₂ hst₂ ⟨_, haccH₂⟩ hn₂ (by simp) hPv
      have kh₂ : Stay h H₂ := stays_trans khb (kM' kH₂)
      refine (htests i M' C H₂ hlt kh₂ G).run (a.up (kM' kH₂)) (stays_refl _) fun okb H₃ tk₃ k₃ a hokb => ?_
      subst hokb
      have hst₃ : St (i + 1) H₃ := W.frame _ _ _ hst₂ fun b hb o e => (k₃ b o e).get (.inl (hnf _ _ hst₂ b hb o e))
      have kH₃ : ∀ b o, b ∉ C :: Da :: wr → hb.get? b = some o → Same H₃ b o := fun b o hbn e => (kH₂ b o hbn e).trans fun o e => k₃ _ _ e
      have hout := outs_succ (p := p) (f := f) i
      cases hpi : p i with
      | false =>
        simp only [Bool.false_eq_true, if_false]
        rw [hpi] at hout
        exact ⟨N + 1 - (i + 1), by omega, i + 1, H₃, tk₃, _, ys, rfl, hst₃, plain_same haccH₂ (k₃ _), ns_same hn₂ (k₃ _), by rw [hout]; simpa using hdens₂.stays k₃, hlt, rfl, kH₃⟩
      | true =>
        simp only [if_true]
        rw [hpi] at hout
        refine (helt i M' C H₃ hlt hpi (stays_trans kh₂ k₃) (G.stays k₃)).run a (stays_refl _) fun y H₄ tk₄ k₄ a hy => ?_
        have hys : ys.length ≤ i := by
          have e1 := hdens.length
          have e2 := List.length_filter_le p (List.range i)
          simp at e1 e2; omega
        refine wpAny_list_append_plain (hsz := by show ys.toArray.size ≤ 2 ^ 24; simp; omega) (plain_same (plain_same haccH₂ (k₃ _)) (k₄ _)) fun H₅ hl₅ hs₅ => ?_
        have k5 : Kept M' H₄ H₅ := .same hs₅ (.tail _ (.head _))
        refine ⟨N + 1 - (i + 1), by omega, i + 1, H₅, tk₄, _, ys ++ [y], rfl, ?_, by simpa using hl₅, (ns_same (ns_same hn₂ (k₃ _)) (k₄ _)).sameBut hs₅ (Ne.symm hDC), ?_, hlt, rfl, fun b o hbn e => ?_⟩
        · exact W.frame _ _ _ hst₃ fun b hb' o e => hs₅.extBut b o (fun q => hDf (q ▸ hb')) ((k₄ _ _ e).get (.inl (hnf _ _ hst₃ b hb' o e)))
        · rw [hout]
          exact (((hdens₂.stays k₃).stays k₄).keep k5).append (.cons (hy.keep k5) .nil)
        · exact (kH₃ b o hbn e).trans fun o e => (k₄ _ _ e).trans fun o e => .of (hs₅.extBut b o (fun q => hbn (q ▸ .tail _ (.head _))) e)
    · have hin : i = N := by omega
      subst hin
      refine W.done _ _ _ hstH fun H₁ tk₁ hk₁ => ?_
      have up : ∀ b o, b ∉ C :: Da :: wr → H.get? b = some o → H₁.get? b = some o := fun b o hbn e => hk₁ b o (fun q => hbn (.tail _ (.tail _ q))) e
      have kH' : ∀ b o, b ∉ C :: Da :: wr → hb.get? b = some o → Same H₁ b o := fun b o hbn e => (kH b o hbn e).trans fun o e => .of (up b o hbn e)
      have hns₁ := hnsH.at' fun o e => hk₁ _ o hCw e
      have hl : H₁.PlainList Da ys.toArray := haccH.at fun o e => hk₁ _ _ hDw e
      have GG := (FF.grow khb).addM (h' := H₁) (wr := [C]) (kM' kH') (fun q m => by rw [List.mem_singleton.mp m]; exact hbC) (fun q m => by rw [List.mem_singleton.mp m]; obtain ⟨o, _, _, ho, _⟩ := hns₁; exact ⟨o, ho⟩)
      have hCX : C ∉ X := fun q => by obtain ⟨o, ho⟩ := FD0.mok C (List.mem_append_left _ q); rw [hbC] at ho; cases ho
      have hCM : C ∉ M₀ := fun q => by obtain ⟨o, ho⟩ := FD0.mok C (List.mem_append_right _ q); rw [hbC] at ho; cases ho
      have hDX : Da ∉ X ++ ([C] ++ M₀) := fun q => by
        rcases List.mem_append.mp q with q | q
        · obtain ⟨o, ho⟩ := FD0.mok Da (List.mem_append_left _ q); rw [hbD] at ho; cases ho
        · rcases List.mem_append.mp q with q | q
          · exact hDC (List.mem_singleton.mp q)
          · obtain ⟨o, ho⟩ := FD0.mok Da (List.mem_append_right _ q); rw [hbD] at ho; cases ho
      have hden : Den (X ++ ([C] ++ M₀)) H₁ (.list (((List.range i).filter p).map f)) (.ref Da) := .of_list hDX hl.isList (Dens.kept (M := M') (fun b o hbn e => .of (up b o (fun q => hbn (List.mem_append_left _ q)) e)) (fun q hq => .inl (by
        rcases List.mem_append.mp hq with q | q
        · exact List.mem_append_right _ (List.mem_append_left _ q)
        · rcases List.mem_append.mp q with q | q
          · rw [List.mem_singleton.mp q]; exact .head _
          · exact List.mem_append_right _ (List.mem_append_right _ q))) hdens)
      refine wpAny_assign_Name (FS.store (s := { s with heap := H₁, toks := tk₁ }) (x := y) (a.up (kM' kH')) GG hden (.inl hk) fun H₂ tk₂ a₂ G2 kX => ?_)
      refine ⟨m, hns₁.at' fun o e => kX _ o hCX e, fun H₃ hs₃ => ?_⟩
      have k3 : ∀ b o, b ∉ [C] → H₂.get? b = some o → H₃.get? b = some o := fun b o n e => (hs₃.2 b fun q => n (q ▸ .head _)).trans e
      refine ⟨H₃, tk₂, rfl, a.beside (wr := [C]) (fun q m => by rw [List.mem_singleton.mp m]; exact hbC) a₂ k3, HQ H₃ (G2.besideOut k3 (fun q m => by rw [List.mem_singleton.mp m]; exact hCX) (fun q m => by rw [List.mem_singleton.mp m]; exact hCM) (fun q m => by rw [List.mem_singleton.mp m]; exact none_of_stays FF.base (none_of_stays khb hbC)))⟩
  exact codeAny_compStart_list (loop _ rfl) (W.self 0 _ _ _ hst₁ (loop _ rfl))
end Mine
end
section
open PySem PySem.W PySem.Calls PyProof.Rows
set_option maxRecDepth 100000
set_option maxHeartbeats 4000000
namespace Mine
variable [Bd]

noncomputable def nums (l : List Nat) : D := .list (l.map fun i : Nat => .int (i : Int))
theorem nums_ty (l : List Nat) : HasTy (.list .int) (nums l) := hasTy_list.mpr fun x m => by
  obtain ⟨i, _, rfl⟩ := List.mem_map.mp m; trivial
theorem eqbs_nil' {l : List Nat} : D.eqbs (l.map fun i : Nat => D.int (i : Int)) [] = l.isEmpty := by rw [eqbs_nil]; cases l <;> rfl

noncomputable def pN (p : Nat → Bool) : D → Bool
  | .int i => p i.toNat
  | _ => false
noncomputable def fN (f : Nat → Nat) : D → D
  | .int i => .int ((f i.toNat : Nat) : Int)
  | _ => .none
theorem nums_map {l : List Nat} {p : Nat → Bool} {f : Nat → Nat} : (((l.map fun i : Nat => D.int (i : Int)).filter (pN p)).map (fN f)) = ((l.filter p).map f).map fun i : Nat => D.int (i : Int) := by
  rw [List.filter_map, List.map_map, List.map_map]
  have e1 : pN p ∘ (fun i : Nat => D.int (i : Int)) = p := by funext i; show p ((i : Int).toNat) = _; rw [Int.toNat_natCast]
  have e2 : fN f ∘ (fun i : Nat => D.int (i : Int)) = (fun i : Nat => D.int (i : Int)) ∘ f := by funext i; show D.int ((f ((i : Int).toNat) : Nat) : Int) = _; rw [Int.toNat_natCast]; rfl
  rw [e1, e2]
theorem sx_comp_list {w : World} {n : Nat} {fr : Option Addr} {env : Env} {M₀ X : List Addr} {h₀ h : Heap} {ρ : List (Str × D)} {σ : List (Addr × List D)} {Q : Flow → Heap → Prop} {elt iter : Expr} {x y : Str} {px py pos spos : Pos} {ifs : List Expr} {scope : Scope} {l : List D} {p : D → Bool} {f : D → D} {out : List D}
    (F : FS env M₀ X h₀ h ρ σ) (ok : compOk scope env x ρ = true) (hiter : Ev w n env (X ++ M₀) h iter (.list l)) (hout : (l.filter p).map f = out)
    (htests : ∀ d ∈ l, ∀ M' C h', Stay h h' → FD (cEnv scope env C) M' h' ((x, d) :: ρ) → Ex w n h' (testsT ifs (cEnv scope env C)) (fun ok _ => ok = p d))
    (helt : ∀ d ∈ l, ∀ M' C h', p d = true → Stay h h' → FD (cEnv scope env C) M' h' ((x, d) :: ρ) → Ev w n (cEnv scope env C) M' h' elt (f d))
    (hN : l.length ≤ 2 ^ 20) (HQ : ∀ h', FS env M₀ X h₀ h' ((y, .list out) :: ρ) σ → Q .next h') (hk : env.kindOf y = some .local := by rfl)
    (hsw : swapsWith (.ListComp elt [⟨.Name x px, iter, ifs, 0⟩] scope pos) (some (.Name y py)) spos.line env = pure true := by rfl) (hs : ∀ x, foldedSetIterable iter env x = pure x := by intro _; rfl) :
    Sx w n fr (exec (.Assign [.Name y py] (.ListComp elt [⟨.Name x px, iter, ifs, 0⟩] scope pos) spos) env) h Q := by
  have mem : ∀ i, i < l.length → l.getD i .none ∈ l := fun i hi => by simp [List.getD, hi]
  exact sx_comp (p := fun i => p (l.getD i .none)) (f := fun i => f (l.getD i .none)) (it := fun i => l.getD i .none) F ok ((range_getD l).trans hout) (hiter.post fun v h' _ q => itr_list q) (fun i M' C h' hi k G => htests _ (mem i hi) M' C h' k G)
    (fun i M' C h' hi hp k G => helt _ (mem i hi) M' C h' hp k G) hN HQ hk hsw hs
theorem sx_comp_nums {w : World} {n : Nat} {fr : Option Addr} {env : Env} {M₀ X : List Addr} {h₀ h : Heap} {ρ : List (Str × D)} {σ : List (Addr × List D)} {Q : Flow → Heap → Prop} {elt iter : Expr} {x y : Str} {px py pos spos : Pos} {ifs : List Expr} {scope : Scope} {l : List Nat} {p : Nat → Bool} {f : Nat → Nat} {out : List Nat}
    (F : FS env M₀ X h₀ h ρ σ) (ok : compOk scope env x ρ = true) (hiter : Ev w n env (X ++ M₀) h iter (nums l)) (hout : (l.filter p).map f = out)
    (htests : ∀ d ∈ l, ∀ M' C h', Stay h h' → FD (cEnv scope env C) M' h' ((x, .int (d : Int)) :: ρ) → Ex w n h' (testsT ifs (cEnv scope env C)) (fun ok _ => ok = p d))
    (helt : ∀ d ∈ l, ∀ M' C h', p d = true → Stay h h' → FD (cEnv scope env C) M' h' ((x, .int (d : Int)) :: ρ) → Ev w n (cEnv scope env C) M' h' elt (.int ((f d : Nat) : Int)))
    (hN : l.length ≤ 2 ^ 20) (HQ : ∀ h', FS env M₀ X h₀ h' ((y, nums out) :: ρ) σ → Q .next h') (hk : env.kindOf y = some .local := by rfl)
    (hsw : swapsWith (.ListComp elt [⟨.Name x px, iter, ifs, 0⟩] scope pos) (some (.Name y py)) spos.line env = pure true := by rfl) (hs : ∀ x, foldedSetIterable iter env x = pure x := by intro _; rfl) :
    Sx w n fr (exec (.Assign [.Name y py] (.ListComp elt [⟨.Name x px, iter, ifs, 0⟩] scope pos) spos) env) h Q := by
  subst hout
  exact sx_comp_list (p := pN p) (f := fN f) F ok hiter nums_map
    (fun d hd M' C h' k G => by
      obtain ⟨i, hi, rfl⟩ := List.mem_map.mp hd
      exact htests i hi M' C h' k G)
    (fun d hd M' C h' hp k G => by
      obtain ⟨i, hi, rfl⟩ := List.mem_map.mp hd
      exact helt i hi M' C h' hp k G) (by rw [List.length_map]; exact hN) HQ hk hsw hs
theorem nums_range {a b : Nat} : D.list ((List.range ((b : Int) - (a : Int)).toNat).map fun (i : Nat) => D.int ((a : Int) + (i : Int))) = nums ((List.range (b - a)).map (a + ·)) := by
  unfold nums
  rw [List.map_map]
  have : ((b : Int) - (a : Int)).toNat = b - a := by omega
  rw [this]
  rfl

noncomputable def fitStep (word c : Str) (places : List Nat) : List Nat :=
  if c == Str.ofString "*" then (if places.isEmpty then [] else (List.range (word.length + 1 - places.headD 0)).map (places.headD 0 + ·))
  else (places.filter fun k => decide (k < word.length) && (c == Str.ofString "?" || c == Txt.item word k)).map (· + 1)
noncomputable def fitPlaces (pat word : Str) (i : Nat) : List Nat := (List.range i).foldl (fun ps j => fitStep word (signAt pat j) ps) [0]
noncomputable def fits (pat word : Str) : Bool := (fitPlaces pat word pat.cps.size).contains word.length
theorem fitStep_ok {word c : Str} {ps : List Nat} (h : ∀ p ∈ ps, p ≤ word.length) (hl : ps.length ≤ word.length + 1) : (∀ p ∈ fitStep word c ps, p ≤ word.length) ∧ (fitStep word c ps).length ≤ word.length + 1 := by
  unfold fitStep
  split
  · split
    · exact ⟨(fun _ m => nomatch m), Nat.zero_le _⟩
    · refine ⟨fun p m => ?_, by rw [List.length_map, List.length_range]; omega⟩
      obtain ⟨i, hi, rfl⟩ := List.mem_map.mp m
      have := List.mem_range.mp hi
      omega
  · refine ⟨fun p m => ?_, ?_⟩
    · obtain ⟨i, hi, rfl⟩ := List.mem_map.mp m
      have := (List.mem_filter.mp hi).2
      simp only [Bool.and_eq_true, decide_eq_true_eq] at this
      omega
    · rw [List.length_map]; exact Nat.le_trans (List.length_filter_le _ _) hl
theorem fitPlaces_succ {pat word : Str} (i : Nat) : fitPlaces pat word (i + 1) = fitStep word (signAt pat i) (fitPlaces pat word i) := by
  unfold fitPlaces; rw [List.range_succ, List.foldl_append]; rfl
theorem fitPlaces_ok {pat word : Str} : ∀ i, (∀ p ∈ fitPlaces pat word i, p ≤ word.length) ∧ (fitPlaces pat word i).length ≤ word.length + 1
  | 0 => ⟨(fun p m => by rw [List.mem_singleton.mp m]; exact Nat.zero_le _), by show 1 ≤ _; omega⟩
  | i + 1 => by rw [fitPlaces_succ]; exact fitStep_ok (fitPlaces_ok i).1 (fitPlaces_ok i).2

theorem spec_fits {w : World} {n : Nat} {M : List Addr} {h : Heap} {pat word : Str} {v v₂ : Value} (X : TR w h) (hM : MOk M h) (hv : Den M h (.str pat) v) (hv₂ : Den M h (.str word) v₂) (hword : word.length ≤ 2 ^ 10) (hn : 4 ≤ n) :
    Cx w n h (.call (.ref 114) ⟨[v, v₂], []⟩) (fun u h' => Den M h' (.bool (fits pat word)) u) := by
  obtain ⟨m, rfl⟩ : ∃ m, n = m + 1 := ⟨n - 1, by omega⟩
  refine cx_def (ρ := [(Str.ofString "pattern", .str pat), (Str.ofString "word", .str word)]) X hM (by with_unfolding_all rfl) (by with_unfolding_all rfl) (fun s k => .of_eq rfl) (.cons hv (.cons hv₂ .nil)) (by rfl) fun L Y h₀ h' k F => ?_
  have X₀ := X.stays k
  refine sx_cons (sx_assign (d := nums [0]) F (ev_list F.fd.mok (exl_cons ev_int exl_nil) (by show 1 ≤ 2 ^ 24; decide)) fun h1 F1 => ?_)
  refine sx_cons (sx_for (N := pat.cps.size) (it := fun i => .str (signAt pat i)) (ρs := fun i => [(Str.ofString "places", nums (fitPlaces pat word i)), (Str.ofString "pattern", .str pat), (Str.ofString "word", .str word)]) (σs := fun _ => []) F1 ?_ ?_ ?_)
  · exact (ev_local (d := .str pat) F1.fd rfl).post fun v h' _ q => itr_str q
  · intro i M₁ base h2 hi kb G
    have hok := fitPlaces_ok (pat := pat) (word := word) i
    rw [fitPlaces_succ]
    generalize hc : signAt pat i = c at *
    generalize hps : fitPlaces pat word i = ps at *
    have hlen : (nums ps) = .list (ps.map fun i : Nat => D.int (i : Int)) := rfl
    refine sx_cons (sx_if (b := c == Str.ofString "*") (tr_cmp (M := []) (ev_cell (d := .str c) G.fd.nil rfl) ev_str cp_eqs) ?_ ?_)
    · intro hb h3 k3
      have G3 := G.grow k3
      have X₁ := (X₀.stays kb).stays G3.base
      have e1 : fitStep word c ps = if ps.isEmpty then [] else (List.range (word.length + 1 - ps.headD 0)).map (ps.headD 0 + ·) := by unfold fitStep; rw [if_pos hb]
      refine sx_cons (sx_assign (d := nums (fitStep word c ps)) G3 (ev_ite (b := !ps.isEmpty) (tr_cmp (M := _) (ev_local (d := nums ps) G3.fd rfl) (ev_list G3.fd.mok exl_nil (by decide)) (eqbs_nil' ▸ cp_nel .int (nums_ty ps) (hasTy_list.mpr fun x mx => nomatch mx) (by omega) (by decide))) (fun hn => ?_) (fun hn => ?_)) fun h4 G4 => sx_nil (sx_nil ⟨.inl rfl, G4.names⟩))
      · have hne : ps ≠ [] := by intro e; rw [e] at hn; cases hn
        obtain ⟨q, ps', rfl⟩ := List.exists_cons_of_ne_nil hne
        rw [e1, if_neg (by simp), ← nums_range]
        have hq := hok.1 q (.head _)
        refine ev_list_range X₁ G3.fd.mok (ex_range2 X₁ (ev_item (l := (q :: ps').map fun i : Nat => D.int (i : Int)) (d := .int (q : Int)) (ev_local (d := nums (q :: ps')) G3.fd rfl) (ev_int (i := 0)) (by decide) (by decide) rfl) (ev_bin G3.fd.mok (ev_len_str X₁ (ev_cell (d := .str word) G3.fd rfl) (by omega)) ev_int bin_add)) (by omega) ?_ (by omega) (by omega) ?_
        · show (q : Int) ≤ 2 ^ 20; omega
        · show _ - (q : Int) ≤ 2 ^ 20; omega
      · rw [e1, if_pos (by simpa using hn)]
        exact ev_list G3.fd.mok exl_nil (by decide)
    · intro hb h3 k3
      have G3 := G.grow k3
      have X₁ := (X₀.stays kb).stays G3.base
      have e1 : fitStep word c ps = (ps.filter fun k => decide (k < word.length) && (c == Str.ofString "?" || c == Txt.item word k)).map (· + 1) := by unfold fitStep; rw [if_neg (by rw [hb]; decide)]
      refine sx_cons (sx_comp_nums (p := fun k => decide (k < word.length) && (c == Str.ofString "?" || c == Txt.item word k)) (f := (· + 1)) (out := fitStep word c ps) G3 (by rfl) (ev_local (d := nums ps) G3.fd rfl) e1.symm ?_ ?_ (by omega) fun h4 G4 => sx_nil (sx_nil ⟨.inl rfl, G4.names⟩))
      · intro d hd M' C h4 k4 K
        have X₂ := X₁.stays k4
        have hck : ((d : Int) < (word.length : Int)) ↔ d < word.length := by omega
        have hdw := hok.1 d hd
        refine tests_one (tr_and2 (b := decide (d < word.length)) ?_ fun hb => ?_)
        · rw [show decide (d < word.length) = decide ((d : Int) < (word.length : Int)) by simp]
          exact tr_cmp (M := M') (ev_local (d := .int d) K rfl) (ev_len_str X₂ (ev_cell (d := .str word) K rfl) (by omega)) cp_lt
        · have hb : d < word.length := by simpa using hb
          have e2 : (c == Str.ofString "?" || c == Txt.item word d) = [D.str (Str.ofString "?"), D.str (Txt.item word d)].any (D.eqb · (.str c)) := by
            simp only [List.any_cons, List.any_nil, Bool.or_false]
            show _ = ((Str.ofString "?" == c) || (Txt.item word d == c))
            rw [Bool.beq_comm, Bool.beq_comm (a := c) (b := Txt.item word d)]
          rw [e2]
          refine tr_cmp (M := M') (ev_cell (d := .str c) K rfl) (ev_list K.mok (exl_cons ev_str (exl_cons (ev_char (ev_cell (d := .str word) K rfl) (ev_local (d := .int d) K rfl) (by omega) (by omega) (by omega)) exl_nil)) (by show 2 ≤ 2 ^ 24; decide)) (cp_inl .str (hasTy_list.mpr fun x mx => ?_) trivial (by omega) (by decide))
          rcases List.mem_cons.mp mx with rfl | mx
          · trivial
          · rw [List.mem_singleton.mp mx]; trivial
      · intro d hd M' C h4 hp k4 K
        exact ev_bin K.mok (ev_local (d := .int d) K rfl) ev_int bin_add
  · intro h2 G
    refine sx_cons (sx_return (P := fun v h' => Den (Y ++ M) h' (.bool (fits pat word)) v) ?_ fun v h3 k3 q => ⟨stays_trans G.base k3, ?_⟩)
    · unfold fits
      have e : (fitPlaces pat word pat.cps.size).contains word.length = ((fitPlaces pat word pat.cps.size).map fun i : Nat => D.int (i : Int)).any (D.eqb · (.int (word.length : Int))) := by
        rw [List.any_map, List.contains_eq_any_beq]
        congr 1
        funext i
        show (word.length == i) = ((i : Int) == (word.length : Int))
        rw [Bool.eq_iff_iff]; simp; omega
      rw [e]
      exact ev_cmp (ev_len_str (X₀.stays G.base) (ev_cell (d := .str word) G.fd rfl) (by omega)) (ev_local (d := nums _) G.fd rfl) (cp_inl .int (nums_ty _) trivial (by omega) (by decide))
    · exact q.kept .refl fun q m => .inl (List.mem_append_right _ m)
end Mine
end
section
open PySem PySem.W PySem.Calls PyProof.Rows
set_option maxRecDepth 100000
set_option maxHeartbeats 400000
namespace Mine
variable [Bd]
section
variable {w : World} {n : Nat} {fr : Option Addr} {env : Env} {M₀ X : List Addr} {h₀ h : Heap} {ρ : List (Str × D)} {σ : List (Addr × List D)} {pos px : Pos} {Q : Flow → Heap → Prop}

theorem sx_while {test : Expr} {body : List Stmt} (inv : Nat → Heap → Prop)
    (turn : ∀ k h', inv k h' → ∃ b, Tr w n env h' test b ∧ (b = true → ∀ h'', Stay h' h'' → Sx w n fr (execs body env) h'' (fun f h₃ => match f with | .next | .cont => ∃ m, m < k ∧ inv m h₃ | .brk => Q .next h₃ | .ret v => Q (.ret v) h₃)) ∧ (b = false → ∀ h'', Stay h' h'' → Q .next h''))
    (k : Nat) (h0 : inv k h) : Sx w n fr (exec (.While test body [] pos) env) h Q := fun A s a hf eh => by
  refine wpAny_While (codeAny_whileLoop (fun k s' => ∃ H tk, s' = { s with heap := H, toks := tk } ∧ AOk n A H ∧ inv k H) ?_ k ⟨s.heap, s.toks, rfl, a, eh ▸ h0⟩)
  rintro k s' ⟨H, tk, rfl, aH, hI⟩
  obtain ⟨b, ht, hy, hn⟩ := turn k H hI
  refine ht.run aH (stays_refl _) fun v h1 t1 k1 a1 p1 => ?_
  subst p1
  cases v with
  | true =>
    refine (hy rfl h1 k1).run a1 hf rfl fun f h2 t2 a2 q => ?_
    cases f with
    | next => obtain ⟨m, hm, hi⟩ := q; exact ⟨m, hm, h2, t2, rfl, a2, hi⟩
    | cont => obtain ⟨m, hm, hi⟩ := q; exact ⟨m, hm, h2, t2, rfl, a2, hi⟩
    | brk => exact ⟨h2, t2, rfl, a2, q⟩
    | ret v => exact ⟨h2, t2, rfl, a2, q⟩
  | false => exact wpAny_execs_nil ⟨h1, t1, rfl, a1, hn rfl h1 k1⟩

noncomputable def TupV (M : List Addr) (h : Heap) (ds : List D) (v : Value) : Prop := ∃ t vs, v = .ref t ∧ IsTup h t (List.toArray vs) ∧ Dens M h ds vs
theorem ex_tuple {M : List Addr} {es : List Expr} {ds : List D} {k : Nat} {tp : Pos} (x : ExL w n env M h tp es ds) (hs : ds.length ≤ 2 ^ 20) : Ex w n h (eval (.Tuple es k tp) env) (fun v h' => TupV M h' ds v) := fun A s a k =>
  wpAny_Tuple (x.run a k fun vs h1 t1 k1 a1 p1 => by
    have hl := p1.length
    refine ⟨by unfold sizeLine; omega, Then.mk (stays_trans k1 (push_stays _ _)) ⟨_, vs, rfl, ⟨_, Heap.get?_push_size _ rfl, rfl, _, rfl⟩, p1.stays (push_stays _ _)⟩⟩)

noncomputable def nameOf : Expr → Option Str
  | .Name x _ => some x
  | _ => none
noncomputable def okName (env : Env) (y : Str) : Bool := (env.kindOf y == some .local) || ((env.kindOf y == some .cell) && (env.cells.lookup y).isSome)
theorem okName_of {y : Str} (h : okName env y = true) : env.kindOf y = some .local ∨ (env.kindOf y = some .cell ∧ (env.cells.lookup y).isSome = true) := by
  unfold okName at h
  simp only [Bool.or_eq_true, Bool.and_eq_true, beq_iff_eq] at h
  exact h
noncomputable def zipOn : List Str → List D → List (Str × D) → List (Str × D)
  | x :: xs, d :: ds, ρ => zipOn xs ds ((x, d) :: ρ)
  | _, _, ρ => ρ
inductive Tgts (w : World) (env : Env) : List Str → List (Value → Sem Unit) → Prop
  | nil : Tgts w env [] []
  | cons {x : Str} {t : Value → Sem Unit} {xs : List Str} {ts : List (Value → Sem Unit)} : (∀ (A : Around) (v : Value) (s : Shared) (Q : Unit → Shared → Prop) (E : Value → Shared → Prop), wpAny (model prog w) A (storeName env x v) Q E s → wpAny (model prog w) A (t v) Q E s) → Tgts w env xs ts → Tgts w env (x :: xs) (t :: ts)
theorem store_all {A : Around} {E : Value → Shared → Prop} {Qf : Unit → Shared → Prop} {xs : List Str} {ts : List (Value → Sem Unit)} (tg : Tgts w env xs ts) :
    ∀ (ds : List D) (vs : List Value) (ρ : List (Str × D)) (s : Shared), AOk n A s.heap → FS env M₀ X h₀ s.heap ρ σ → Dens (X ++ M₀) s.heap ds vs → xs.length = ds.length → (∀ x ∈ xs, okName env x = true) →
      (∀ h' tk, AOk n A h' → FS env M₀ X h₀ h' (zipOn xs ds ρ) σ → Qf () { s with heap := h', toks := tk }) → wpAny (model prog w) A (assignInOrder ts vs) Qf E s := by
  induction tg with
  | nil =>
    intro ds vs ρ s a F dv hl hx H
    cases ds with
    | nil =>
      simp only [Dens] at dv; subst dv
      exact assignInOrder_nil (H s.heap s.toks a F)
    | cons d ds => cases hl
  | cons ht tg ih =>
    intro ds vs ρ s a F dv hl hx H
    cases ds with
    | nil => cases hl
    | cons d ds =>
      simp only [Dens] at dv
      obtain ⟨v, vr, rfl, hv, dv⟩ := dv
      refine assignInOrder_cons (ht A v s _ _ (F.store a hv (okName_of (hx _ (.head _))) fun h' tk a' F' kX => ?_))
      refine ih ds vr _ _ a' F' (dv.keep fun b o n e => .of (kX b o (fun q => n (List.mem_append_left _ q)) e)) (by simpa using hl) (fun y m => hx y (.tail _ m)) fun h'' tk' a'' F'' => ?_
      exact H h'' tk' a'' F''
theorem assignEach_names : ∀ {elts : List Expr} {xs : List Str}, elts.map nameOf = xs.map some → Tgts w env xs ((assignEach elts env).map (·.2)) ∧ (assignEach elts env).length = xs.length ∧ (assignEach elts env).findIdx? (·.1) = none := by
  intro elts
  induction elts with
  | nil =>
    intro xs h
    cases xs with
    | nil => exact ⟨.nil, rfl, rfl⟩
    | cons x xs => cases h
  | cons e elts ih =>
    intro xs h
    cases xs with
    | nil => cases h
    | cons x xs =>
      rw [List.map_cons, List.map_cons] at h
      injection h with h1 h2
      obtain ⟨i1, i2, i3⟩ := ih h2
      cases e with
      | Name y p =>
        have hy : y = x := by injection h1
        subst hy
        have e0 : assignEach (.Name y p :: elts) env = (false, assign (.Name y p) env) :: assignEach elts env := rfl
        rw [e0]
        refine ⟨?_, by simp [i2], ?_⟩
        · rw [List.map_cons]; exact .cons (fun A v s Q E h => assign_Name h) i1
        · rw [List.findIdx?_cons]; simp [i3]
      | _ => cases h1
theorem sx_tuple {elts es : List Expr} {xs : List Str} {ds : List D} {k k' : Nat} {tp tp' : Pos} (F : FS env M₀ X h₀ h ρ σ) (x : ExL w n env (X ++ M₀) h tp' es ds) (hxs : elts.map nameOf = xs.map some) (hlen : xs.length = ds.length) (hok : (xs.all fun y => okName env y) = true)
    (H : ∀ h', FS env M₀ X h₀ h' (zipOn xs ds ρ) σ → Q .next h') (hsz : ds.length ≤ 2 ^ 20)
    (hs : swapsWithSole [.Tuple elts k tp] (.Tuple es k' tp') pos.line env = pure false := by rfl) (hw : swappedStores [.Tuple elts k tp] (.Tuple es k' tp') env = pure none := by rfl) :
    Sx w n fr (exec (.Assign [.Tuple elts k tp] (.Tuple es k' tp') pos) env) h Q := fun A s a hf eh => by
  refine Assign_Tuple ((ex_tuple x hsz).run a (eh ▸ stays_refl _) fun v h1 t1 k1 a1 ⟨t, vs, e, ht, dv⟩ => ?_) hs hw
  subst e
  have hlv := dv.length
  obtain ⟨e1, e2, e3⟩ := assignEach_names (w := w) (env := env) hxs
  refine assign_Tuple_tuple a1.handled ht (by rw [e2]; simp; omega) e3 fun h2 hx => ?_
  have k2 : Stay h1 h2 := .of fun b o e => hx b o (ne_of_get e (none_of_le (Nat.le_refl _))) e
  exact store_all e1 ds vs ρ _ (a1.up k2) (((eh ▸ F).grow k1).grow k2) (dv.stays k2) hlen (fun x m => List.all_eq_true.mp hok x m) fun h3 t3 a3 F3 => ⟨h3, t3, rfl, a3, H h3 F3⟩
theorem tgts_names : ∀ (xs : List Str), Tgts w env xs (xs.map fun n => bindName env n)
  | [] => .nil
  | x :: xs => .cons (fun A v s Q E h => bindName_ h) (tgts_names xs)
/-- two or three local names: the stores go backwards -/
theorem sx_tuple_sw {elts es : List Expr} {xs : List Str} {ds : List D} {k k' : Nat} {tp tp' : Pos} (F : FS env M₀ X h₀ h ρ σ) (x : ExL w n env (X ++ M₀) h tp' es ds) (hlen : xs.length = ds.length) (hok : (xs.all fun y => okName env y) = true)
    (H : ∀ h', FS env M₀ X h₀ h' (zipOn xs.reverse ds.reverse ρ) σ → Q .next h') (hsz : ds.length ≤ 2 ^ 20)
    (hw : swappedStores [.Tuple elts k tp] (.Tuple es k' tp') env = pure (some xs)) (hs : swapsWithSole [.Tuple elts k tp] (.Tuple es k' tp') pos.line env = pure false := by rfl) :
    Sx w n fr (exec (.Assign [.Tuple elts k tp] (.Tuple es k' tp') pos) env) h Q := fun A s a hf eh => by
  refine Assign_Tuple_swapped ((ex_tuple x hsz).run a (eh ▸ stays_refl _) fun v h1 t1 k1 a1 ⟨t, vs, e, ht, dv⟩ => ?_) hs hw
  subst e
  have hlv := dv.length
  have hz : xs.length = vs.toArray.size := by simp; omega
  rw [hz]
  refine unpackItems_tuple a1.handled ht fun h2 hx => ?_
  have k2 : Stay h1 h2 := .of fun b o e => hx b o (ne_of_get e (none_of_le (Nat.le_refl _))) e
  exact store_all (tgts_names xs.reverse) ds.reverse vs.reverse ρ _ (a1.up k2) (((eh ▸ F).grow k1).grow k2) (dv.stays k2).reverse (by simpa using hlen) (fun x m => List.all_eq_true.mp hok x (List.mem_reverse.mp m)) fun h3 t3 a3 F3 => ⟨h3, t3, rfl, a3, H h3 F3⟩
end
end Mine
end
section
open PySem PySem.W PySem.Calls PyProof.Rows
set_option maxRecDepth 100000
set_option maxHeartbeats 400000
namespace Mine
variable [Bd]
section
variable {w : World} {n : Nat} {env : Env} {M : List Addr} {h : Heap} {o : Expr} {apos pos : Pos}
theorem ev_isalnum {y : Str} (x : Ev w n env M h o (.str y)) (hbase : attributeBase o "isalnum" env (eval o env) = eval o env := by rfl) (hline : (apos.endLine == pos.line) = true := by rfl) :
    Ev w n env M h (.Call (.Attribute o "isalnum" apos) [] [] pos) (.bool (Txt.isalnum y)) := fun A s a k => by
  refine wpAny_Call_method hbase rfl hline PySem.F.plainAttrs_str PySem.F.slot_str_isalnum PySem.F.type_str_isalnum ?_
  refine x.run a k fun v h1 t1 k1 a p1 => ?_
  simp only [Den] at p1
  obtain ⟨t, rfl⟩ := p1
  refine ⟨typeIs_str _ _ _, (by intro a e; cases e), ?_⟩
  refine Calls.callWith_builtin rfl (evalArgs_nil3 ?_)
  exact SC.isalnum (Then.mk k1 Den.bool')
end

noncomputable abbrev FS.envOf {env : Env} {M₀ X : List Addr} {h₀ h : Heap} {ρ : List (Str × D)} {σ : List (Addr × List D)} (F : FS env M₀ X h₀ h ρ σ) : Env := env
theorem sx_retD {w : World} {n : Nat} {fr : Option Addr} {env : Env} {M₀ X : List Addr} {h₀ h : Heap} {ρ : List (Str × D)} {σ : List (Addr × List D)} {pos : Pos} {Q : Flow → Heap → Prop} {e : Expr} {d : D} (F : FS env M₀ X h₀ h ρ σ) (x : Ev w n env (X ++ M₀) h e d)
    (H : ∀ v h', Stay h₀ h' → Den M₀ h' d v → Q (.ret v) h') : Sx w n fr (exec (.Return (some e) pos) env) h Q :=
  sx_return x fun v h3 k3 q => H v h3 (stays_trans F.base k3) (q.kept .refl fun q m => .inl (List.mem_append_right _ m))

theorem sx_via {w : World} {n : Nat} {fr : Option Addr} {env : Env} {h : Heap} {Q P : Flow → Heap → Prop} {st : Stmt} {rest : List Stmt} (x : Sx w n fr (exec st env) h P)
    (H : ∀ f h', P f h' → match f with | .next => Sx w n fr (execs rest env) h' Q | f => Q f h') : Sx w n fr (execs (st :: rest) env) h Q :=
  sx_cons (x.mono fun f h' p => by have := H f h' p; cases f <;> exact this)

noncomputable def rng (ps : List Nat) (word : Str) : List Nat := (List.range (word.length + 1 - ps.headD 0)).map (ps.headD 0 + ·)
noncomputable def tkSpecial (c behind : Str) : Bool := (!(Builtin.Str.occurrences (Str.ofString "()[]{}?*+|^$") c 0 (Str.ofString "()[]{}?*+|^$").length 1).isEmpty) || ((c == Str.ofString "\\") && ((behind == Str.ofString "") || Txt.isalnum behind))
noncomputable def tkStep (inner word : Str) (ps : List Nat) (k deep : Nat) : Option (List Nat × Nat × Nat) :=
  if Txt.slice inner (some (k : Int)) (some ((k : Int) + 6)) == Str.ofString "(?>.*?" && (deep : Int) == 0 then some (rng ps word, k + 6, 1)
  else if Txt.item inner k == Str.ofString ")" && (deep : Int) == 1 then some (ps.take 1, k + 1, 0)
  else if Txt.item inner k ++ Txt.slice inner (some ((k : Int) + 1)) (some ((k : Int) + 2)) == Str.ofString ".*" && (deep : Int) == 0 then some (rng ps word, k + 2, 2)
  else if tkSpecial (Txt.item inner k) (Txt.slice inner (some ((k : Int) + 1)) (some ((k : Int) + 2))) then none
  else some ((ps.filter fun p => decide (p < word.length) && (Txt.item inner k == Str.ofString "." || Txt.item word p == Txt.item inner ((k : Int) + ((if Txt.item inner k == Str.ofString "\\" then 2 else 1 : Nat) : Int) - 1))).map (· + 1), k + (if Txt.item inner k == Str.ofString "\\" then 2 else 1), deep)
noncomputable def tkRun (inner word : Str) : Nat → List Nat → Nat → Nat → Option (List Nat × Nat)
  | 0, ps, _, deep => some (ps, deep)
  | f + 1, ps, k, deep => if decide (k < inner.length) && !ps.isEmpty then (match tkStep inner word ps k deep with
      | none => none
      | some (ps', k', deep') => tkRun inner word f ps' k' deep') else some (ps, deep)
noncomputable def tkEnd (word : Str) : Option (List Nat × Nat) → Bool
  | none => false
  | some (ps, deep) => ((deep : Int) != 1) && ps.contains word.length
noncomputable def takes (text word : Str) : Bool :=
  let inner := Txt.slice text (some 4) (some (-3))
  if text != Str.ofString "(?s:" ++ inner ++ Str.ofString ")\\Z" then false else
  tkEnd word (tkRun inner word inner.length [0] 0 0)

noncomputable def PsOk (word : Str) (ps : List Nat) : Prop := (∀ p ∈ ps, p ≤ word.length) ∧ ps.length ≤ word.length + 1
theorem rng_ok {ps word} : PsOk word (rng ps word) := by
  refine ⟨fun p m => ?_, by unfold rng; rw [List.length_map, List.length_range]; omega⟩
  obtain ⟨i, hi, rfl⟩ := List.mem_map.mp m
  have := List.mem_range.mp hi
  omega
theorem slice_len_le (x : Str) (l u : Option Int) : (Txt.slice x l u).length ≤ x.length := Txt.slice_le x l u
end Mine
end
section
open PySem PySem.W PySem.Calls PyProof.Rows
set_option maxRecDepth 100000
set_option maxHeartbeats 400000
namespace Mine
variable [Bd]

theorem slice_past {x : Str} {a b : Int} {k : Nat} (hk : k < x.length) (ha : (x.length : Int) ≤ a) (hb : (x.length : Int) ≤ b) : Txt.slice x (some a) (some b) = Str.ofString "" := by
  have e : Builtin.Str.strSliceIndices (some a) (some b) 1 x.length = [] := by
    unfold Builtin.Str.strSliceIndices sliceRange
    have h1 : ¬ a < 0 := by omega
    have h2 : ¬ b < 0 := by omega
    have h3 : max 0 (min a (x.length : Int)) = x.length := by omega
    have h4 : max 0 (min b (x.length : Int)) = x.length := by omega
    simp only [show (1 : Int) > 0 by decide, if_true, h1, h2, if_false, h3, h4, Int.lt_irrefl]
    rfl
  unfold Txt.slice
  rw [e]
  have : ((1 : Int) == 1 && ([] : List Nat).length == x.length) = false := by
    simp; omega
  rw [if_neg (by rw [this]; decide)]
  rfl

noncomputable def tkρ (ps : List Nat) (k deep : Nat) (inner text word : Str) : List (Str × D) :=
  [(Str.ofString "places", nums ps), (Str.ofString "k", .int (k : Int)), (Str.ofString "deep", .int (deep : Int)), (Str.ofString "inner", .str inner), (Str.ofString "text", .str text), (Str.ofString "word", .str word)]

theorem spec_takes {w : World} {n : Nat} {M : List Addr} {h : Heap} {text word : Str} {v v₂ : Value} (X : TR w h) (hM : MOk M h) (hv : Den M h (.str text) v) (hv₂ : Den M h (.str word) v₂) (hword : word.length ≤ 2 ^ 10) (htext : text.length ≤ 2 ^ 10) (hn : 4 ≤ n) :
    Cx w n h (.call (.ref 109) ⟨[v, v₂], []⟩) (fun u h' => Den M h' (.bool (takes text word)) u) := by
  obtain ⟨m, rfl⟩ : ∃ m, n = m + 1 := ⟨n - 1, by omega⟩
  refine cx_def (ρ := [(Str.ofString "text", .str text), (Str.ofString "word", .str word)]) X hM (by with_unfolding_all rfl) (by with_unfolding_all rfl) (fun s k => .of_eq rfl) (.cons hv (.cons hv₂ .nil)) (by rfl) fun L Y h₀ h' k F => ?_
  have X₀ := X.stays k
  unfold takes
  generalize hinner : Txt.slice text (some 4) (some (-3)) = inner
  have hil : inner.length ≤ 2 ^ 10 := by rw [← hinner]; exact Nat.le_trans (slice_len_le _ _ _) htext
  refine sx_cons (sx_tuple (xs := [Str.ofString "inner", Str.ofString "places", Str.ofString "k", Str.ofString "deep"]) (ds := [.str inner, nums [0], .int 0, .int 0]) F
    (exl_cons (hinner ▸ ev_slice_str (ev_local (d := .str text) F.fd rfl) (pt_some ev_int) (pt_some (ev_neg ev_int)) (by omega)) (exl_cons (ev_list F.fd.mok (exl_cons ev_int exl_nil) (by show 1 ≤ 2 ^ 24; decide)) (exl_cons ev_int (exl_cons ev_int exl_nil)))) rfl rfl rfl (fun h1 F1 => ?_) (by show 4 ≤ 2 ^ 20; decide))
  refine sx_cons (sx_if (b := text != Str.ofString "(?s:" ++ inner ++ Str.ofString ")\\Z") (tr_cmp (M := []) (ev_local (d := .str text) F1.fd.nil rfl) (ev_bin MOk.nil (ev_bin MOk.nil ev_str (ev_cell (d := .str inner) F1.fd.nil rfl) (bin_cat ?_)) ev_str (bin_cat ?_)) cp_nes) ?_ ?_)
  · show 4 + _ ≤ _; unfold sizeLine; omega
  · show (Str.ofString "(?s:" ++ inner).length + 3 ≤ _
    rw [Str.length_append]
    show 4 + _ + 3 ≤ _
    unfold sizeLine; omega
  · intro hb h2 k2
    rw [if_pos hb]
    exact sx_cons (sx_retD (F1.grow k2) ev_bool fun v h3 k3 q => ⟨k3, q⟩)
  · intro hb h2 k2
    rw [if_neg (by rw [hb]; decide)]
    refine sx_nil ?_
    have F2 := (F1.grow k2).names (ρ' := tkρ [0] 0 0 inner text word)
    generalize hgoal : tkEnd word (tkRun inner word inner.length [0] 0 0) = goal
    refine sx_cons (sx_while (fun j H => ∃ f ps k deep, tkRun inner word f ps k deep = tkRun inner word inner.length [0] 0 0 ∧ inner.length ≤ k + f ∧ j = f ∧ PsOk word ps ∧ k ≤ 2 ^ 11 ∧ FS _ M Y h₀ H (tkρ ps k deep inner text word) []) ?_ inner.length ⟨inner.length, [0], 0, 0, rfl, by omega, rfl, ⟨(fun p m => by rw [List.mem_singleton.mp m]; exact Nat.zero_le _), by show 1 ≤ _; omega⟩, by decide, F2⟩)
    rintro j H ⟨f, ps, k, deep, hrun, hf, rfl, hps, hk, G⟩
    refine ⟨decide (k < inner.length) && !ps.isEmpty, tr_and2 ?_ fun _ => ?_, fun hb' h3 k3 => ?_, fun hb' h3 k3 => ?_⟩
    · rw [show decide (k < inner.length) = decide ((k : Int) < (inner.length : Int)) by simp]
      exact tr_cmp (M := []) (ev_cell (d := .int k) G.fd.nil rfl) (ev_len_str (X₀.stays G.base) (ev_cell (d := .str inner) G.fd.nil rfl) (by omega)) cp_lt
    · exact tr_cmp (M := _) (ev_local (d := nums ps) G.fd rfl) (ev_list G.fd.mok exl_nil (by decide)) (eqbs_nil' ▸ cp_nel .int (nums_ty ps) (hasTy_list.mpr fun x mx => nomatch mx) (by omega) (by decide))
    · have hkl : k < inner.length := by simp only [Bool.and_eq_true, decide_eq_true_eq] at hb'; exact hb'.1
      have hne : ps.isEmpty = false := by simp only [Bool.and_eq_true, Bool.not_eq_true'] at hb'; exact hb'.2
      obtain ⟨f, rfl⟩ : ∃ f', j = f' + 1 := ⟨j - 1, by omega⟩
      have hrun' : (match tkStep inner word ps k deep with | none => none | some (ps', k', deep') => tkRun inner word f ps' k' deep') = tkRun inner word inner.length [0] 0 0 := by
        rw [← hrun]; show _ = if _ then _ else _; rw [if_pos hb'] <;> rfl
      have G3 := G.grow k3
      have X₁ := X₀.stays G3.base
      refine sx_cons (sx_tuple (xs := [Str.ofString "step", Str.ofString "behind"]) (ds := [.int 1, .str (Txt.slice inner (some ((k : Int) + 1)) (some ((k : Int) + 2)))]) G3
        (exl_cons ev_int (exl_cons (ev_slice_str (ev_cell (d := .str inner) G3.fd rfl) (pt_some (ev_bin MOk.nil (ev_cell (d := .int k) G3.fd.nil rfl) ev_int bin_add)) (pt_some (ev_bin MOk.nil (ev_cell (d := .int k) G3.fd.nil rfl) ev_int bin_add)) (by omega)) exl_nil)) rfl rfl rfl (fun h4 F4 => ?_) (by show 2 ≤ 2 ^ 20; decide))
      generalize hbh : Txt.slice inner (some ((k : Int) + 1)) (some ((k : Int) + 2)) = bh at F4
      have hbl : bh.length ≤ 2 ^ 10 := by rw [← hbh]; exact Nat.le_trans (slice_len_le _ _ _) hil
      refine sx_via (P := fun fl H => (fl = .next ∧ ∃ ps' s deep', FS F.envOf M Y h₀ H ((Str.ofString "step", .int ((s : Nat) : Int)) :: tkρ ps' k deep' inner text word) [] ∧ tkStep inner word ps k deep = some (ps', k + s, deep') ∧ PsOk word ps' ∧ 1 ≤ s ∧ s ≤ 6) ∨ (∃ v, fl = .ret v ∧ tkStep inner word ps k deep = none ∧ Stay h₀ H ∧ Den M H (.bool false) v)) ?_ ?_
      · have hk0 : (0 : Int) ≤ (k : Int) := by omega
        have hkl' : (k : Int) < (inner.length : Int) := by omega
        have hil24 : inner.length < 2 ^ 24 := by omega
        have c1 : ∀ {H ρ'} {p q pos}, FS F.envOf M Y h₀ H ρ' [] → ρ'.lookup (Str.ofString "inner") = some (.str inner) → ρ'.lookup (Str.ofString "k") = some (.int (k : Int)) → Ev w m F.envOf [] H (.Subscript (.Name (Str.ofString "inner") p) (.Name (Str.ofString "k") q) pos) (.str (Txt.item inner k)) :=
          fun G e1 e2 => ev_char (ev_cell (d := .str inner) G.fd.nil e1) (ev_cell (d := .int k) G.fd.nil e2) hk0 hkl' hil24
        have hrng : ∀ (H : Heap) (ρ' : List (Str × D)) (p1 p2 p3 p4 p5 p6 p7 p8 p9 p10 p11 p12 : Pos), FS F.envOf M Y h₀ H ρ' [] → ρ'.lookup (Str.ofString "places") = some (nums ps) → ρ'.lookup (Str.ofString "word") = some (.str word) →
            Ev w m F.envOf (Y ++ M) H (.Call (.Name (Str.ofString "list") p1) [.Call (.Name (Str.ofString "range") p2) [.Subscript (.Name (Str.ofString "places") p3) (.Constant (.int 0) 0 p4) p5, .BinOp (.Call (.Name (Str.ofString "len") p6) [.Name (Str.ofString "word") p7] [] p8) .Add (.Constant (.int 1) 0 p9) p10] [] p11] [] p12) (nums (rng ps word)) := by
          intro HH ρ' p1 p2 p3 p4 p5 p6 p7 p8 p9 p10 p11 p12 GG e1 e2
          have hne' : ps ≠ [] := by intro e; rw [e] at hne; cases hne
          obtain ⟨q, ps', rfl⟩ := List.exists_cons_of_ne_nil hne'
          have hq := hps.1 q (.head _)
          have X₂ := X₀.stays GG.base
          unfold rng
          rw [← nums_range]
          refine ev_list_range X₂ GG.fd.mok (ex_range2 X₂ (ev_item (l := (q :: ps').map fun i : Nat => D.int (i : Int)) (d := .int (q : Int)) (ev_local (d := nums (q :: ps')) GG.fd e1) (ev_int (i := 0)) (by decide) (by decide) rfl) (ev_bin GG.fd.mok (ev_len_str X₂ (ev_cell (d := .str word) GG.fd e2) (by omega)) ev_int bin_add)) (by omega) ?_ (by omega) (by omega) ?_
          · show (q : Int) ≤ 2 ^ 20; omega
          · show _ - (q : Int) ≤ 2 ^ 20; omega
        refine sx_if (b := Txt.slice inner (some (k : Int)) (some ((k : Int) + 6)) == Str.ofString "(?>.*?" && (deep : Int) == 0)
          (tr_and2 (tr_cmp (M := []) (ev_slice_str (ev_cell (d := .str inner) F4.fd.nil rfl) (pt_some (ev_cell (d := .int k) F4.fd.nil rfl)) (pt_some (ev_bin MOk.nil (ev_cell (d := .int k) F4.fd.nil rfl) ev_int bin_add)) hil24) ev_str cp_eqs)
            fun _ => tr_cmp (M := []) (ev_local (d := .int deep) F4.fd.nil rfl) ev_int cp_eqi) ?_ ?_
        · intro hb h5 k5
          have G5 := F4.grow k5
          have e : tkStep inner word ps k deep = some (rng ps word, k + 6, 1) := by unfold tkStep; rw [if_pos hb]
          exact sx_cons (sx_tuple (xs := [Str.ofString "places", Str.ofString "step", Str.ofString "deep"]) (ds := [nums (rng ps word), .int 6, .int 1]) G5 (exl_cons (hrng _ _ _ _ _ _ _ _ _ _ _ _ _ _ G5 rfl rfl) (exl_cons ev_int (exl_cons ev_int exl_nil))) rfl rfl rfl
            (fun h6 F6 => sx_nil (.inl ⟨rfl, rng ps word, 6, 1, F6.names, e, rng_ok, by decide, by decide⟩)) (by show 3 ≤ 2 ^ 20; decide))
        · intro hb1 h5 k5
          have G5 := F4.grow k5
          refine sx_cons (sx_if (b := Txt.item inner k == Str.ofString ")" && (deep : Int) == 1)
            (tr_and2 (tr_cmp (M := []) (c1 G5 rfl rfl) ev_str cp_eqs) fun _ => tr_cmp (M := []) (ev_local (d := .int deep) G5.fd.nil rfl) ev_int cp_eqi) ?_ ?_)
          · intro hb h6 k6
            have G6 := G5.grow k6
            have e : tkStep inner word ps k deep = some (ps.take 1, k + 1, 0) := by unfold tkStep; rw [if_neg (by rw [hb1]; decide), if_pos hb]
            have ht : PsOk word (ps.take 1) := ⟨fun p m => hps.1 p (List.mem_of_mem_take m), by rw [List.length_take]; have := hps.2; omega⟩
            refine sx_cons (sx_tuple_sw (xs := [Str.ofString "places", Str.ofString "deep"]) (ds := [nums (ps.take 1), .int 0]) G6 (exl_cons (by unfold nums; rw [List.map_take, ← pickD_take]; exact ev_slice_list (l := none) (u := some ((1 : Nat) : Int)) (t := none) G6.fd.mok (ev_local (d := nums ps) G6.fd rfl) pt_none (pt_some ev_int) pt_none (by simp) (by rw [List.length_map]; have := hps.2; omega)) (exl_cons ev_int exl_nil)) rfl rfl
              (fun h7 F7 => sx_nil (sx_nil (.inl ⟨rfl, ps.take 1, 1, 0, F7.names, e, ht, by decide, by decide⟩))) (by show 2 ≤ 2 ^ 20; decide) (by rfl))
          · intro hb2 h6 k6
            have G6 := G5.grow k6
            refine sx_cons (sx_if (b := Txt.item inner k ++ bh == Str.ofString ".*" && (deep : Int) == 0)
              (tr_and2 (tr_cmp (M := []) (ev_bin MOk.nil (c1 G6 rfl rfl) (ev_local (d := .str bh) G6.fd.nil rfl) (bin_cat (by show 1 + _ ≤ _; unfold sizeLine; omega))) ev_str cp_eqs) fun _ => tr_cmp (M := []) (ev_local (d := .int deep) G6.fd.nil rfl) ev_int cp_eqi) ?_ ?_)
            · intro hb h7 k7
              have G7 := G6.grow k7
              have e : tkStep inner word ps k deep = some (rng ps word, k + 2, 2) := by unfold tkStep; rw [if_neg (by rw [hb1]; decide), if_neg (by rw [hb2]; decide), hbh, if_pos hb]
              exact sx_cons (sx_tuple (xs := [Str.ofString "places", Str.ofString "step", Str.ofString "deep"]) (ds := [nums (rng ps word), .int 2, .int 2]) G7 (exl_cons (hrng _ _ _ _ _ _ _ _ _ _ _ _ _ _ G7 rfl rfl) (exl_cons ev_int (exl_cons ev_int exl_nil))) rfl rfl rfl
                (fun h8 F8 => sx_nil (sx_nil (sx_nil (.inl ⟨rfl, rng ps word, 2, 2, F8.names, e, rng_ok, by decide, by decide⟩)))) (by show 3 ≤ 2 ^ 20; decide))
            · intro hb3 h7 k7
              have G7 := G6.grow k7
              refine sx_cons (sx_if (b := tkSpecial (Txt.item inner k) bh)
                (tr_or2 (tr_cmp (M := []) (c1 G7 rfl rfl) ev_str cp_ins) fun _ => tr_and2 (tr_cmp (M := []) (c1 G7 rfl rfl) ev_str cp_eqs) fun _ => tr_or2 (tr_cmp (M := []) (ev_local (d := .str bh) G7.fd.nil rfl) ev_str cp_eqs) fun _ => tr_plain (ev_isalnum (ev_local (d := .str bh) G7.fd.nil rfl)) rfl) ?_ ?_)
              · intro hb h8 k8
                have G8 := G7.grow k8
                have e : tkStep inner word ps k deep = none := by unfold tkStep; rw [if_neg (by rw [hb1]; decide), if_neg (by rw [hb2]; decide), hbh, if_neg (by rw [hb3]; decide), if_pos hb]
                exact sx_cons (sx_retD G8 ev_bool fun v h9 k9 q => .inr ⟨v, rfl, e, k9, q⟩)
              · intro hb4 h8 k8
                have G8 := G7.grow k8
                generalize hst : (if Txt.item inner k == Str.ofString "\\" then 2 else 1 : Nat) = st
                have e : tkStep inner word ps k deep = some ((ps.filter fun p => decide (p < word.length) && (Txt.item inner k == Str.ofString "." || Txt.item word p == Txt.item inner ((k : Int) + (st : Nat) - 1))).map (· + 1), k + st, deep) := by
                  unfold tkStep
                  rw [if_neg (by rw [hb1]; decide), if_neg (by rw [hb2]; decide), hbh, if_neg (by rw [hb3]; decide), if_neg (by rw [hb4]; decide), hst]
                have hst12 : st = 1 ∨ st = 2 := by rw [← hst]; split <;> simp
                have hin : k + st - 1 < inner.length := by
                  rcases hst12 with rfl | rfl
                  · omega
                  · have hc : (Txt.item inner k == Str.ofString "\\") = true := by
                      by_cases hc : (Txt.item inner k == Str.ofString "\\") = true
                      · exact hc
                      · rw [if_neg hc] at hst; cases hst
                    by_cases hlt : k + 1 < inner.length
                    · omega
                    · exfalso
                      rw [slice_past hkl (by omega) (by omega)] at hbh
                      subst hbh
                      unfold tkSpecial at hb4
                      rw [hc] at hb4
                      simp at hb4
                refine sx_cons (sx_assign (d := .int ((st : Nat) : Int)) G8 (ev_ite (b := Txt.item inner k == Str.ofString "\\") (tr_cmp (M := []) (c1 G8 rfl rfl) ev_str cp_eqs) (fun hc => by rw [if_pos hc] at hst; subst hst; exact ev_int) (fun hc => by rw [if_neg (by rw [hc]; decide)] at hst; subst hst; exact ev_int)) fun h9 G9 => ?_)
                refine sx_cons (sx_comp_nums (out := (ps.filter fun p => decide (p < word.length) && (Txt.item inner k == Str.ofString "." || Txt.item word p == Txt.item inner ((k : Int) + (st : Nat) - 1))).map (· + 1)) (p := fun p => decide (p < word.length) && (Txt.item inner k == Str.ofString "." || Txt.item word p == Txt.item inner ((k : Int) + (st : Nat) - 1))) (f := (· + 1)) G9 (by rfl) (ev_local (d := nums ps) G9.fd rfl) rfl ?_ ?_ (by have := hps.2; omega)
                  fun h10 G10 => sx_nil (sx_nil (sx_nil (sx_nil (.inl ⟨rfl, _, st, deep, G10.names, e, ?_, by omega, by omega⟩)))))
                · intro d hd M' C h11 k11 K
                  have hdw := hps.1 d hd
                  refine tests_one (tr_and2 (b := decide (d < word.length)) ?_ fun hb => ?_)
                  · rw [show decide (d < word.length) = decide ((d : Int) < (word.length : Int)) by simp]
                    exact tr_cmp (M := M') (ev_local (d := .int d) K rfl) (ev_len_str ((X₀.stays G9.base).stays k11) (ev_cell (d := .str word) K rfl) (by omega)) cp_lt
                  · have hb : d < word.length := by simpa using hb
                    refine tr_or2 (tr_cmp (M := M') (ev_char (ev_cell (d := .str inner) K rfl) (ev_cell (d := .int k) K rfl) hk0 hkl' hil24) ev_str cp_eqs) fun _ => tr_cmp (M := M') (ev_char (ev_cell (d := .str word) K rfl) (ev_local (d := .int d) K rfl) (by omega) (by omega) (by omega))
                      (ev_char (ev_cell (d := .str inner) K rfl) (ev_bin K.mok (ev_bin K.mok (ev_cell (d := .int k) K rfl) (ev_cell (d := .int st) K rfl) bin_add) ev_int bin_sub) (by omega) (by omega) hil24) cp_eqs
                · intro d hd M' C h11 hp k11 K
                  exact ev_bin K.mok (ev_local (d := .int d) K rfl) ev_int bin_add
                · refine ⟨fun p mp => ?_, by rw [List.length_map]; exact Nat.le_trans (List.length_filter_le _ _) hps.2⟩
                  obtain ⟨i, hi, rfl⟩ := List.mem_map.mp mp
                  have := (List.mem_filter.mp hi).2
                  simp only [Bool.and_eq_true, decide_eq_true_eq] at this
                  omega
      · rintro fl H5 (⟨rfl, ps', s, deep', G5, hstep, hok5, hs1, hs6⟩ | ⟨v, rfl, hstep, k5, hv5⟩)
        · rw [hstep] at hrun'
          refine sx_cons (sx_assign (d := .int ((k + s : Nat) : Int)) G5 (by rw [Int.natCast_add]; exact ev_bin G5.fd.mok (ev_cell (d := .int k) G5.fd rfl) (ev_cell (d := .int s) G5.fd rfl) bin_add) fun h6 G6 => sx_nil ?_)
          exact ⟨f, by omega, f, ps', k + s, deep', hrun', by omega, rfl, hok5, by omega, G6.names⟩
        · rw [hstep] at hrun'
          rw [← hrun'] at hgoal
          subst hgoal
          exact ⟨k5, hv5⟩
    · have hrun' : tkRun inner word j ps k deep = some (ps, deep) := by
        cases j with
        | zero => rfl
        | succ f => show (if _ then _ else _) = _; rw [if_neg (by rw [hb']; decide)]
      rw [hrun'] at hrun
      rw [← hrun] at hgoal
      subst hgoal
      have G3 := G.grow k3
      have X₁ := X₀.stays G3.base
      have e : ps.contains word.length = (ps.map fun i : Nat => D.int (i : Int)).any (D.eqb · (.int (word.length : Int))) := by
        rw [List.any_map, List.contains_eq_any_beq]
        congr 1
        funext i
        show (word.length == i) = ((i : Int) == (word.length : Int))
        rw [Bool.eq_iff_iff]; simp; omega
      exact sx_cons (sx_retD G3 (ev_and2 (c := ps.contains word.length) (ev_cmp (ev_local (d := .int deep) G3.fd rfl) ev_int cp_nei) fun _ => e ▸ ev_cmp (ev_len_str X₁ (ev_cell (d := .str word) G3.fd rfl) (by omega)) (ev_local (d := nums ps) G3.fd rfl) (cp_inl .int (nums_ty _) trivial (by omega) (by decide))) fun v h4 k4 q => ⟨k4, q⟩)
end Mine
end
section
open PySem PySem.W PySem.Calls PyProof.Rows
set_option maxRecDepth 100000
set_option maxHeartbeats 400000
namespace Mine
variable [Bd]
open PySem.Builtin.List in
theorem setItem_plain {w : World} {A : Around} {E : Value → Shared → Prop} {s : Shared} {l : Addr} {items : Array Value} {k : Int} {t : Tok} {v : Value} {Q : Unit → Shared → Prop} (hl : s.heap.PlainList l items)
    (h0 : 0 ≤ k) (hfit : k < 2 ^ 63) (hn : k < items.size)
    (hQ : ∀ h', h'.PlainList l (items.setIfInBounds k.toNat v) → Heap.SameBut l s.heap h' → Q () { s with heap := h' }) :
    wpAny (model prog w) A (setItem (.ref l) (.int k t) v) Q E s := by
  obtain ⟨ne, ho⟩ := id hl
  have hl' := hl.isList
  unfold setItem
  try with_reducible refine wpAny_holding ?_
  first | refine wpAny_bind (wpAny_pure ?_) | skip
  refine wpAny_bind (wpAny_sequenceKey hl'.typeIs (by decide) ?_)
  refine wpAny_bind (wpAny_callSpecial?_slot (name := Str.ofString "__setitem__") hl'.typeIs slot_list_setitem (wpAny_call_entry slot_list_setitem hl'.typeIs entry_list_setitem ?_ (args_list_setitem _ _ _)))
  show wpAny _ _ (Builtin.List.listSubscript? (.int k t) >>= _) _ _ s
  refine wpAny_bind (wpAny_listSubscript_int (fitsIndex_of h0 hfit) ?_)
  clear hfit
  obtain ⟨j, rfl⟩ := Int.eq_ofNat_of_zero_le h0
  have hj : j < items.size := by omega
  have hx' : items[j]? = some items[j] := Array.getElem?_eq_getElem hj
  show wpAny _ _ ((seqItemAt l j >>= fun r => pure (r.map (j, ·))) >>= _) _ _ s
  refine wpAny_bind (wpAny_bind (wpAny_seqItemAt ho rfl (wpAny_pure ?_)))
  rw [hx']
  show wpAny _ _ (setSeqItemAt l j v >>= _) _ _ s
  obtain ⟨n', hd'⟩ := Obj.data_mapSeq (o := { cls := .type "list", data := .seq items ne }) rfl (·.setIfInBounds j v)
  have hfin : (s.heap.update l (Obj.mapSeq (·.setIfInBounds j v))).PlainList l (items.setIfInBounds j v) := ⟨_, Heap.get?_update_self _ ho (Obj.isFreed_of_seq hd')⟩
  refine wpAny_bind (wpAny_setSeqItemAt ho rfl ?_)
  first
    | exact wpAny_bind (wpAny_pure (wpAny_pure ⟨.none, rfl, wpAny_pure (hQ _ hfin (Heap.SameBut.update ..))⟩))
    | exact wpAny_pure ⟨.none, rfl, wpAny_pure (hQ _ hfin (Heap.SameBut.update ..))⟩
end Mine
end
section
open PySem PySem.W PySem.Calls PyProof.Rows
set_option maxRecDepth 100000
set_option maxHeartbeats 400000
namespace Mine
variable [Bd]
section
variable {w : World} {n : Nat} {fr : Option Addr} {env : Env} {M M₀ X : List Addr} {h₀ h : Heap} {ρ : List (Str × D)} {σ : List (Addr × List D)} {pos px : Pos} {Q : Flow → Heap → Prop} {e e₂ : Expr} {d : D}

theorem mul_plain {A : Around} {E : Value → Shared → Prop} {s : Shared} {Q : Value → Shared → Prop} {l : Addr} {items : Array Value} {k : Nat} {x : Int} {u : Tok}
    (hl : s.heap.get? l = some { cls := .type "list", dict := none, data := .seq items k, slots := #[] }) (hlo : -(2 ^ 63 : Int) ≤ x) (hhi : x < 2 ^ 63) (hsz : items.size * x.toNat ≤ 2 ^ 24)
    (h : Q (.ref s.heap.objs.size) { s with heap := s.heap.push { cls := .type "list", data := .seq (List.foldl (fun x1 x2 => x1 ++ x2) #[] (List.replicate (if items.isEmpty = true then 0 else x.toNat) items)) } }) :
    wpAny (model prog w) A (binaryOp .Mult (.ref l) (.int x u)) Q E s :=
  wpAny_binaryOp_repeat_ref (T := "list") (U := "int") (by decide) ⟨_, hl, rfl⟩ (fun s' => typeIs_int s' x u) noFill_list_mul F.fills_int_mul F.slot_int_rmul repeat_list F.slot_int_index.lookup
    (call_meets F.slot_int_rmul (typeIs_int s x u) F.entry_int_rmul (F.args_int_rmul_2 _ _) (int___rmul___int_list x u l items k)
      ⟨hl, rfl, ⟨_, hl, rfl⟩, call_meets F.slot_list_mul ⟨_, hl, rfl⟩ F.entry_list_mul (F.args_list_mul_2 _ _)
        (AutoListH.list___mul___list_int_3 l items k x u (by simp [Builtin.List.listFitsIndex]; omega) (by omega) (by simp [Builtin.List.listTooLong, sizeLine]; omega))
        ⟨hl, h⟩⟩)
theorem rep_flat {v : Value} : ∀ (N : Nat) (a : Array Value), List.foldl (fun x1 x2 => x1 ++ x2) a (List.replicate N #[v]) = a ++ (List.replicate N v).toArray
  | 0, a => by simp
  | N + 1, a => by
    rw [List.replicate_succ, List.foldl_cons, rep_flat N, List.replicate_succ]
    apply Array.ext'
    simp
theorem dens_nones {M : List Addr} {h : Heap} : ∀ (N : Nat), Dens M h (List.replicate N .none) (List.replicate N .none)
  | 0 => Dens.nil
  | N + 1 => by rw [List.replicate_succ, List.replicate_succ]; exact .cons Den.none' (dens_nones N)
theorem ex_none_mul {N : Nat} {p lp : Pos} {k : Nat} (y : Ev w n env M h e₂ (.int (N : Int))) (hN : N ≤ 2 ^ 20) (he : starEach [.Constant .none k p] env = (false, eval (.Constant .none k p) env) :: starEach [] env := by rfl) :
    Ex w n h (eval (.BinOp (.List [.Constant .none k p] lp) .Mult e₂ pos) env) (FreshL M h (List.replicate N .none)) := fun A s a kk => by
  refine wpAny_BinOp (List_ ?_)
  refine (exl_cons (w := w) (n := n) (M := M) (pos := lp) (ev_none (h := h) (k := k) (pos := p)) exl_nil he).run a kk fun vs h1 t1 k1 a1 p1 => ?_
  simp only [Dens, Den] at p1
  obtain ⟨v, rr, rfl, rfl, rfl⟩ := p1
  refine wpAny_newObj_type ?_ (by show 1 ≤ 2 ^ 24; decide)
  refine y.run (a1.up (push_stays _ _)) (stays_trans kk (stays_trans k1 (push_stays _ _))) fun u h2 t2 k2 a2 p2 => ?_
  simp only [Den] at p2
  obtain ⟨t, rfl⟩ := p2
  have hg : h2.get? h1.objs.size = some { cls := .type "list", data := .seq #[Value.none] } := (k2 _ _ (Heap.get?_push_size _ rfl)).get (.inl rfl)
  refine mul_plain hg (by omega) (by omega) (by show 1 * (N : Int).toNat ≤ 2 ^ 24; rw [Int.toNat_natCast]; omega) ?_
  have e : (List.foldl (fun x1 x2 => x1 ++ x2) #[] (List.replicate (if (#[Value.none] : Array Value).isEmpty = true then 0 else (N : Int).toNat) #[Value.none])) = (List.replicate N Value.none).toArray := by
    show List.foldl _ _ (List.replicate (N : Int).toNat _) = _
    rw [Int.toNat_natCast, rep_flat]; simp
  rw [e]
  have k12 : Stay s.heap h2 := stays_trans (stays_trans k1 (push_stays _ _)) k2
  exact Then.mk (stays_trans k12 (push_stays _ _)) ⟨_, List.replicate N Value.none, rfl, none_of_stays (stays_trans kk k12) (none_of_le (Nat.le_refl _)), ⟨_, Heap.get?_push_size _ rfl⟩, dens_nones N⟩
end
end Mine
end
section
open PySem PySem.W PySem.Calls PyProof.Rows
set_option maxRecDepth 100000
set_option maxHeartbeats 400000
namespace Mine
variable [Bd]

theorem itr_upto {w : World} {n : Nat} {M : List Addr} {h : Heap} {v : Value} {N : Nat} (x : RangeV 0 N h v) (hN : N ≤ 2 ^ 20) : Itr w n M h v N (fun i => .int (i : Int)) := by
  have := itr_range (w := w) (n := n) (M := M) x (by decide) (by decide) (by omega) (by omega)
  have e0 : ((N : Int) - 0).toNat = N := by omega
  have e1 : (fun i : Nat => D.int ((0 : Int) + (i : Int))) = fun i : Nat => D.int (i : Int) := by funext i; rw [Int.zero_add]
  rwa [e0, e1] at this
theorem Dens.set {M : List Addr} {h : Heap} {d : D} {v : Value} (q : Den M h d v) : ∀ {ds : List D} {vs : List Value} (j : Nat), Dens M h ds vs → Dens M h (ds.set j d) (vs.set j v)
  | [], _, j, x => by simp only [Dens] at x; subst x; simp [Dens]
  | _ :: _, _, 0, x => by simp only [Dens] at x; obtain ⟨u, r, rfl, hv, hr⟩ := x; exact .cons q hr
  | _ :: _, _, j+1, x => by simp only [Dens] at x; obtain ⟨u, r, rfl, hv, hr⟩ := x; exact .cons hv (Dens.set q j hr)
section
variable {w : World} {n : Nat} {fr : Option Addr} {env : Env} {M M₀ X : List Addr} {h₀ h : Heap} {ρ : List (Str × D)} {σ : List (Addr × List D)} {pos sp np : Pos} {Q : Flow → Heap → Prop} {e ie : Expr} {d : D}
theorem sx_setitem {y : Str} {r : Addr} {ds : List D} {j : Nat} (F : FS env M₀ X h₀ h ρ ((r, ds) :: σ)) (x : Ev w n env (X ++ M₀) h e d) (hy : Ex w n h (eval (.Name y np) env) (fun u _ => u = .ref r)) (hi : Ev w n env (X ++ M₀) h ie (.int (j : Int))) (hj : j < ds.length) (hl : ds.length ≤ 2 ^ 20)
    (H : ∀ h', FS env M₀ X h₀ h' ρ ((r, ds.set j d) :: σ) → Q .next h') (hs : swapsWith e (some (.Subscript (.Name y np) ie sp)) pos.line env = pure false := by rfl) :
    Sx w n fr (exec (.Assign [.Subscript (.Name y np) ie sp] e pos) env) h Q := fun A s a hf eh => by
  subst eh
  refine wpAny_Assign_Subscript (x.run a (stays_refl _) fun v h1 t1 k1 a1 p1 => hy.run a1 k1 fun u h2 t2 k2 a2 p2 => hi.run a2 (stays_trans k1 k2) fun i h3 t3 k3 a3 p3 => ?_) hs
  subst p2
  simp only [Den] at p3
  obtain ⟨t, rfl⟩ := p3
  have F3 := F.grow (stays_trans k1 (stays_trans k2 k3))
  obtain ⟨⟨vs, hp, hd⟩, hrX, _⟩ := F3.own r ds (.head _)
  have hlv := hd.length
  refine setItem_plain hp (by omega) (by omega) (by simp; omega) fun h4 hp4 hs4 => ?_
  have p1' := (p1.stays (stays_trans k2 k3))
  refine ⟨h4, t3, rfl, a3.change hs4 (fun o e1 e2 => by obtain ⟨nn, ho⟩ := hp; rw [ho] at e1; cases e1; cases e2), H h4 (F3.setOwn (vs' := vs.set j v) hs4 (by
    have : vs.toArray.setIfInBounds (j : Int).toNat v = (vs.set j v).toArray := by simp
    rwa [this] at hp4) (Dens.keep (Dens.set p1' j hd) (.same hs4 (List.mem_append_left _ hrX))))⟩
end

noncomputable def lenD (d : D) : Nat := (asL d).length
noncomputable def ordPos (rows : List D) (k : Nat) : Nat := (rows.filter fun r => decide (lenD r < lenD (rows.getD k .none))).length + ((rows.take k).filter fun r => lenD r == lenD (rows.getD k .none)).length
noncomputable def ordStep (rows order : List D) (k : Nat) : List D := order.set (ordPos rows k) (rows.getD k .none)
noncomputable def orderedK (rows : List D) (k : Nat) : List D := (List.range k).foldl (ordStep rows) (List.replicate rows.length .none)
noncomputable def ordered (rows : List D) : List D := orderedK rows rows.length
theorem orderedK_succ {rows : List D} {k : Nat} : orderedK rows (k + 1) = ordStep rows (orderedK rows k) k := by unfold orderedK; rw [List.range_succ, List.foldl_append]; rfl
theorem orderedK_len {rows : List D} : ∀ k, (orderedK rows k).length = rows.length
  | 0 => by simp [orderedK]
  | k + 1 => by rw [orderedK_succ]; unfold ordStep; rw [List.length_set]; exact orderedK_len k
theorem two_filters {α : Type} (p q : α → Bool) (hpq : ∀ x, p x = true → q x = false) : ∀ (l : List α), (l.filter p).length + (l.filter q).length ≤ l.length
  | [] => Nat.le_refl _
  | a :: l => by
    have ih := two_filters p q hpq l
    rw [List.filter_cons, List.filter_cons]
    cases hp : p a with
    | true => rw [hpq a hp]; simp; omega
    | false => cases hq : q a <;> simp <;> omega
theorem ordPos_lt {rows : List D} {k : Nat} (hk : k < rows.length) : ordPos rows k < rows.length := by
  have e : rows = rows.take k ++ (rows.getD k .none :: rows.drop (k + 1)) := by
    have h1 : rows.getD k .none = rows[k] := by simp [List.getD, hk]
    rw [h1, List.getElem_cons_drop, List.take_append_drop]
  unfold ordPos
  generalize hg : rows.getD k .none = g at *
  have e2 : (rows.filter fun r => decide (lenD r < lenD g)).length = ((rows.take k).filter fun r => decide (lenD r < lenD g)).length + ((rows.drop (k + 1)).filter fun r => decide (lenD r < lenD g)).length := by
    conv => lhs; rw [e]
    rw [List.filter_append, List.filter_cons, if_neg (by simp), List.length_append]
  rw [e2]
  have h1 := two_filters (fun r => decide (lenD r < lenD g)) (fun r => lenD r == lenD g) (fun x hx => by simp at hx ⊢; omega) (rows.take k)
  have h2 := List.length_filter_le (fun r => decide (lenD r < lenD g)) (rows.drop (k + 1))
  rw [List.length_drop] at h2
  rw [List.length_take] at h1
  omega

theorem spec_ordered {w : World} {n : Nat} {M : List Addr} {h : Heap} {rows : List D} {v : Value} (X : TR w h) (hM : MOk M h) (hv : Den M h (.list rows) v)
    (hlen : ∀ d ∈ rows, ∃ r, d = .list r ∧ r.length ≤ 2 ^ 10) (hN : rows.length ≤ 2 ^ 10) (hn : 4 ≤ n) :
    Cx w n h (.call (.ref 136) ⟨[v], []⟩) (fun u h' => Den M h' (.list (ordered rows)) u) := by
  obtain ⟨m, rfl⟩ : ∃ m, n = m + 1 := ⟨n - 1, by omega⟩
  refine cx_def (ρ := [(Str.ofString "rows", .list rows)]) X hM (by with_unfolding_all rfl) (by with_unfolding_all rfl) (fun s k => .of_eq rfl) (.cons hv .nil) (by rfl) fun L Y h₀ h' k F => ?_
  have X₀ := X.stays k
  refine sx_cons (sx_adopt (ds := List.replicate rows.length .none) F (ex_none_mul (ev_len_list (X₀.stays F.base) (ev_cell (d := .list rows) F.fd rfl) (by omega)) (by omega)) fun r h1 hr F1 => ?_)
  refine sx_cons (sx_for (N := rows.length) (it := fun i => .int (i : Int)) (ρs := fun _ => [(Str.ofString "order", .ref r), (Str.ofString "rows", .list rows)]) (σs := fun i => [(r, orderedK rows i)]) F1 ?_ ?_ ?_)
  · exact (ex_range1 (X₀.stays F1.base) (ev_len_list (X₀.stays F1.base) (ev_cell (d := .list rows) F1.fd rfl) (by omega))).post fun v h' _ q => itr_upto q (by omega)
  · intro i M₁ base h2 hi kb G
    have hgi : rows.getD i .none ∈ rows := by simp [List.getD, hi]
    obtain ⟨g, hg, hgl⟩ := hlen _ hgi
    have X₁ := X₀.stays kb
    have hlg : lenD (rows.getD i .none) = g.length := by rw [hg]; rfl
    have hgi? : rows[i]? = some (.list g) := by
      rw [List.getElem?_eq_getElem hi]; congr 1
      have : rows.getD i .none = rows[i] := by simp [List.getD, hi]
      rw [← this, hg]
    refine sx_cons (sx_comp_list (f := id) (out := rows.filter fun r => decide (lenD r < lenD (rows.getD i .none))) (p := fun r => decide (lenD r < lenD (rows.getD i .none))) G (by rfl) (ev_cell (d := .list rows) G.fd rfl) (List.map_id _) ?_ ?_ (by omega) fun h3 G3 => ?_)
    · intro d hd M' C h3 k3 K
      obtain ⟨r', rfl, hr'⟩ := hlen d hd
      have X₂ := (X₁.stays G.base).stays k3
      refine tests_one ?_
      rw [hlg, show decide (lenD (.list r') < g.length) = decide ((r'.length : Int) < (g.length : Int)) by unfold lenD asL; simp]
      exact tr_cmp (M := M') (ev_len_list X₂ (ev_local (d := .list r') K rfl) (by omega)) (ev_len_list X₂ (ev_item (l := rows) (d := .list g) (ev_cell K rfl) (ev_cell (d := .int i) K rfl) (by omega) (by omega) hgi?) (by omega)) cp_lt
    · intro d hd M' C h3 hp k3 K
      exact ev_local (d := d) K rfl
    · have X₃ := X₁.stays G3.base
      have hfl : (rows.filter fun r => decide (lenD r < lenD (rows.getD i .none))).length ≤ rows.length := List.length_filter_le _ _
      have htk : ((rows.take i).filter fun r => lenD r == lenD (rows.getD i .none)).length ≤ rows.length := Nat.le_trans (List.length_filter_le _ _) (by rw [List.length_take]; omega)
      refine sx_cons (sx_setitem (j := ordPos rows i) (d := rows.getD i .none) G3 (by rw [hg]; exact ev_item (l := rows) (d := .list g) (ev_cell G3.fd rfl) (ev_cell (d := .int i) G3.fd rfl) (by omega) (by omega) hgi?) ((ev_local (d := .ref r) G3.fd rfl).post fun v h' _ q => by simpa only [Den] using q) ?_ (by rw [orderedK_len]; exact ordPos_lt hi) (by rw [orderedK_len]; omega) fun h4 G4 => sx_nil ⟨.inl rfl, by rw [orderedK_succ]; exact G4.names⟩)
      · unfold ordPos
        rw [Int.natCast_add]
        refine ev_bin G3.fd.mok (ev_len_list X₃ (ev_local (d := .list (rows.filter fun r => decide (lenD r < lenD (rows.getD i .none)))) G3.fd rfl) (by omega)) (ev_len_list X₃ (ev_filter_list (p := fun r => lenD r == lenD (rows.getD i .none)) G3.fd (by rfl) (by rw [← pickD_take]; exact ev_slice_list (l := none) (u := some (i : Int)) (t := none) G3.fd.mok (ev_cell (d := .list rows) G3.fd rfl) pt_none (pt_some (ev_cell (d := .int i) G3.fd.nil rfl)) pt_none (by simp) (by omega)) ?_ ?_ (by rw [List.length_take]; omega)) (by omega)) bin_add
        · intro d hd M' C h4 k4 K
          obtain ⟨r', rfl, hr'⟩ := hlen d (List.mem_of_mem_take hd)
          have X₂ := X₃.stays k4
          refine tests_one ?_
          rw [hlg, show (lenD (.list r') == g.length) = ((r'.length : Int) == (g.length : Int)) by unfold lenD asL; rw [Bool.eq_iff_iff]; simp; omega]
          exact tr_cmp (M := M') (ev_len_list X₂ (ev_local (d := .list r') K rfl) (by omega)) (ev_len_list X₂ (ev_item (l := rows) (d := .list g) (ev_cell K rfl) (ev_cell (d := .int i) K rfl) (by omega) (by omega) hgi?) (by omega)) cp_eqi
        · intro d hd M' C h4 hp k4 K
          exact ev_local (d := d) K rfl
  · intro h2 G
    refine sx_cons (sx_return ((ev_local (d := .ref r) G.fd rfl).post (P' := fun u _ => u = .ref r) fun v h' _ q => by simpa only [Den] using q) fun v h3 k3 q => ?_)
    subst q
    have G3 := G.grow k3
    exact ⟨G3.base, (G3.give (ds := ordered rows) (.head _) (hM.stays k))⟩
end Mine
end
section
open PySem PySem.W PySem.Calls PyProof.Rows
set_option maxRecDepth 100000
set_option maxHeartbeats 400000
namespace Mine
variable [Bd]
section
variable {α : Type} {w : World} {n : Nat} {fr : Option Addr} {env : Env} {M₀ X : List Addr} {h₀ h : Heap} {ρ : List (Str × D)} {σ : List (Addr × List D)} {x : Str} {pos px : Pos} {d : D} {e : Expr} {body orelse : List Stmt}

/-- the for loop, from an iterator that stands -/
theorem for_walk {A : Around} {s : Shared} {y : Str} {py : Pos} {N : Nat} {it : Nat → D} {ρs : Nat → List (Str × D)} {σs : Nat → List (Addr × List D)} {Qf : Flow → Shared → Prop} {E : Value → Shared → Prop}
    {I : Addr} {fp wr : List Addr} {P : Nat → Value → Prop} {St : Nat → Heap → Prop} (W : Walks prog w A I fp wr N P St) (F : FS env (wr ++ M₀) X h₀ s.heap (ρs 0) (σs 0)) (a : AOk n A s.heap) (hf : headFrame A = fr)
    (hI : Ex w n s.heap (eval e env) (fun v h' => v = .ref I)) (hst : ∀ h', Stay s.heap h' → St 0 h') (hfX : ∀ b ∈ fp, b ∉ X) (hXwr : ∀ b ∈ wr, b ∉ X) (hMwr : ∀ b ∈ wr, b ∉ M₀) (h0wr : ∀ b ∈ wr, h₀.get? b = none) (hnf : ∀ i h, St i h → ∀ b ∈ fp, ∀ o, h.get? b = some o → nd o = true)
    (hlive : ∀ i h, St i h → ∀ b ∈ wr, ∃ o, h.get? b = some o) {hx : Heap} (ax : AOk n A hx) (hxw : ∀ b ∈ wr, hx.get? b = none)
    (hP : ∀ i v, i < N → P i v → Den (X ++ (wr ++ M₀)) s.heap (it i) v)
    (turn : ∀ i M₁ base h', i < N → Stay h₀ base → FS env M₁ X base h' ((y, it i) :: ρs i) (σs i) → Sx w n fr (execs body env) h' (fun f h'' => (f = .next ∨ f = .cont) ∧ FS env M₁ X base h'' (ρs (i + 1)) (σs (i + 1))))
    (done : ∀ h' tk, AOk n A h' → FS env M₀ X h₀ h' (ρs N) (σs N) → Qf .next { s with heap := h', toks := tk })
    (hk : env.kindOf y = some .local ∨ (env.kindOf y = some .cell ∧ (env.cells.lookup y).isSome = true) := by first | exact .inl rfl | exact .inr ⟨rfl, rfl⟩)
    (hs : ∀ x, foldedSetIterable e env x = pure x := by intro _; rfl) : wpAny (model prog w) A (exec (.For (.Name y py) e body [] pos) env) Qf E s := by
  refine wpAny_For (hI.run a (stays_refl _) fun xv h₂ t₂ k₂ a p => ?_) hs
  subst p
  have hst₂ := hst h₂ k₂
  refine W.self 0 _ _ _ hst₂ ?_
  have G₀ : FS env (wr ++ M₀) X h₀ h₂ (ρs 0) (σs 0) := F.grow k₂
  refine codeAny_forLoop (fun k s' => ∃ (i : Nat) (H : Heap) (tk : Nat), s' = { s with heap := H, toks := tk } ∧ AOk n A H ∧ FS env (wr ++ M₀) X h₀ H (ρs i) (σs i) ∧ St i H ∧ i ≤ N ∧ k = N + 1 - i ∧
    (∀ b o, b ∉ X → b ∉ wr → h₂.get? b = some o → Same H b o)) ?_ (N + 1) ⟨0, h₂, t₂, rfl, a, G₀, hst₂, Nat.zero_le _, rfl, fun _ _ _ _ e => .of e⟩
  rintro kk s' ⟨i, H, tk, rfl, aH, G, hstH, hi, rfl, kH⟩
  by_cases hlt : i < N
  · refine W.item i _ _ _ hlt hstH fun v H₁ tk₁ hPv hst₁ hk₁ => ?_
    have G1 : FS env (wr ++ M₀) X h₀ H₁ (ρs i) (σs i) := G.beside hk₁ hXwr (hlive _ _ hst₁) h0wr
    have hd : Den (X ++ (wr ++ M₀)) H₁ (it i) v := ((hP i v hlt hPv).stays k₂).keep fun b o n e => (kH b o (fun q => n (List.mem_append_left _ q)) (fun q => n (List.mem_append_right _ (List.mem_append_left _ q))) e).trans fun o'' e'' => .of (hk₁ b o'' (fun q => n (List.mem_append_right _ (List.mem_append_left _ q))) e'')
    refine wpAny_assign_Name (G1.store (s := { s with heap := H₁, toks := tk₁ }) (ax.beside hxw aH hk₁) hd hk fun H₂ tk₂ a₂ G2 kX => ?_)
    have GB := G2.rebase
    have hst₂ : St (i + 1) H₂ := W.frame _ _ _ hst₁ fun b hb o e => kX b o (hfX b hb) e
    refine (turn i _ _ H₂ hlt G2.hidden GB).run a₂ hf rfl fun f H₃ tk₃ a₃ hff => ?_
    obtain ⟨hff, G3⟩ := hff
    have k3 : ∀ b o, b ∉ X → H₂.get? b = some o → Same H₃ b o := fun b o n e => G3.base b o (hideAll_get X e n)
    have fin : ∃ m, m < N + 1 - i ∧ ∃ (i : Nat) (H : Heap) (tk : Nat), ({ s with heap := H₃, toks := tk₃ } : Shared) = { s with heap := H, toks := tk } ∧ AOk n A H ∧ FS env (wr ++ M₀) X h₀ H (ρs i) (σs i) ∧ St i H ∧ i ≤ N ∧ m = N + 1 - i ∧
        (∀ b o, b ∉ X → b ∉ wr → h₂.get? b = some o → Same H b o) :=
      ⟨N + 1 - (i + 1), by omega, i + 1, H₃, tk₃, rfl, a₃, G3.unbase G2.hidden, W.frame _ _ _ hst₂ fun b hb o e => (k3 b o (hfX b hb) e).get (.inl (hnf _ _ hst₂ b hb o e)), hlt, rfl, fun b o n nw e => (kH b o n nw e).trans fun o e => k3 b o n (kX b o n (hk₁ b o nw e))⟩
    rcases hff with rfl | rfl <;> exact fin
  · have hin : i = N := by omega
    subst hin
    refine W.done _ _ _ hstH fun H₁ tk₁ hk₁ => wpAny_execs_nil ?_
    exact done H₁ tk₁ (ax.beside hxw aH hk₁) (G.besideOut hk₁ hXwr hMwr h0wr)
end
end Mine
end
section
open PySem PySem.W PySem.Calls PyProof.Rows
set_option maxRecDepth 100000
set_option maxHeartbeats 400000
namespace Mine
variable [Bd]

noncomputable def IterV (M : List Addr) (h : Heap) (ds : List D) (v : Value) (h' : Heap) : Prop := ∃ (I l : Addr) (vs : List Value), v = .ref I ∧ h.get? I = none ∧ h'.IsListIter I l 0 ∧ h'.IsList l vs.toArray ∧ l ∉ M ∧ l ≠ I ∧ Dens (I :: M) h' ds vs
theorem c_iter {w : World} {n : Nat} {M : List Addr} {h : Heap} {l : List D} {v : Value} (hv : Den M h (.list l) v) : Ex w n h (PySem.call (.builtin "iter") [v] []) (IterV M h l) := fun A s a k => by
  have hv := hv.stays k
  simp only [Den] at hv
  obtain ⟨r, vs, rfl, hrM, hl, dl⟩ := hv
  refine call_function_entry (by decide +kernel) (by decide +kernel) kdk_entry_iter (kdk_args_iter _) ?_
  unfold Builtin.«iter»
  refine wpAny_bind (m := someArgs "iter" 1 2 _) (wpAny_of_eq (a := [Value.ref r]) (by first | rfl | kernel_rfl!) ?_)
  show wpAny _ _ (pyIter (.ref r) >>= _) _ _ _
  refine wpAny_bind (wpAny_pyIter_list hl ?_)
  have hne : r ≠ s.heap.objs.size := by obtain ⟨o, ho, _⟩ := hl; exact Nat.ne_of_lt (Heap.lt_size ho)
  exact wpAny_pure ⟨_, rfl, Then.mk (push_stays _ _) ⟨_, r, vs, rfl, none_of_stays k (none_of_le (Nat.le_refl _)), ⟨_, Heap.get?_push_size _ rfl, rfl, rfl⟩, hl.at fun o e => Heap.get?_push_of_some _ e, hrM, hne, dl.kept (.of (push_stays _ _)) fun q mq => (List.mem_cons.mp mq).elim (fun e => .inr (e ▸ none_of_le (Nat.le_refl _))) .inl⟩⟩
theorem IsListIter.stays {h h' : Heap} {I l i} (x : h.IsListIter I l i) (k : Stay h h') : h'.IsListIter I l i := let ⟨o, a, b, c⟩ := x; ⟨o, (k _ _ a).get (.inl (by unfold nd; rw [c])), b, c⟩
theorem isList_stays {h h' : Heap} {l vs} (x : h.IsList l vs) (k : Stay h h') : h'.IsList l vs := let ⟨o, a, b, n, c⟩ := x; ⟨o, (k _ _ a).get (.inl (by unfold nd; rw [c])), b, n, c⟩

theorem spec_reduce {w : World} {m : Nat} {M : List Addr} {h : Heap} {rows : List D} {f : Addr} {v v₀ : Value} {init : List D} {acc : Nat → D} (X : TR w h) (hM : MOk M h) (hv : Den M h (.list rows) v) (hv₀ : Den M h (.list init) v₀) (hkeep : keepIn (K39 w.params) (.ref f) = true)
    (hacc : acc 0 = .list init)
    (hcall : ∀ i M' h' va vb, i < rows.length → Stay h h' → MOk M' h' → Den M' h' (acc i) va → Den M' h' (rows.getD i .none) vb → Cx w m h' (.call (.ref f) ⟨[va, vb], []⟩) (fun u h'' => Den M' h'' (acc (i + 1)) u)) :
    Cx w (m + 1) h (.call (.ref 99) ⟨[.ref f, v, v₀], []⟩) (fun u h' => Den M h' (acc rows.length) u) := by
  refine cx_def (ρ := [(Str.ofString "function", .ref f), (Str.ofString "sequence", .list rows), (Str.ofString "initial", .list init)]) X hM (by with_unfolding_all rfl) (by with_unfolding_all rfl) (fun s k => BindsTo.of_defaults (T := 92) rfl ((X.stays k).K 92 _ (by with_unfolding_all rfl)) rfl rfl rfl) (.cons Den.ref' (.cons hv (.cons hv₀ .nil))) (by rfl) fun L Y h₀ h' k F => ?_
  have X₀ := X.stays k
  intro A s aok hf eh
  subst eh
  refine wpAny_execs_cons (wpAny_Assign_Name ?_)
  refine Ex.run (n := m) (ex_call1 (X₀.stays F.base) (ex_builtin (X₀.stays F.base) (by with_unfolding_all rfl) rfl) keep_builtin (ev_local (d := .list rows) F.fd rfl) fun h1 u k1 q => (c_iter q).post (P' := IterV (Y ++ M) s.heap rows) fun v h2 _ ⟨I, l, vs, e1, e2, e3⟩ => ⟨I, l, vs, e1, none_of_stays k1 e2, e3⟩) aok (stays_refl _) fun iv h1 t1 k1 a1 ⟨I, l, vs, e, hI, hit, hil, hlM, hlI, hds⟩ => ?_
  subst e
  have hIo : ∃ o, h1.get? I = some o := let ⟨o, e, _⟩ := hit; ⟨o, e⟩
  have F1 := F.addM (wr := [I]) k1 (fun q mq => by rw [List.mem_singleton.mp mq]; exact hI) (fun q mq => by rw [List.mem_singleton.mp mq]; exact hIo)
  refine F1.store (s := { s with heap := h1, toks := t1 }) a1 (x := Str.ofString "it") (d := .ref I) Den.ref' (.inl rfl) fun h2 t2 a2 F2 kX => ?_
  have hIn : ∀ q ∈ Y ++ M, q ≠ I := fun q mq e => by obtain ⟨o, ho⟩ := F.fd.mok q mq; rw [e, hI] at ho; cases ho
  have hIY : I ∉ Y := fun q => hIn I (List.mem_append_left _ q) rfl
  have hIM : I ∉ M := fun q => hIn I (List.mem_append_right _ q) rfl
  have hlY : l ∉ Y := fun q => hlM (List.mem_append_left _ q)
  obtain ⟨B, hB⟩ : ∃ B, B = hideAll h2 Y := ⟨_, rfl⟩
  have FB := F2.rebase
  rw [← hB] at FB
  have hidden : Stay h₀ B := hB ▸ F2.hidden
  have stB : ∀ {H}, Stay B H → H.IsListIter I l 0 ∧ H.IsList l vs.toArray := fun kB => by
    refine ⟨IsListIter.stays ?_ kB, isList_stays ?_ kB⟩
    · obtain ⟨o, e, r⟩ := hit; exact ⟨o, hB ▸ hideAll_get Y (kX I o hIY e) hIY, r⟩
    · obtain ⟨o, e, r⟩ := hil; exact ⟨o, hB ▸ hideAll_get Y (kX l o hlY e) hlY, r⟩
  have hlen := hds.length
  refine wpAny_execs_cons ((sx_if (b := false) (Q := fun fl H => fl = .next ∧ FS F.envOf ([I] ++ M) Y B H [(Str.ofString "value", .list init), (Str.ofString "it", .ref I), (Str.ofString "function", .ref f)] []) ?_ (fun hb => nomatch hb) fun _ h3 k3 => sx_cons (sx_assign (d := .list init) (FB.grow k3) (ev_local (d := .list init) (FB.grow k3).fd rfl) fun h4 F4 => sx_nil ⟨rfl, F4.names⟩)).run a2 hf rfl fun fl h3 t3 a3 q => ?_)
  · have X₂ := X₀.stays F2.base
    refine fun A' s' a' k' => wpAny_isTrue_Compare1 ((ev_local (d := .list init) F2.fd rfl).run a' k' fun v1 h3 t3 k3 a3 p1 => (ex_global X₂ (by with_unfolding_all rfl)).run a3 (stays_trans k' k3) fun v2 h4 t4 k4 a4 p2 => ?_)
    have p1 := p1.stays k4
    simp only [Den] at p1
    obtain ⟨r, us, rfl, _, ⟨o, ho, hc, nn, hod⟩, _⟩ := p1
    subst p2
    have hK := ((X₂.stays k').stays (stays_trans k3 k4)).K 91 _ (by with_unfolding_all rfl)
    refine wpAny_is_ref_other (fun e => ?_) ho hK (by rw [hc]; decide) (wpAny_truthy_bool (Then.mk (stays_trans k3 k4) rfl))
    rw [e] at ho
    have := ho.symm.trans hK
    injection this with this
    rw [this] at hc
    revert hc; decide
  · obtain ⟨rfl, F3⟩ := q
    have W := Walks.list (prog := prog) (w := w) a3.handled I l hlI vs.toArray
    have e : vs.toArray.size = rows.length := by simp [hlen]
    rw [e] at W
    refine wpAny_execs_cons (for_walk (n := m) (N := rows.length) (it := fun i => rows.getD i .none) (ρs := fun i => [(Str.ofString "value", acc i), (Str.ofString "it", .ref I), (Str.ofString "function", .ref f)]) (σs := fun _ => []) W (by show FS _ _ _ _ _ [(Str.ofString "value", acc 0), _, _] []; rw [hacc]; exact F3.unbase hidden) a3 hf ((ev_local (d := .ref I) F3.fd rfl).post fun v h' _ q => by simpa only [Den] using q)
      (fun h' kh => stB (stays_trans F3.base kh)) ?_ ?_ ?_ ?_ ?_ ?_ aok (fun q mq => by rw [List.mem_singleton.mp mq]; exact hI) ?_ ?_ ?_)
    · intro b hb
      rcases List.mem_cons.mp hb with rfl | hb
      · exact hIY
      · rw [List.mem_singleton.mp hb]; exact hlY
    · intro b hb; rw [List.mem_singleton.mp hb]; exact hIY
    · intro b hb; rw [List.mem_singleton.mp hb]; exact hIM
    · intro b hb; rw [List.mem_singleton.mp hb]; exact none_of_stays F.base hI
    · rintro i h ⟨⟨o1, ho1, _, hc1⟩, ⟨o2, ho2, _, nn, hc2⟩⟩ b hb o ho
      rcases List.mem_cons.mp hb with e | hb
      · subst e; rw [ho1] at ho; cases ho; unfold nd; rw [hc1]
      · rw [List.mem_singleton.mp hb, ho2] at ho; cases ho; unfold nd; rw [hc2]
    · rintro i h ⟨⟨o, ho, _⟩, _⟩ b hb
      rw [List.mem_singleton.mp hb]; exact ⟨o, ho⟩
    · intro i u hi hu
      obtain ⟨v', e1, e2⟩ := hds.get (i := i) (d := rows[i]) (by simp [hi])
      have : u = v' := by
        have hv' : vs[i]? = some u := by simpa using hu
        rw [e1] at hv'; exact (Option.some.inj hv').symm
      subst this
      have e3 : rows.getD i .none = rows[i] := by simp [List.getD, hi]
      show Den _ h3 (rows.getD i .none) u
      rw [e3]
      refine e2.kept (M := I :: (Y ++ M)) (fun b o nb e => ?_) fun q mq => .inl ?_
      · have hbY : b ∉ Y := fun q => nb (.tail _ (List.mem_append_left _ q))
        exact F3.base b o (hB ▸ hideAll_get Y (kX b o hbY e) hbY)
      · rcases List.mem_append.mp mq with q | q
        · exact .tail _ (List.mem_append_left _ q)
        · rcases List.mem_append.mp q with q | q
          · rw [List.mem_singleton.mp q]; exact .head _
          · exact .tail _ (List.mem_append_right _ q)
    · intro i M₁ base h' hi kb G
      have X₁ := (X₀.stays kb).stays G.base
      refine sx_cons (sx_assign (d := acc (i + 1)) G (ex_call X₁ ((ev_local (d := .ref f) G.fd rfl).post fun v h' _ q => by simpa only [Den] using q) (keep_def hkeep) (exl_cons (ev_local (d := acc i) G.fd rfl) (exl_cons (ev_local (d := rows.getD i .none) G.fd rfl) exl_nil)) fun h4 us k4 q => ?_) fun h4 G4 => sx_nil ⟨.inl rfl, G4.names⟩)
      simp only [Dens] at q
      obtain ⟨va, r1, rfl, hva, vb, r2, rfl, hvb, rfl⟩ := q
      exact Ex.call (hcall i _ h4 va vb hi (stays_trans k (stays_trans kb (stays_trans G.base k4))) (G.fd.mok.stays k4) hva hvb)
    · intro h' tk a' G
      exact wpAny_execs_cons ((sx_retD (Q := fun fl h'' => Stay h₀ h'' ∧ Den M h'' (acc rows.length) (match fl with | .ret v => v | _ => .none)) G (ev_local (d := acc rows.length) G.fd rfl) fun v h4 k4 q => ⟨k4, q⟩).run a' hf rfl fun fl h5 t5 a5 q => by
        cases fl with
        | next => exact wpAny_execs_nil ⟨h5, t5, rfl, a5, q⟩
        | _ => exact ⟨h5, t5, rfl, a5, q⟩)
end Mine
end
section
open PySem PySem.W PySem.Calls PyProof.Rows
set_option maxRecDepth 100000
set_option maxHeartbeats 400000
namespace Mine
variable [Bd]
open PySem.Builtin

theorem md_slot : Slot "method_descriptor" "__get__" "method_descriptor.__get__" :=
  .of (owner := "method_descriptor") (n := "__get__") (by rw [typeLookup_type, builtinLookup_eq_fast]; kernel_rfl) (by decide +kernel) (by decide +kernel) (by decide +kernel)
    (by first | exact .inl (by decide +kernel) | exact .inr (by decide +kernel)) (by rw [isSubtype_type]; kernel_rfl)
theorem md_entry : entryFor table "method_descriptor.__get__" = some Builtin.«method_descriptor.__get__» := entryFor_of_tree (by kernel_rfl)
theorem md_args (a b c : Value) : argsOk "method_descriptor.__get__" ⟨[a, b, c], []⟩ := by unfold argsOk; kernel_rfl
theorem md_noSet : typeLookup (.type "method_descriptor") "__set__" = pure none := by rw [typeLookup_type, builtinLookup_eq_fast]; kernel_rfl
theorem md_noDel : typeLookup (.type "method_descriptor") "__delete__" = pure none := by rw [typeLookup_type, builtinLookup_eq_fast]; kernel_rfl
theorem md_owner : isSubtype (.type "list") (.type (".".intercalate ("list.append".cutAt '.').dropLast)) = pure true := by
  have e : (".".intercalate ("list.append".cutAt '.').dropLast) = "list" := by decide +kernel
  rw [e, isSubtype_type]; kernel_rfl
theorem md_told : (Manifest.toldItsClass.contains "list.append") = false := by decide +kernel

noncomputable def boundAppend (r : Addr) : Obj := { cls := .type "builtin_function_or_method", data := .fields #[.builtin "list.append", .ref r] }
section
variable {w : World} {A : Around} {E : Value → Shared → Prop} {h : Heap} {g : Array GenState} {d : Drawn} {t : Nat} {os : OsState} {a : Addr} {xs : Array Value} {k : Nat}
theorem md_get {R : Result → Shared → Prop} (hx : h.get? a = some { cls := .type "list", data := .seq xs k }) (hq : R (.ok (.ret (.ref h.objs.size))) ⟨h.push (boundAppend a), g, d, t, os⟩) :
    codeAny (model prog w) A (.call (.builtin "method_descriptor.__get__") ⟨[.builtin "list.append", .ref a, .type "list"], []⟩) R ⟨h, g, d, t, os⟩ := by
  have hT : (⟨h, g, d, t, os⟩ : Shared).TypeIs (.ref a) "list" := ⟨_, hx, rfl⟩
  have hT5 : (⟨h, g, d, t, os⟩ : Shared).TypeIs (.builtin "list.append") "method_descriptor" := PySem.F.type_list_append
  have f8 := md_owner
  have f9 := md_told
  refine codeAny_call_builtin md_slot.plain md_entry (md_slot.check _ _ _ _ _ _ _ _ hT5 (md_args _ _ _) ?_)
  unfold Builtin.«method_descriptor.__get__»
  repeat (any_goals (first | assumption | wp_step))
theorem la_lookup : typeLookup (.type "list") (Str.ofString "append") = pure (some (.builtin "list.append")) := by rw [typeLookup_type, builtinLookup_eq_fast]; kernel_rfl
theorem la_entry : entryFor table "list.__getattribute__" = some Builtin.«object.__getattribute__» :=
  entryFor_alias (id' := "object.__getattribute__") (by kernel_rfl) (by decide +kernel) (by decide +kernel) (by kernel_rfl)
theorem la_noGetattr : typeLookup (.type "list") "__getattr__" = pure none := by rw [typeLookup_type, builtinLookup_eq_fast]; kernel_rfl
theorem la_tree {tk : Tok} {Q : Fin → Shared → Prop} (hx : h.get? a = some { cls := .type "list", data := .seq xs k }) (hq : Q (.done (.ret (.ref h.objs.size))) ⟨h.push (boundAppend a), g, d, t, os⟩) :
    wpAny (model prog w) A (Builtin.«object.__getattribute__» ⟨[.ref a, .str (Str.ofString "append") tk], []⟩) Q E ⟨h, g, d, t, os⟩ := by
  have hT : (⟨h, g, d, t, os⟩ : Shared).TypeIs (.ref a) "list" := ⟨_, hx, rfl⟩
  have hT5 : (⟨h, g, d, t, os⟩ : Shared).TypeIs (.builtin "list.append") "method_descriptor" := PySem.F.type_list_append
  have f4 := la_lookup
  have f5 := PySem.F.type_list_append
  have f6 := md_slot.lookup
  have f7 := md_noSet
  have f8 := md_noDel
  have hname : (["__module__", "__name__", "__qualname__", "__doc__", "__annotations__"] : List Str).contains (Str.ofString "append") = false := by decide +kernel
  unfold Builtin.«object.__getattribute__»
  repeat (any_goals (first | assumption | wp_step))
  refine md_get hx ?_
  exact wpAny_pure hq
theorem getAttr_append {Q : Value → Shared → Prop} (hx : h.get? a = some { cls := .type "list", data := .seq xs k }) (hq : Q (.ref h.objs.size) ⟨h.push (boundAppend a), g, d, t + 1, os⟩) :
    wpAny (model prog w) A (getAttr (.ref a) (Str.ofString "append") true) Q E ⟨h, g, d, t, os⟩ := by
  have hT : ∀ tk', (⟨h, g, d, tk', os⟩ : Shared).TypeIs (.ref a) "list" := fun _ => ⟨_, hx, rfl⟩
  have f3 := PySem.F.slot_list_getattribute.lookup
  have f4 := PySem.F.slot_list_getattribute.bind (.ref a)
  have f5 := la_noGetattr
  unfold getAttr getAttrBy
  repeat (any_goals (first | assumption | exact hT _ | wp_step))
  refine codeAny_call_builtin PySem.F.slot_list_getattribute.plain la_entry (PySem.F.slot_list_getattribute.check _ _ _ _ _ _ _ _ (hT _) (PySem.F.args_list_getattribute_2 _ _) (la_tree hx ?_))
  exact wpAny_pure hq
end
end Mine
end
section
open PySem PySem.W PySem.Calls PyProof.Rows
set_option maxRecDepth 100000
set_option maxHeartbeats 400000
namespace Mine
variable [Bd]
open PySem.Builtin
section
variable {w : World} {A : Around} {E : Value → Shared → Prop} {s : Shared} {items : Array Value} {b r : Addr} {x : Value}
theorem sub_list_module : isSubtype (.type "list") (.type "module") = pure false := by rw [isSubtype_type]; kernel_rfl
theorem la_quiet {as : Args} : (Code.builtin "list.append" as).quiet = true := Code.quiet_builtin _ (by decide +kernel)
theorem check_append {Q : Unit → Shared → Prop} (hp : s.heap.PlainList r items) (h : ∀ tk, s.toks ≤ tk → Q () { s with toks := tk }) : wpAny (model prog w) A (checkBoundCall "list.append" ⟨[.ref r, x], []⟩) Q E s := by
  obtain ⟨n, ho⟩ := hp
  obtain ⟨hp, g, d, t, os⟩ := s
  have hT : ∀ tk', (⟨hp, g, d, tk', os⟩ : Shared).TypeIs (.ref r) "list" := fun _ => ⟨_, ho, rfl⟩
  have f1 := sub_list_module
  unfold checkBoundCall
  repeat (any_goals (first | assumption | exact hT _ | wp_step))
  exact h t (Nat.le_refl _)
theorem call_boundAppend {Q : Value → Shared → Prop} (hb : s.heap.get? b = some (boundAppend r)) (hp : s.heap.PlainList r items) (hsz : items.size < 2 ^ 24)
    (hQ : ∀ h' tk, h'.PlainList r (items.push x) → Heap.SameBut r s.heap h' → Q .none { s with heap := h', toks := tk }) : wpAny (model prog w) A (call (.ref b) [x]) Q E s := by
  refine wpAny_call (codeAny_of_tree ?_)
  show wpAny _ A.in1 (callAny (.ref b) ⟨[x], []⟩) _ _ s
  simp only [callAny]
  refine wpAny_bind (wpAny_load hb ?_)
  simp only [boundAppend, show (Value.type "builtin_function_or_method" == Value.type "method" || Value.type "builtin_function_or_method" == Value.type "builtin_function_or_method" || Value.type "builtin_function_or_method" == Value.type "method-wrapper") = true by decide, if_true]
  refine KFB.if_so (by decide) ?_
  refine wpAny_bind (check_append hp fun tk _ => ?_)
  refine wpAny_bind (wpAny_pure (wpAny_pure ?_))
  refine ⟨la_quiet, codeAny_builtin entry_list_append ?_⟩
  obtain ⟨n, ho⟩ := hp
  show wpAny _ _ (updateSeq r (·.push x) >>= fun _ => ret .none) _ _ _
  refine wpAny_bind ?_
  refine wpAny_updateSeq ho rfl (wpAny_pure (hQ _ _ ⟨n + 1, ?_⟩ (Heap.SameBut.update ..)))
  rw [Heap.get?_update_self _ ho (by rw [Obj.mapSeq_push_plain]; rfl), Obj.mapSeq_push_plain]
theorem callWith_boundAppend {p : Pos} {args : List (Bool × Sem Value)} {Q : Value → Shared → Prop} (hplain : args.any (·.1) = false)
    (h : wpAny (model prog w) A (evalArgs (.ref b) true args []) (fun x s₁ => s₁.heap.get? b = some (boundAppend r) ∧ wpAny (model prog w) A (call (.ref b) x.pos x.kw) Q E s₁) E s) : wpAny (model prog w) A (callWith p (.ref b) [] args []) Q E s := by
  unfold callWith
  refine wpAny_bind (wpAny_holding (wpAny_mono h (fun x s₁ h₁ => wpAny_bind (wpAny_standAt ?_)) fun _ _ x => x))
  obtain ⟨ho, hcall⟩ := h₁
  simp only [hplain, List.any_nil, Bool.or_false]
  refine wpAny_bind (m := keeperOf (.ref b)) ?_
  unfold keeperOf
  refine wpAny_bind (wpAny_load ho ?_)
  simp only [boundAppend, show (Value.type "builtin_function_or_method" != Value.type "method") = true by decide, show (Value.type "builtin_function_or_method" == Value.type "builtin_function_or_method" || Value.type "builtin_function_or_method" == Value.type "method-wrapper") = true by decide, if_true]
  refine wpAny_pure ?_
  exact wpAny_bind (wpAny_mono hcall (fun r s₂ hr => wpAny_bind (wpAny_holding (wpAny_point (wpAny_pure hr)))) fun _ _ x => x)
end
end Mine
end
section
open PySem PySem.W PySem.Calls PyProof.Rows
set_option maxRecDepth 100000
set_option maxHeartbeats 400000
namespace Mine
variable [Bd]
section
variable {w : World} {n : Nat} {fr : Option Addr} {env : Env} {M M₀ X : List Addr} {h₀ h : Heap} {ρ : List (Str × D)} {σ : List (Addr × List D)} {pos px ap np : Pos} {Q : Flow → Heap → Prop} {e : Expr} {d : D}

theorem sx_bound {x y : Str} {r : Addr} {ds : List D} (F : FS env M₀ X h₀ h ρ ((r, ds) :: σ)) (hy : Ex w n h (eval (.Name y np) env) (fun u _ => u = .ref r))
    (H : ∀ b h', h'.get? b = some (boundAppend r) → b ∉ X → FS env M₀ X h₀ h' ((x, .ref b) :: ρ) ((r, ds) :: σ) → Q .next h')
    (hk : env.kindOf x = some .local ∨ (env.kindOf x = some .cell ∧ (env.cells.lookup x).isSome = true) := by first | exact .inl rfl | exact .inr ⟨rfl, rfl⟩)
    (hs : swapsWith (.Attribute (.Name y np) (Str.ofString "append") ap) (some (.Name x px)) pos.line env = pure false := by rfl) :
    Sx w n fr (exec (.Assign [.Name x px] (.Attribute (.Name y np) (Str.ofString "append") ap) pos) env) h Q := fun A s a hf eh => by
  subst eh
  refine wpAny_Assign_Name (Attribute_name (hy.run a (stays_refl _) fun v h1 t1 k1 a1 p1 => ?_)) hs
  subst p1
  have F1 := F.grow k1
  obtain ⟨⟨vs, ⟨nn, ho⟩, hd⟩, hrX, _⟩ := F1.own r ds (.head _)
  refine getAttr_append ho ?_
  have k2 : Stay h1 (h1.push (boundAppend r)) := push_stays _ _
  have hbX : h1.objs.size ∉ X := fun q => by
    obtain ⟨o, e⟩ := F1.fd.mok _ (List.mem_append_left _ q)
    rw [none_of_le (Nat.le_refl _)] at e; cases e
  refine FS.store (s := { s with heap := h1.push (boundAppend r), toks := t1 + 1 }) (x := x) (d := .ref h1.objs.size) (a1.up k2) (F1.grow k2) Den.ref' hk fun h' tk a' F' kX => ⟨h', tk, rfl, a', H h1.objs.size h' (kX _ _ hbX (Heap.get?_push_size _ rfl)) hbX F'⟩

theorem sx_add {y : Str} {b r : Addr} {ds : List D} (F : FS env M₀ X h₀ h ρ ((r, ds) :: σ)) (hb : h.get? b = some (boundAppend r)) (hy : Ex w n h (eval (.Name y np) env) (fun u _ => u = .ref b)) (x : Ev w n env (X ++ M₀) h e d) (hlen : ds.length < 2 ^ 20)
    (H : ∀ h', FS env M₀ X h₀ h' ρ ((r, ds ++ [d]) :: σ) → Q .next h') (he : starEach [e] env = (false, eval e env) :: starEach [] env := by rfl)
    (hi : interactive env = false := by rfl) (hs : swapsWith (.Call (.Name y np) [e] [] pos) none px.line env = pure false := by rfl) :
    Sx w n fr (exec (.Expr (.Call (.Name y np) [e] [] pos) px) env) h Q := fun A s a hf eh => by
  subst eh
  refine wpAny_Expr (Call_Name rfl (hy.run a (stays_refl _) fun v h1 t1 k1 a1 p1 => ?_)) hi hs
  subst p1
  rw [he]
  refine callWith_boundAppend (r := r) rfl (evalArgs_plain (spliced_cons (x.run a1 k1 fun u h2 t2 k2 a2 p2 => spliced_nil ?_)))
  have k12 := stays_trans k1 k2
  have F2 := F.grow k12
  obtain ⟨⟨vs, hp, hd⟩, hrX, _⟩ := F2.own r ds (.head _)
  have hlv := hd.length
  have hb2 : h2.get? b = some (boundAppend r) := (k12 _ _ hb).get (.inl rfl)
  refine ⟨hb2, call_boundAppend hb2 hp (by simp; omega) fun h3 tk hp3 hs3 => ?_⟩
  obtain ⟨nn, ho⟩ := hp
  refine ⟨h3, tk, rfl, a2.change hs3 (fun o e1 e2 => by rw [ho] at e1; cases e1; cases e2), H h3 (F2.setOwn (vs' := vs ++ [u]) hs3 (by simpa using hp3) ?_)⟩
  exact (hd.keep (.same hs3 (List.mem_append_left _ hrX))).append (.cons (p2.keep (.same hs3 (List.mem_append_left _ hrX))) .nil)
end
end Mine
end
section
open PySem PySem.W PySem.Calls PyProof.Rows
set_option maxRecDepth 100000
set_option maxHeartbeats 400000
namespace Mine
variable [Bd]

noncomputable def keysOk (es : Array DictEntry) : Bool := es.toList.all fun e => match e.key with | .int i _ => e.hash == hashInt i | _ => false
theorem keysOk_of {w : World} {es : Array DictEntry} (h : keysOk es = true) : KeysOf (intKind prog w) es := fun e he => by
  have := List.all_eq_true.mp h e (by simpa using he)
  split at this
  · rename_i i t hk
    exact ⟨i, by rw [hk]; simp [intKind, Value.isInt], show e.hash = hashInt i by simpa using this⟩
  · cases this
theorem sp_map {w : World} {h : Heap} (X : TR w h) : ∃ f, h.MapOf (intKind prog w) 59 f ∧ f 97 = none ∧ ∃ t, f 46 = some (.str (Str.ofString "\\.") t) := by
  have hK := X.K 59 _ (by with_unfolding_all rfl)
  refine ⟨_, ⟨_, _, _, hK, ?_, rfl, keysOk_of (by decide +kernel), fun _ => rfl⟩, ?_, ?_⟩
  · exact ⟨rfl, rfl, rfl⟩
  · rfl
  · exact ⟨_, rfl⟩
end Mine
end
section
open PySem PySem.W PySem.Calls PyProof.Rows
set_option maxRecDepth 100000
set_option maxHeartbeats 400000
namespace Mine
variable [Bd]
open PySem.Builtin PySem.Builtin.Str
section
variable {w : World} {A : Around} {E : Value → Shared → Prop} {s : Shared} {f : Int → Option Value}
theorem sub_KeyError_Lookup : isSubtype (.type "KeyError") (.type "LookupError") = pure true := by rw [isSubtype_type]; kernel_rfl
theorem tl_keep {c : Nat} {Q : Mapped → Shared → Prop} (hh : A.handled = none) (hm : s.heap.MapOf (intKind prog w) 59 f) (hf : f (c : Int) = none)
    (h : ∀ h' tk, Stay s.heap h' → Q .keep { s with heap := h', toks := tk }) : wpAny (model prog w) A (tableLookup (.ref 59) c) Q E s := by
  unfold tableLookup
  refine wpAny_bind (wpAny_attempt ?_)
  refine wpAny_bind (wpAny_mkInt ?_)
  refine wpAny_getItem_missing_of (knd := intKind prog w) (k := (c : Int)) (by simp [intKind, Value.isInt]) (by decide) hh hm hf fun h' e he => ?_
  obtain ⟨ob, tt, hg, hc, hd⟩ := he.there
  refine wpAny_bind (wpAny_isInstance (T := "KeyError") (b := true) ⟨_, hg, by first | exact hc | rfl⟩ sub_KeyError_Lookup ?_)
  refine KFB.if_so rfl ?_
  exact wpAny_bind (wpAny_rule (wpAny_pure (h h' _ (.of he.keeps))))
theorem tl_text {c : Nat} {Q : Mapped → Shared → Prop} {z : Str} {t : Tok} (hm : s.heap.MapOf (intKind prog w) 59 f) (hf : f (c : Int) = some (.str z t))
    (h : ∀ tk, Q (.text z) { s with toks := tk }) : wpAny (model prog w) A (tableLookup (.ref 59) c) Q E s := by
  unfold tableLookup
  refine wpAny_bind (wpAny_attempt ?_)
  refine wpAny_bind (wpAny_mkInt ?_)
  refine wpAny_getItem_of (knd := intKind prog w) (k := (c : Int)) (by simp [intKind, Value.isInt]) hm hf ?_
  refine wpAny_bind (wpAny_of_eq (a := none) rfl ?_)
  refine wpAny_bind (wpAny_of_eq (a := some z) rfl ?_)
  exact wpAny_pure (h _)
end
end Mine
end
section
open PySem PySem.W PySem.Calls PyProof.Rows
set_option maxRecDepth 100000
set_option maxHeartbeats 400000
namespace Mine
variable [Bd]
open PySem.Builtin PySem.Builtin.Str
section
variable {w : World} {A : Around} {E : Value → Shared → Prop} {s : Shared} {f : Int → Option Value} {t : Tok}
theorem tr_a {Q : PySem.Fin → Shared → Prop} (hh : A.handled = none) (hm : s.heap.MapOf (intKind prog w) 59 f) (hf : f 97 = none)
    (h : ∀ h' tk u, Stay s.heap h' → Q (.done (.ret (.str (Str.ofString "a") u))) { s with heap := h', toks := tk }) : wpAny (model prog w) A (Builtin.«str.translate» ⟨[.str ⟨#[97]⟩ t, .ref 59], []⟩) Q E s := by
  unfold Builtin.«str.translate»
  refine wpAny_bind (wpAny_of_eq (a := ((.str ⟨#[97]⟩ t : Value), (⟨#[97]⟩ : Str), (.ref 59 : Value))) (by first | rfl | kernel_rfl) ?_)
  refine KFB.if_not rfl ?_
  dsimp only
  simp only [List.forIn_toArray, List.forIn_cons, List.forIn_nil]
  refine wpAny_bind (wpAny_bind ?_)
  refine KFB.if_not (by decide) ?_
  refine KFB.if_so (by decide +kernel) ?_
  show wpAny _ _ (tableLookup (.ref 59) 97 >>= _) _ _ _
  refine wpAny_bind (tl_keep hh hm hf fun h' tk k => ?_)
  dsimp only
  refine wpAny_bind (wpAny_pure ?_)
  dsimp only
  refine wpAny_pure ?_
  dsimp only
  refine wpAny_pure ?_
  dsimp only
  refine KFB.if_not (by decide +kernel) ?_
  show wpAny _ _ (mkStr (Str.ofString "a") >>= fun v => ret v) _ _ _
  refine wpAny_bind (wpAny_mkStr ?_ (by decide))
  exact wpAny_pure (h h' _ _ k)
theorem tr_dot {Q : PySem.Fin → Shared → Prop} {tz : Tok} (hm : s.heap.MapOf (intKind prog w) 59 f) (hf : f 46 = some (.str (Str.ofString "\\.") tz))
    (h : ∀ tk u, Q (.done (.ret (.str (Str.ofString "\\.") u))) { s with toks := tk }) : wpAny (model prog w) A (Builtin.«str.translate» ⟨[.str ⟨#[46]⟩ t, .ref 59], []⟩) Q E s := by
  unfold Builtin.«str.translate»
  refine wpAny_bind (wpAny_of_eq (a := ((.str ⟨#[46]⟩ t : Value), (⟨#[46]⟩ : Str), (.ref 59 : Value))) (by first | rfl | kernel_rfl) ?_)
  refine KFB.if_not rfl ?_
  dsimp only
  simp only [List.forIn_toArray, List.forIn_cons, List.forIn_nil]
  refine wpAny_bind (wpAny_bind ?_)
  refine KFB.if_not (by decide) ?_
  refine KFB.if_so (by decide +kernel) ?_
  show wpAny _ _ (tableLookup (.ref 59) 46 >>= _) _ _ _
  refine wpAny_bind (tl_text hm hf fun tk => ?_)
  dsimp only
  have hc : ¬ (((Str.ofString "\\.").length == 1 && (Str.ofString "\\.").cps.all fun x => decide (x < 128)) = true) := by decide +kernel
  simp only [hc, if_false]
  refine wpAny_bind (wpAny_pure ?_)
  try dsimp only
  refine wpAny_bind (wpAny_rule ?_)
  refine KFB.if_not rfl ?_
  refine wpAny_bind (tl_text (s := { s with toks := tk }) hm hf fun tk' => ?_)
  try dsimp only
  refine wpAny_pure ?_
  try dsimp only
  refine wpAny_pure ?_
  try dsimp only
  refine KFB.if_not (by decide +kernel) ?_
  show wpAny _ _ (mkStr (Str.ofString "\\.") >>= fun v => ret v) _ _ _
  refine wpAny_bind (wpAny_mkStr ?_ (by decide))
  exact wpAny_pure (h _ _)
end
end Mine
end
section
open PySem PySem.W PySem.Calls PyProof.Rows
set_option maxRecDepth 100000
set_option maxHeartbeats 400000
namespace Mine
variable [Bd]
noncomputable def escOf (c : Str) (r : Str) : Prop := (c = ⟨#[97]⟩ ∧ r = Str.ofString "a") ∨ (c = ⟨#[46]⟩ ∧ r = Str.ofString "\\.")
section
variable {w : World} {n : Nat} {env : Env} {M : List Addr} {h : Heap} {e e₂ : Expr} {p' pos : Pos}
theorem ex_call2v {x : Str} {f v₂ : Value} {P P₁ : Value → Heap → Prop} (X : TR w h) (hf : Ex w n h (eval (.Name x p') env) (fun u _ => u = f)) (hk : KeepOk w f) (arg : Ex w n h (eval e env) P₁) (arg₂ : Ex w n h (eval e₂ env) (fun u _ => u = v₂)) (hP : ∀ v h h', Stay h h' → P₁ v h → P₁ v h')
    (hc : ∀ h' v, Stay h h' → P₁ v h' → Ex w n h' (PySem.call f [v, v₂] []) P) (he : starEach [e, e₂] env = (false, eval e env) :: (false, eval e₂ env) :: starEach [] env := by rfl) : Ex w n h (eval (.Call (.Name x p') [e, e₂] [] pos) env) P := fun A s a k =>
  Call_Name rfl (hf.run a k fun u h1 t1 k1 a p1 => by
    subst p1
    rw [he]
    refine callWith_of (P := fun h' => Frag.In (K39 w.params) h') rfl hk (evalArgs_plain ?_)
    refine spliced_cons (arg.run a (stays_trans k k1) fun v h2 t2 k2 a p2 => spliced_cons (arg₂.run a (stays_trans k (stays_trans k1 k2)) fun u h3 t3 k3 a p3 => spliced_nil ?_))
    subst p3
    have k13 := stays_trans k1 (stays_trans k2 k3)
    exact ⟨(X.stays (stays_trans k k13)).K, (hc h3 v (stays_trans k k13) (hP v _ _ k3 p2)).run a (stays_refl _) fun v h4 t4 k4 a p4 => Then.mk (stays_trans k13 k4) p4⟩)
end

theorem spec_escape {w : World} {n : Nat} {M : List Addr} {h : Heap} {c r : Str} {v : Value} (hcr : escOf c r) (X : TR w h) (hM : MOk M h) (hv : Den M h (.str c) v) (hn : 2 ≤ n) :
    Cx w n h (.call (.ref 69) ⟨[v], []⟩) (fun u h' => Den M h' (.str r) u) := by
  obtain ⟨m, rfl⟩ : ∃ m, n = m + 1 := ⟨n - 1, by omega⟩
  refine cx_def (ρ := [(Str.ofString "pattern", .str c)]) X hM (by with_unfolding_all rfl) (by with_unfolding_all rfl) (fun s k => .of_eq rfl) (.cons hv .nil) (by rfl) fun L Y h₀ h' k F => ?_
  have X₀ := (X.stays k).stays F.base
  refine sx_cons (sx_if (b := true) (tr_plain (M := []) (d := .bool true) (Ex.post (ex_call2v X₀ (ex_builtin X₀ (by with_unfolding_all rfl) rfl) keep_builtin (ev_local (d := .str c) F.fd.nil rfl) (ex_builtin X₀ (by with_unfolding_all rfl) rfl) (fun v h h' k q => q.stays k) fun h' v k q => c_isinstance q) fun v h' _ q => by rw [q]; exact Den.bool') rfl) (fun _ h2 k2 => ?_) fun hb => nomatch hb)
  have F2 := F.grow k2
  refine sx_cons (sx_retD (d := .str r) F2 (fun A s a kk => ?_) fun v h4 k4 q => ⟨k4, q⟩)
  refine wpAny_Call_method rfl rfl rfl PySem.F.plainAttrs_str PySem.F.slot_str_translate PySem.F.type_str_translate ?_
  refine (ev_local (w := w) (n := m) (d := .str c) F2.fd rfl).run a kk fun v h1 t1 k1 a p1 => ?_
  simp only [Den] at p1
  obtain ⟨t, rfl⟩ := p1
  refine ⟨typeIs_str _ _ _, (by intro a e; cases e), ?_⟩
  refine Calls.callWith_builtin rfl (evalArgs_plain (spliced_cons ?_))
  have X₂ := (X₀.stays k2)
  refine (ex_global (w := w) (n := m) X₂ (by with_unfolding_all rfl)).run a (stays_trans kk k1) fun u h3 t3 k3 a p3 => spliced_nil ?_
  subst p3
  have X₃ := X₂.stays (stays_trans kk (stays_trans k1 k3))
  obtain ⟨f, hmf, hf1, tz, hf2⟩ := sp_map X₃
  have hkk := stays_trans k1 k3
  refine wpAny_call_entry PySem.F.slot_str_translate (typeIs_str _ _ _) PySem.F.entry_str_translate ?_ (PySem.F.args_str_translate_2 _ _)
  rcases hcr with ⟨rfl, rfl⟩ | ⟨rfl, rfl⟩
  · exact tr_a (A := A.in1) a.handled hmf hf1 fun h' tk u k4 => ⟨_, rfl, Then.mk (stays_trans hkk k4) Den.str'⟩
  · exact tr_dot hmf hf2 fun tk u => ⟨_, rfl, Then.mk hkk Den.str'⟩
end Mine
end
section
open PySem PySem.W PySem.Calls PyProof.Rows
set_option maxRecDepth 100000
set_option maxHeartbeats 400000
namespace Mine
variable [Bd]
section
variable {w : World} {n : Nat} {fr : Option Addr} {env : Env} {M M₀ X : List Addr} {h₀ h : Heap} {ρ : List (Str × D)} {σ : List (Addr × List D)} {pos px np : Pos} {Q : Flow → Heap → Prop} {e : Expr} {d : D} {st : Addr}

noncomputable def isStar (a : Addr) : D → Bool
  | .ref b => b == a
  | _ => false
noncomputable def PartOk (a : Addr) (d : D) : Prop := d = .ref a ∨ ∃ x, d = .str x
theorem cp_isStar (hd : PartOk st d) : Cp w n M .Is d (.ref st) (isStar st d) := fun h v1 v2 x y A s a k => by
  simp only [Den] at y
  subst y
  rcases hd with rfl | ⟨z, rfl⟩
  · simp only [Den] at x
    subst x
    refine wpAny_is_ref_self (Then.here ?_)
    show Value.bool true = .bool (st == st)
    rw [beq_self_eq_true]
  · simp only [Den] at x
    obtain ⟨t, rfl⟩ := x
    exact wpAny_is_other rfl (by simp) (Then.here rfl)
theorem cp_isNotStar (hd : PartOk st d) : Cp w n M .IsNot d (.ref st) (!isStar st d) := fun h v1 v2 x y A s a k => by
  simp only [Den] at y
  subst y
  rcases hd with rfl | ⟨z, rfl⟩
  · simp only [Den] at x
    subst x
    refine wpAny_isNot_ref_self (Then.here ?_)
    show Value.bool false = .bool (!(st == st))
    rw [beq_self_eq_true]; rfl
  · simp only [Den] at x
    obtain ⟨t, rfl⟩ := x
    exact wpAny_isNot_other rfl (by simp) (Then.here rfl)
theorem sx_assert {test : Expr} (x : Tr w n env h test true) (H : ∀ h', Stay h h' → Q .next h') : Sx w n fr (exec (.Assert test none pos) env) h Q := fun A s a hf eh => by
  subst eh
  exact wpAny_Assert_holds (x.run a (stays_refl _) fun v h1 t1 k1 a1 p1 => ⟨p1, h1, t1, rfl, a1, H h1 k1⟩)
theorem exec_AugAssign_Name (id : Str) (npos : Pos) (op : Operator) (value : Expr) (pos : Pos) : exec (.AugAssign (.Name id npos) op value pos) env = (do
    standAt npos
    let old ← loadName env id
    let v ← holding [old] (eval value env)
    standAt pos
    let new ← operate [old, v] (inplaceOp op old v)
    standAt npos
    bindName env id new
    pure .next) := rfl
theorem sx_aug {y : Str} {i j : Int} (F : FS env M₀ X h₀ h ρ σ) (hd : ρ.lookup y = some (.int i)) (x : Ev w n env (X ++ M₀) h e (.int j)) (H : ∀ h', FS env M₀ X h₀ h' ((y, .int (i + j)) :: ρ) σ → Q .next h')
    (hk : env.kindOf y = some .local := by rfl) : Sx w n fr (exec (.AugAssign (.Name y np) .Add e pos) env) h Q := fun A s a hf eh => by
  subst eh
  rw [exec_AugAssign_Name]
  refine wpAny_bind (wpAny_standAt ?_)
  obtain ⟨v, e1, e2⟩ := F.fd.var y _ hd
  simp only [VarAt, hk] at e1
  obtain ⟨m, hns, hv⟩ := e1
  simp only [Den] at e2
  obtain ⟨t, rfl⟩ := e2
  refine wpAny_bind (wpAny_loadName_local F.fd.kind hk hns hv ?_)
  refine wpAny_bind (wpAny_holding (x.run a (stays_refl _) fun u h1 t1 k1 a1 p1 => ?_))
  simp only [Den] at p1
  obtain ⟨t', rfl⟩ := p1
  refine wpAny_bind (wpAny_standAt ?_)
  refine wpAny_bind (m := operate _ _) (wpAny_operate' (AutoIntOps.iadd_0 ?_))
  show wpAny _ _ _ _ _ _
  refine wpAny_bind (wpAny_standAt (wpAny_bind (bindName_ (FS.store (s := { s with heap := h1, toks := t1 + 1 }) (x := y) (d := .int (i + j)) a1 (F.grow k1) Den.int' (.inl hk) fun h2 t2 a2 F2 _ => ?_))))
  exact wpAny_pure ⟨h2, t2, rfl, a2, H h2 F2⟩
theorem ev_fstr3 {a b z : Str} {p1 p2 p3 : Pos} {c1 c2 : Nat} (x : Ev w n env M h e (.str z)) (hl : a.length + z.length + b.length ≤ 2 ^ 20) : Ev w n env M h (.JoinedStr [.Constant (.str a) c1 p1, .FormattedValue e (-1) none p2, .Constant (.str b) c2 p3] pos) (.str (a ++ z ++ b)) := fun A s ao k => by
  refine JoinedStr_many (joinParts_cons ?_)
  refine (ev_str (w := w) (n := n) (M := M) (h := h) (y := a) (k := c1) (pos := p1) (env := env)).run ao k fun v h1 t1 k1 a1 q1 => ?_
  simp only [Den] at q1
  obtain ⟨t, rfl⟩ := q1
  dsimp only
  refine ⟨by rw [Str.length_append]; show 0 + _ ≤ _; unfold sizeLine; omega, ?_⟩
  refine joinParts_cons (FormattedValue_plain (x.run a1 (stays_trans k k1) fun v h2 t2 k2 a2 q2 => ?_))
  simp only [Den] at q2
  obtain ⟨t', rfl⟩ := q2
  have key : ∀ (tk : Nat), ((Str.empty ++ a) ++ z).length ≤ sizeLine ∧ wpAny (model prog w) A (joinParts ((Str.empty ++ a) ++ z) (evalEach [.Constant (.str b) c2 p3] env)) (fun v s' => Then s (fun h' => Den M h' (.str (a ++ z ++ b)) v) s') NoE { s with heap := h2, toks := tk } := by
    intro tk
    refine ⟨by rw [Str.length_append, Str.length_append]; show 0 + _ + _ ≤ _; unfold sizeLine; omega, ?_⟩
    refine joinParts_consE (joinParts_cons ?_)
    refine (ev_str (w := w) (n := n) (M := M) (h := h2) (y := b) (k := c2) (pos := p3) (env := env)).run (s := { s with heap := h2, toks := tk }) a2 (stays_refl _) fun v h3 t3 k3 a3 q3 => ?_
    simp only [Den] at q3
    obtain ⟨t4, rfl⟩ := q3
    dsimp only
    refine ⟨by rw [Str.length_append, Str.length_append, Str.length_append]; show 0 + _ + _ + _ ≤ _; unfold sizeLine; omega, ?_⟩
    have e0 : Str.empty ++ a ++ z ++ b = a ++ z ++ b := by rw [Str.empty_append]
    rw [e0]
    refine joinParts_nilE (joinParts_nil ?_ (by rw [Str.length_append, Str.length_append]; unfold sizeLine; omega))
    exact Then.mk (stays_trans k1 (stays_trans k2 k3)) Den.str'
  exact wpAny_formatField_str (key _) (key _) (by unfold sizeLine; omega)
end
end Mine
end
section
open PySem PySem.W PySem.Calls PyProof.Rows
set_option maxRecDepth 100000
set_option maxHeartbeats 400000
namespace Mine
variable [Bd]
section
variable {w : World} {n : Nat} {fr : Option Addr} {env : Env} {M M₀ X : List Addr} {h₀ h : Heap} {ρ : List (Str × D)} {σ : List (Addr × List D)} {pos px np ap : Pos} {Q : Flow → Heap → Prop} {e : Expr} {d : D}
theorem FS.lmNe {r : Addr} {ds : List D} (F : FS env M₀ X h₀ h ρ ((r, ds) :: σ)) : env.locals ≠ r := Ne.symm (F.own r ds (.head _)).2.2.1
end

noncomputable def strOf : D → Str
  | .str x => x
  | _ => Str.ofString ""
noncomputable def jSeg (st : Addr) (l : List D) : List D := l.takeWhile fun d => !isStar st d
noncomputable def jRest (st : Addr) (l : List D) : List D := l.dropWhile fun d => !isStar st d
noncomputable def jOuter (st : Addr) : Nat → List D → List Str
  | 0, _ => []
  | _ + 1, [] => []
  | f + 1, _ :: rest => if rest.isEmpty then [Str.ofString ".*"] else
    if (jRest st rest).isEmpty then [Str.ofString ".*", Txt.join (Str.ofString "") ((jSeg st rest).map strOf)] else
      (Str.ofString "(?>.*?" ++ Txt.join (Str.ofString "") ((jSeg st rest).map strOf) ++ Str.ofString ")") :: jOuter st f (jRest st rest)
noncomputable def joined (st : Addr) (l : List D) : Str := Str.ofString "(?s:" ++ Txt.join (Str.ofString "") ((jSeg st l).map strOf ++ jOuter st l.length (jRest st l)) ++ Str.ofString ")\\Z"
noncomputable def NoTwo (st : Addr) (l : List D) : Prop := ∀ i, isStar st (l.getD i .none) = true → isStar st (l.getD (i + 1) .none) = false
theorem jSeg_rest (st : Addr) (l : List D) : jSeg st l ++ jRest st l = l := List.takeWhile_append_dropWhile
end Mine
end
section
open PySem PySem.W PySem.Calls PyProof.Rows
set_option maxRecDepth 100000
set_option maxHeartbeats 400000
namespace Mine
variable [Bd]

theorem jSeg_get {st : Addr} : ∀ {l : List D} {i : Nat}, i < (jSeg st l).length → l.getD i .none = (jSeg st l).getD i .none ∧ isStar st (l.getD i .none) = false ∧ i < l.length := by
  intro l
  induction l with
  | nil => intro i h; simp [jSeg] at h
  | cons a l ih =>
    intro i h
    unfold jSeg at h ⊢
    rw [List.takeWhile_cons] at h ⊢
    by_cases ha : (!isStar st a) = true
    · rw [if_pos ha] at h ⊢
      cases i with
      | zero => exact ⟨rfl, by simpa using ha, by simp⟩
      | succ i =>
        obtain ⟨h1, h2, h3⟩ := ih (i := i) (by unfold jSeg; simpa using h)
        unfold jSeg at h1
        exact ⟨by simpa using h1, by simpa using h2, by simpa using h3⟩
    · rw [if_neg ha] at h; simp at h
theorem jSeg_end {st : Addr} : ∀ {l : List D}, (jSeg st l).length < l.length → isStar st (l.getD (jSeg st l).length .none) = true := by
  intro l
  induction l with
  | nil => intro h; simp at h
  | cons a l ih =>
    intro h
    unfold jSeg at h ⊢
    rw [List.takeWhile_cons] at h ⊢
    by_cases ha : (!isStar st a) = true
    · rw [if_pos ha] at h ⊢
      have := ih (by unfold jSeg; simpa using h)
      unfold jSeg at this
      simpa using this
    · rw [if_neg ha]; simpa using ha
theorem jSeg_le {st : Addr} {l : List D} : (jSeg st l).length ≤ l.length := by
  have := congrArg List.length (jSeg_rest st l)
  rw [List.length_append] at this; omega
theorem jRest_eq {st : Addr} {l : List D} : jRest st l = l.drop (jSeg st l).length := by
  have := jSeg_rest st l
  generalize jSeg st l = a at *
  generalize jRest st l = b at *
  rw [← this, List.drop_left]
theorem jSeg_cond {st : Addr} {l : List D} {i : Nat} (hi : i ≤ (jSeg st l).length) : (decide (i < l.length) && !isStar st (l.getD i .none)) = decide (i < (jSeg st l).length) := by
  by_cases h : i < (jSeg st l).length
  · obtain ⟨_, h2, h3⟩ := jSeg_get h
    rw [h2]; simp [h, h3]
  · have e : i = (jSeg st l).length := by omega
    subst e
    by_cases h2 : (jSeg st l).length < l.length
    · rw [jSeg_end h2]; simp
    · simp [h2]
theorem take_snoc {l : List D} {i : Nat} (hi : i < l.length) : l.take i ++ [l.getD i .none] = l.take (i + 1) := by
  rw [List.take_add_one, List.getElem?_eq_getElem hi]; simp [List.getD, hi]
end Mine
end
section
open PySem PySem.W PySem.Calls PyProof.Rows
set_option maxRecDepth 100000
set_option maxHeartbeats 400000
namespace Mine
variable [Bd]
theorem sx_break {w : World} {n : Nat} {fr : Option Addr} {env : Env} {h : Heap} {Q : Flow → Heap → Prop} {pos : Pos} (q : Q .brk h) : Sx w n fr (exec (.Break pos) env) h Q := fun A s a hf eh => by
  show wpAny (model prog w) A (PySem.standAt pos >>= fun _ => (Pure.pure Flow.brk : Sem Flow)) _ _ _
  exact wpAny_bind (wpAny_standAt (wpAny_pure ⟨s.heap, s.toks, rfl, a, eh ▸ q⟩))
theorem ev_strM {w : World} {n : Nat} {env : Env} {M M' : List Addr} {h : Heap} {e : Expr} {x : Str} (y : Ev w n env M h e (.str x)) : Ev w n env M' h e (.str x) := y.post fun v h' _ q => by simp only [Den] at q ⊢; exact q
theorem join_len {l : List Str} {K : Nat} (h : ∀ x ∈ l, x.length ≤ K) : (Txt.join (Str.ofString "") l).length ≤ l.length * K := by
  show (Builtin.Str.glued _ l).length ≤ _
  rw [StrLaws.glued_eq_join]
  refine Nat.le_trans (StrLaws.join_length_le _ _) ?_
  have : ∀ (l : List Str), (∀ x ∈ l, x.length ≤ K) → (l.map (·.length)).sum ≤ l.length * K := by
    intro l
    induction l with
    | nil => intro _; simp
    | cons a l ih =>
      intro h
      have h1 := h a (.head _)
      have h2 := ih fun x m => h x (.tail _ m)
      rw [List.map_cons, List.sum_cons, List.length_cons, Nat.succ_mul]; omega
  have h1 := this l h
  show _ + l.length * 0 ≤ _
  omega
theorem jSeg_mem {st : Addr} {l : List D} {d : D} (m : d ∈ jSeg st l) : d ∈ l := (List.takeWhile_sublist _).subset m
theorem jRest_mem {st : Addr} {l : List D} {d : D} (m : d ∈ jRest st l) : d ∈ l := (List.dropWhile_sublist _).subset m
theorem jOuter_ok {st : Addr} (f : Nat) : ∀ (l : List D), l.length ≤ 8 → (∀ d ∈ l, (strOf d).length ≤ 64) → (jOuter st f l).length ≤ 2 * l.length ∧ ∀ x ∈ jOuter st f l, x.length ≤ 1024 := by
  induction f with
  | zero => intro l _ _; exact ⟨Nat.zero_le _, fun _ m => nomatch m⟩
  | succ f ih =>
    intro l hl hx
    cases l with
    | nil => exact ⟨Nat.zero_le _, fun _ m => nomatch m⟩
    | cons a rest =>
      have hseg : (jSeg st rest).length ≤ rest.length := jSeg_le
      rw [List.length_cons] at hl
      have hfix : (Txt.join (Str.ofString "") ((jSeg st rest).map strOf)).length ≤ 512 := by
        have := join_len (l := (jSeg st rest).map strOf) (K := 64) fun x m => by
          obtain ⟨d, hd, rfl⟩ := List.mem_map.mp m
          exact hx d (.tail _ (jSeg_mem hd))
        rw [List.length_map] at this
        omega
      have hr : (jRest st rest).length ≤ rest.length := by rw [jRest_eq, List.length_drop]; omega
      have ihr := ih (jRest st rest) (by omega) fun d m => hx d (.tail _ (jRest_mem m))
      rw [jOuter]
      generalize Txt.join (Str.ofString "") ((jSeg st rest).map strOf) = fx at *
      split
      · exact ⟨by simp; omega, fun x m => by rw [List.mem_singleton.mp m]; decide⟩
      · rename_i hne
        have hr1 : 1 ≤ rest.length := by cases rest with
          | nil => exact absurd rfl hne
          | cons => simp
        split
        · refine ⟨by simp; omega, fun x m => ?_⟩
          rcases List.mem_cons.mp m with rfl | m
          · decide
          · rw [List.mem_singleton.mp m]; omega
        · refine ⟨by simp; omega, fun x m => ?_⟩
          rcases List.mem_cons.mp m with rfl | m
          · rw [Str.length_append, Str.length_append]; show 6 + _ + 1 ≤ _; omega
          · exact ihr.2 x m
end Mine
end
section
open PySem PySem.W PySem.Calls PyProof.Rows
set_option maxRecDepth 100000
set_option maxHeartbeats 400000
namespace Mine
variable [Bd]

noncomputable def jρ (i N : Nat) (l : List D) (st b r : Addr) : List (Str × D) :=
  [(Str.ofString "i", .int (i : Int)), (Str.ofString "n", .int (N : Int)), (Str.ofString "add", .ref b), (Str.ofString "res", .ref r), (Str.ofString "inp", .list l), (Str.ofString "STAR", .ref st)]
theorem spec_join {w : World} {n : Nat} {M : List Addr} {h : Heap} {l : List D} {st : Addr} {v : Value} (X : TR w h) (hM : MOk M h) (hv : Den M h (.list l) v) (hl : ∀ d ∈ l, PartOk st d) (hno : NoTwo st l) (hlen : l.length ≤ 8) (hstr : ∀ d ∈ l, (strOf d).length ≤ 64) (hn : 3 ≤ n) :
    Cx w n h (.call (.ref 83) ⟨[v, .ref st], []⟩) (fun u h' => Den M h' (.str (joined st l)) u) := by
  obtain ⟨m, rfl⟩ : ∃ m, n = m + 1 := ⟨n - 1, by omega⟩
  have i63 : ∀ {k : Nat}, k < l.length → (k : Int) < 2 ^ 63 := fun h => by omega
  refine cx_def (ρ := [(Str.ofString "inp", .list l), (Str.ofString "STAR", .ref st)]) X hM (by with_unfolding_all rfl) (by with_unfolding_all rfl) (fun s k => .of_eq rfl) (.cons hv (.cons Den.ref' .nil)) (by rfl) fun L Y h₀ h' k F => ?_
  have X₀ := X.stays k
  refine sx_cons (sx_newList F exl_nil (by decide) fun r h1 hr F1 => ?_)
  refine sx_cons (sx_bound F1 ((ev_local (d := .ref r) F1.fd rfl).post fun v h' _ q => by simpa only [Den] using q) fun b h2 hb2 hbX F2 => ?_)
  obtain ⟨B, hB⟩ : ∃ B, B = hideAll h2 (r :: Y) := ⟨_, rfl⟩
  have FB := F2.rebase
  rw [← hB] at FB
  have hidden : Stay h₀ B := hB ▸ F2.hidden
  have hbB : B.get? b = some (boundAppend r) := hB ▸ hideAll_get _ hb2 hbX
  have bAt : ∀ {H}, Stay B H → H.get? b = some (boundAppend r) := fun kB => (kB _ _ hbB).get (.inl rfl)
  have X₁ : ∀ {H}, Stay B H → TR w H := fun kB => X₀.stays (stays_trans hidden kB)
  refine sx_cons (sx_tuple_sw (xs := [Str.ofString "i", Str.ofString "n"]) (ds := [.int 0, .int l.length]) FB (exl_cons ev_int (exl_cons (ev_len_list (X₁ FB.base) (ev_local (d := .list l) FB.fd rfl) (by omega)) exl_nil)) rfl rfl (fun h3 F3 => ?_) (by show 2 ≤ 2 ^ 20; decide) (by rfl))
  have F3 := F3.names (ρ' := jρ 0 l.length l st b r)
  have hsl : (jSeg st l).length ≤ l.length := jSeg_le
  refine sx_via (P := fun fl H => fl = .next ∧ FS F3.envOf M (r :: Y) B H (jρ (jSeg st l).length l.length l st b r) [(r, jSeg st l)]) (sx_while (fun j H => ∃ i, i ≤ (jSeg st l).length ∧ j = l.length - i ∧ FS F3.envOf M (r :: Y) B H (jρ i l.length l st b r) [(r, (jSeg st l).take i)]) ?_ l.length ⟨0, Nat.zero_le _, by omega, F3⟩) ?_
  · rintro j H ⟨i, hi, rfl, G⟩
    refine ⟨decide (i < l.length) && !isStar st (l.getD i .none), tr_and2 ?_ fun hlt => ?_, fun hb' h4 k4 => ?_, fun hb' h4 k4 => ?_⟩
    · rw [show decide (i < l.length) = decide ((i : Int) < (l.length : Int)) by simp]
      exact tr_cmp (M := []) (ev_local (d := .int i) G.fd.nil rfl) (ev_local (d := .int l.length) G.fd.nil rfl) cp_lt
    · have hlt : i < l.length := by simpa using hlt
      have hm : l.getD i .none ∈ l := by simp [List.getD, hlt]
      exact tr_cmp (M := _) (ev_item (l := l) (d := l.getD i .none) (ev_local G.fd rfl) (ev_local (d := .int i) G.fd rfl) (Int.natCast_nonneg _) (i63 hlt) (by simp [List.getD, hlt])) (ev_local (d := .ref st) G.fd rfl) (cp_isNotStar (hl _ hm))
    · rw [jSeg_cond hi] at hb'
      have hlt : i < (jSeg st l).length := by simpa using hb'
      obtain ⟨e1, e2, e3⟩ := jSeg_get hlt
      have G4 := G.grow k4
      have hm : l.getD i .none ∈ l := by simp [List.getD, e3]
      refine sx_cons (sx_add (d := l.getD i .none) G4 (bAt G4.base) ((ev_local (d := .ref b) G4.fd rfl).post fun v h' _ q => by simpa only [Den] using q) (ev_item (l := l) (d := l.getD i .none) (ev_local G4.fd rfl) (ev_local (d := .int i) G4.fd rfl) (Int.natCast_nonneg _) (i63 e3) (by simp [List.getD, e3])) (by rw [List.length_take]; omega) fun h5 G5 => ?_)
      rw [e1, take_snoc hlt] at G5
      refine sx_cons (sx_aug (i := (i : Int)) (j := 1) G5 rfl ev_int fun h6 G6 => sx_nil ⟨l.length - (i + 1), by omega, i + 1, by omega, rfl, ?_⟩)
      have e : ((i : Int) + 1) = ((i + 1 : Nat) : Int) := rfl
      rw [e] at G6
      exact G6.names
    · rw [jSeg_cond hi] at hb'
      have hge : i = (jSeg st l).length := by have : ¬ i < (jSeg st l).length := by simpa using hb'
                                              omega
      subst hge
      rw [List.take_length] at G
      exact ⟨rfl, G.grow k4⟩
  · rintro fl H4 ⟨rfl, G4⟩
    obtain ⟨total, htot⟩ : ∃ t, t = jSeg st l ++ (jOuter st l.length (jRest st l)).map D.str := ⟨_, rfl⟩
    refine sx_via (P := fun fl H => fl = .next ∧ FS F3.envOf M (r :: Y) B H (jρ l.length l.length l st b r) [(r, total)]) (sx_while (fun j H => ∃ i acc f, i ≤ l.length ∧ j = l.length - i ∧ l.length - i ≤ f ∧ (i < l.length → isStar st (l.getD i .none) = true) ∧ acc ++ (jOuter st f (l.drop i)).map D.str = total ∧ acc.length ≤ 2 * i ∧
      FS F3.envOf M (r :: Y) B H (jρ i l.length l st b r) [(r, acc)]) ?_ (l.length - (jSeg st l).length) ⟨(jSeg st l).length, jSeg st l, l.length, hsl, rfl, by omega, jSeg_end, by rw [htot, jRest_eq], by omega, G4⟩) ?_
    · rintro j H ⟨i, acc, f, hi, rfl, hf, hstar, hacc, hal, G⟩
      refine ⟨decide (i < l.length), ?_, fun hb' h5 k5 => ?_, fun hb' h5 k5 => ?_⟩
      · rw [show decide (i < l.length) = decide ((i : Int) < (l.length : Int)) by simp]
        exact tr_cmp (M := []) (ev_local (d := .int i) G.fd.nil rfl) (ev_local (d := .int l.length) G.fd.nil rfl) cp_lt
      · have hlt : i < l.length := by simpa using hb'
        have G5 := G.grow k5
        have hm : l.getD i .none ∈ l := by simp [List.getD, hlt]
        obtain ⟨f, rfl⟩ : ∃ f', f = f' + 1 := ⟨f - 1, by omega⟩
        have hdrop : l.drop i = l.getD i .none :: l.drop (i + 1) := by
          have h1 : l.getD i .none = l[i] := by simp [List.getD, hlt]
          rw [h1, List.getElem_cons_drop]
        refine sx_cons (sx_assert (hstar hlt ▸ tr_cmp (M := _) (ev_item (l := l) (d := l.getD i .none) (ev_local G5.fd rfl) (ev_local (d := .int i) G5.fd rfl) (Int.natCast_nonneg _) (i63 hlt) (by simp [List.getD, hlt])) (ev_local (d := .ref st) G5.fd rfl) (cp_isStar (hl _ hm))) fun h6 k6 => ?_)
        refine sx_cons (sx_aug (i := (i : Int)) (j := 1) (G5.grow k6) rfl ev_int fun h7 G7 => ?_)
        have e : ((i : Int) + 1) = ((i + 1 : Nat) : Int) := rfl
        rw [e] at G7
        have G7 := G7.names (ρ' := jρ (i + 1) l.length l st b r)
        rw [hdrop, jOuter] at hacc
        refine sx_cons (sx_if (b := ((i + 1 : Nat) : Int) == (l.length : Int)) (tr_cmp (M := []) (ev_local (d := .int ((i + 1 : Nat) : Int)) G7.fd.nil rfl) (ev_local (d := .int l.length) G7.fd.nil rfl) cp_eqi) (fun hc h8 k8 => ?_) fun hc h8 k8 => ?_)
        · have hc : i + 1 = l.length := by have : ((i + 1 : Nat) : Int) = (l.length : Int) := by simpa using hc
                                           omega
          have G8 := G7.grow k8
          refine sx_cons (sx_add (d := .str (Str.ofString ".*")) G8 (bAt G8.base) ((ev_local (d := .ref b) G8.fd rfl).post fun v h' _ q => by simpa only [Den] using q) ev_str (by omega) fun h9 G9 => sx_cons (sx_break ⟨rfl, ?_⟩))
          have e2 : acc ++ [D.str (Str.ofString ".*")] = total := by
            rw [← hacc, hc, List.drop_length]; rfl
          rw [e2, hc] at G9
          exact G9
        · have hlt2 : i + 1 < l.length := by
            have : ¬ ((i + 1 : Nat) : Int) = (l.length : Int) := by simpa using hc
            omega
          have G8 := G7.grow k8
          have hm2 : l.getD (i + 1) .none ∈ l := by simp [List.getD, hlt2]
          refine sx_nil (sx_cons (sx_assert ?_ fun h9 k9 => ?_))
          · have := hno i (hstar hlt)
            rw [show true = !isStar st (l.getD (i + 1) .none) by rw [this]; rfl]
            exact tr_cmp (M := _) (ev_item (l := l) (d := l.getD (i + 1) .none) (ev_local G8.fd rfl) (ev_local (d := .int ((i + 1 : Nat) : Int)) G8.fd rfl) (Int.natCast_nonneg _) (i63 hlt2) (by simp [List.getD, hlt2])) (ev_local (d := .ref st) G8.fd rfl) (cp_isNotStar (hl _ hm2))
          refine sx_cons (sx_newList (G8.grow k9) exl_nil (by decide) fun r2 h10 hr2 G10 => ?_)
          obtain ⟨rest, hrest⟩ : ∃ x, x = l.drop (i + 1) := ⟨_, rfl⟩
          have hrl : rest.length = l.length - (i + 1) := by rw [hrest, List.length_drop]
          have hrg : ∀ q, rest.getD q .none = l.getD (i + 1 + q) .none := fun q => by rw [hrest]; simp [List.getD]
          have hsr : (jSeg st rest).length ≤ rest.length := jSeg_le
          refine sx_via (P := fun fl H => fl = .next ∧ FS F3.envOf M (r2 :: r :: Y) B H ((Str.ofString "fixed", .ref r2) :: jρ (i + 1 + (jSeg st rest).length) l.length l st b r) [(r2, jSeg st rest), (r, acc)]) (sx_while (fun j H => ∃ q, q ≤ (jSeg st rest).length ∧ j = rest.length - q ∧ FS F3.envOf M (r2 :: r :: Y) B H ((Str.ofString "fixed", .ref r2) :: jρ (i + 1 + q) l.length l st b r) [(r2, (jSeg st rest).take q), (r, acc)]) ?_ rest.length ⟨0, Nat.zero_le _, by omega, G10.names⟩) ?_
          · rintro j H ⟨q, hq, rfl, K⟩
            have ecast : decide (i + 1 + q < l.length) = decide (q < rest.length) := decide_eq_decide.mpr (by omega)
            refine ⟨decide (i + 1 + q < l.length) && !isStar st (l.getD (i + 1 + q) .none), tr_and2 ?_ fun hltq => ?_, fun hb' h11 k11 => ?_, fun hb' h11 k11 => ?_⟩
            · rw [show decide (i + 1 + q < l.length) = decide (((i + 1 + q : Nat) : Int) < (l.length : Int)) from decide_eq_decide.mpr (by omega)]
              exact tr_cmp (M := []) (ev_local (d := .int ((i + 1 + q : Nat) : Int)) K.fd.nil rfl) (ev_local (d := .int l.length) K.fd.nil rfl) cp_lt
            · have hltq : i + 1 + q < l.length := by simpa using hltq
              have hmq : l.getD (i + 1 + q) .none ∈ l := by simp [List.getD, hltq]
              exact tr_cmp (M := _) (ev_item (l := l) (d := l.getD (i + 1 + q) .none) (ev_local K.fd rfl) (ev_local (d := .int ((i + 1 + q : Nat) : Int)) K.fd rfl) (Int.natCast_nonneg _) (i63 hltq) (by rw [Int.toNat_natCast]; simp [List.getD, hltq])) (ev_local (d := .ref st) K.fd rfl) (cp_isNotStar (hl _ hmq))
            · rw [ecast, ← hrg q, jSeg_cond hq] at hb'
              have hlq : q < (jSeg st rest).length := by simpa using hb'
              obtain ⟨e1, e2, e3⟩ := jSeg_get hlq
              have K1 := K.grow k11
              have hxq : i + 1 + q < l.length := by omega
              refine sx_cons (sx_append (d := l.getD (i + 1 + q) .none) K1 ((ev_local (d := .ref r2) K1.fd rfl).post fun v h' _ q => by simpa only [Den] using q) (ev_item (l := l) (d := l.getD (i + 1 + q) .none) (ev_local K1.fd rfl) (ev_local (d := .int ((i + 1 + q : Nat) : Int)) K1.fd rfl) (Int.natCast_nonneg _) (i63 hxq) (by rw [Int.toNat_natCast]; simp [List.getD, hxq])) (by rw [List.length_take]; omega) fun h12 K2 => ?_)
              rw [← hrg q, e1, take_snoc hlq] at K2
              refine sx_cons (sx_aug (i := ((i + 1 + q : Nat) : Int)) (j := 1) K2 rfl ev_int fun h13 K3 => sx_nil ⟨rest.length - (q + 1), by omega, q + 1, by omega, rfl, ?_⟩)
              have e : (((i + 1 + q : Nat) : Int) + 1) = ((i + 1 + (q + 1) : Nat) : Int) := rfl
              rw [e] at K3
              exact K3.names
            · rw [ecast, ← hrg q, jSeg_cond hq] at hb'
              have hge : q = (jSeg st rest).length := by have : ¬ q < (jSeg st rest).length := by simpa using hb'
                                                         omega
              subst hge
              rw [List.take_length] at K
              exact ⟨rfl, K.grow k11⟩
          · rintro fl H11 ⟨rfl, G11⟩
            have hdropr : l.drop (i + 1) = rest := hrest.symm
            rw [hdropr] at hacc
            have hrne : rest.isEmpty = false := by
              cases hre : rest with
              | nil => rw [hre] at hrl; simp at hrl; omega
              | cons _ _ => rfl
            rw [hrne] at hacc
            have hseg : ((jSeg st rest).map strOf).map D.str = jSeg st rest := by
              rw [List.map_map]
              refine Eq.trans (List.map_congr_left fun d m => ?_) (List.map_id _)
              rcases hl d (by rw [hrest] at m; exact List.mem_of_mem_drop (jSeg_mem m)) with rfl | ⟨x, rfl⟩
              · obtain ⟨j, hj, e⟩ := List.getElem_of_mem m
                have h1 := (jSeg_get hj).1
                have h2 := (jSeg_get hj).2.1
                rw [h1] at h2
                simp [List.getD, hj, e, isStar] at h2
              · rfl
            have hsmem : ∀ d ∈ jSeg st rest, (strOf d).length ≤ 64 := fun d m => hstr d (by rw [hrest] at m; exact List.mem_of_mem_drop (jSeg_mem m))
            obtain ⟨fx, hfx⟩ : ∃ fx, fx = Txt.join (Str.ofString "") ((jSeg st rest).map strOf) := ⟨_, rfl⟩
            have hfxl : fx.length ≤ 512 := by
              have := join_len (l := (jSeg st rest).map strOf) (K := 64) fun x m => by
                obtain ⟨d, hd, rfl⟩ := List.mem_map.mp m
                exact hsmem d hd
              rw [List.length_map, ← hfx] at this; omega
            refine sx_cons (sx_assign (d := .str fx) G11 (by
              rw [hfx]
              refine ev_strM (ev_join (M := []) ev_str (by rw [hseg]; exact ev_local (d := .list (jSeg st rest)) (G11.view (x := Str.ofString "fixed") rfl (.head _)) rfl) (joinOk_short _ _ (by decide) (by rw [List.length_map]; omega) fun x m => ?_))
              obtain ⟨d, hd, rfl⟩ := List.mem_map.mp m
              have := hsmem d hd; omega) fun h12 G12 => ?_)
            have G12 := G12.drop G12.lmNe
            have hre2 : jRest st rest = l.drop (i + 1 + (jSeg st rest).length) := by rw [jRest_eq, hrest, List.drop_drop]
            have hrest2 : (jRest st rest).isEmpty = decide (i + 1 + (jSeg st rest).length = l.length) := by
              rw [hre2, Bool.eq_iff_iff, List.isEmpty_iff, List.drop_eq_nil_iff, decide_eq_true_eq]
              omega
            rw [← hfx] at hacc
            refine sx_cons (sx_if (b := ((i + 1 + (jSeg st rest).length : Nat) : Int) == (l.length : Int)) (tr_cmp (M := []) (ev_local (d := .int ((i + 1 + (jSeg st rest).length : Nat) : Int)) G12.fd.nil rfl) (ev_local (d := .int l.length) G12.fd.nil rfl) cp_eqi) (fun hc h13 k13 => ?_) fun hc h13 k13 => ?_)
            · have hc : i + 1 + (jSeg st rest).length = l.length := by have : ((i + 1 + (jSeg st rest).length : Nat) : Int) = (l.length : Int) := by simpa using hc
                                                                       omega
              have G13 := G12.grow k13
              refine sx_cons (sx_add (d := .str (Str.ofString ".*")) G13 (bAt G13.base) ((ev_local (d := .ref b) G13.fd rfl).post fun v h' _ q => by simpa only [Den] using q) ev_str (by omega) fun h14 G14 => ?_)
              refine sx_cons (sx_add (d := .str fx) G14 (bAt G14.base) ((ev_local (d := .ref b) G14.fd rfl).post fun v h' _ q => by simpa only [Den] using q) (ev_local (d := .str fx) G14.fd rfl) (by simp; omega) fun h15 G15 => sx_nil (sx_nil ?_))
              refine ⟨0, by omega, l.length, total, f, Nat.le_refl _, by omega, by omega, fun q => absurd q (Nat.lt_irrefl _), by rw [List.drop_length]; cases f <;> simp [jOuter], by rw [← hacc, hrest2, decide_eq_true hc]; simp; omega, ?_⟩
              have e2 : acc ++ [D.str (Str.ofString ".*")] ++ [D.str fx] = total := by
                rw [← hacc, hrest2, decide_eq_true hc]; simp
              rw [e2, hc] at G15
              exact G15.names
            · have hc : i + 1 + (jSeg st rest).length < l.length := by
                have : ¬ ((i + 1 + (jSeg st rest).length : Nat) : Int) = (l.length : Int) := by simpa using hc
                omega
              have G13 := G12.grow k13
              refine sx_cons (sx_add (d := .str (Str.ofString "(?>.*?" ++ fx ++ Str.ofString ")")) G13 (bAt G13.base) ((ev_local (d := .ref b) G13.fd rfl).post fun v h' _ q => by simpa only [Den] using q) (ev_fstr3 (ev_local (d := .str fx) G13.fd rfl) (by show 6 + _ + 1 ≤ _; omega)) (by omega) fun h14 G14 => sx_nil (sx_nil ?_))
              refine ⟨l.length - (i + 1 + (jSeg st rest).length), by omega, i + 1 + (jSeg st rest).length, _, f, by omega, rfl, by omega, fun _ => ?_, ?_, by simp; omega, G14.names⟩
              · have := jSeg_end (st := st) (l := rest) (by omega)
                rwa [hrg] at this
              · rw [← hacc, hrest2, decide_eq_false (by omega), ← hre2]; simp
      · have hge : i = l.length := by have : ¬ i < l.length := by simpa using hb'
                                      omega
        subst hge
        have e : acc = total := by
          rw [List.drop_length] at hacc
          cases f <;> simpa [jOuter] using hacc
        subst e
        exact ⟨rfl, G.grow k5⟩
    · rintro fl H5 ⟨rfl, G5⟩
      refine sx_cons (sx_assert (by
        rw [show true = ((l.length : Int) == (l.length : Int)) by simp]
        exact tr_cmp (M := []) (ev_local (d := .int l.length) G5.fd.nil rfl) (ev_local (d := .int l.length) G5.fd.nil rfl) cp_eqi) fun h6 k6 => ?_)
      have G6 := G5.grow k6
      have hseglen : (jSeg st l).length ≤ 8 := by omega
      have hor := jOuter_ok (st := st) l.length (jRest st l) (by rw [jRest_eq, List.length_drop]; omega) fun d m => hstr d (jRest_mem m)
      have hrl : (jRest st l).length ≤ 8 := by rw [jRest_eq, List.length_drop]; omega
      have htt : total = (((jSeg st l).map strOf) ++ jOuter st l.length (jRest st l)).map D.str := by
        rw [htot, List.map_append, List.map_map]
        congr 1
        refine (List.map_id _).symm.trans (List.map_congr_left fun d m => ?_)
        rcases hl d (jSeg_mem m) with rfl | ⟨x, rfl⟩
        · obtain ⟨j, hj, e⟩ := List.getElem_of_mem m
          have := (jSeg_get hj).1
          have h2 := (jSeg_get hj).2.1
          rw [this] at h2
          simp [List.getD, hj, e, isStar] at h2
        · rfl
      rw [htt] at G6
      generalize hL : ((jSeg st l).map strOf) ++ jOuter st l.length (jRest st l) = ls at G6
      have hls : ∀ x ∈ ls, x.length ≤ 1024 := fun x m => by
        rw [← hL] at m
        rcases List.mem_append.mp m with m | m
        · obtain ⟨d, hd, rfl⟩ := List.mem_map.mp m
          have := hstr d (jSeg_mem hd); omega
        · exact hor.2 x m
      have hln : ls.length ≤ 32 := by rw [← hL, List.length_append, List.length_map]; have := hor.1; omega
      have hjl := join_len hls
      refine sx_cons (sx_assign (d := .str (Txt.join (Str.ofString "") ls)) G6 (ev_strM (ev_join (M := []) ev_str (ev_local (d := .list (ls.map D.str)) (G6.view (x := Str.ofString "res") rfl (.head _)) rfl) (joinOk_short _ _ (by decide) (by omega) hls))) fun h7 G7 => ?_)
      refine sx_cons (sx_retD G7 (ev_fstr3 (ev_local (d := .str (Txt.join (Str.ofString "") ls)) G7.fd rfl) (by show 4 + _ + 3 ≤ _; omega)) fun v h8 k8 q => ⟨stays_trans hidden k8, ?_⟩)
      unfold joined
      rw [hL]
      exact q
end Mine
end
section
open PySem PySem.W PySem.Calls PyProof.Rows
set_option maxRecDepth 100000
set_option maxHeartbeats 400000
namespace Mine
variable [Bd]

noncomputable def esc1 (c : Str) : Str := if c == Str.ofString "." then Str.ofString "\\." else c
noncomputable def lastStar (st : Addr) (acc : List D) : Bool := match acc.getLast? with
  | some d => isStar st d
  | none => false
noncomputable def trStep (st : Addr) (acc : List D) (c : Str) : List D :=
  if c == Str.ofString "*" then (if lastStar st acc then acc else acc ++ [.ref st])
  else if c == Str.ofString "?" then acc ++ [.str (Str.ofString ".")] else acc ++ [.str (esc1 c)]
noncomputable def trans (st : Addr) (pat : Str) (i : Nat) : List D := (List.range i).foldl (fun acc (j : Nat) => trStep st acc (Txt.item pat (j : Int))) []
theorem trans_succ (st : Addr) (pat : Str) (i : Nat) : trans st pat (i + 1) = trStep st (trans st pat i) (Txt.item pat (i : Int)) := by
  unfold trans; rw [List.range_succ, List.foldl_append]; rfl
noncomputable def okSign (c : Str) : Prop := c = Str.ofString "*" ∨ c = Str.ofString "?" ∨ c = Str.ofString "a" ∨ c = Str.ofString "."
theorem trStep_mem {st : Addr} {acc : List D} {c : Str} {d : D} (m : d ∈ trStep st acc c) : d ∈ acc ∨ d = .ref st ∨ d = .str (Str.ofString ".") ∨ d = .str (esc1 c) := by
  unfold trStep at m
  split at m
  · split at m
    · exact .inl m
    · rcases List.mem_append.mp m with m | m
      · exact .inl m
      · exact .inr (.inl (List.mem_singleton.mp m))
  · split at m
    · rcases List.mem_append.mp m with m | m
      · exact .inl m
      · exact .inr (.inr (.inl (List.mem_singleton.mp m)))
    · rcases List.mem_append.mp m with m | m
      · exact .inl m
      · exact .inr (.inr (.inr (List.mem_singleton.mp m)))
theorem trStep_len {st : Addr} {acc : List D} {c : Str} : (trStep st acc c).length ≤ acc.length + 1 := by
  unfold trStep
  split
  · split <;> simp
  · split <;> simp
theorem trans_len {st : Addr} {pat : Str} : ∀ i, (trans st pat i).length ≤ i
  | 0 => Nat.le_refl _
  | i + 1 => by rw [trans_succ]; exact Nat.le_trans trStep_len (Nat.succ_le_succ (trans_len i))
theorem trans_ok {st : Addr} {pat : Str} : ∀ i, ∀ d ∈ trans st pat i, PartOk st d
  | 0, _, m => by cases m
  | i + 1, d, m => by
    rw [trans_succ] at m
    rcases trStep_mem m with m | rfl | rfl | rfl
    · exact trans_ok i d m
    · exact .inl rfl
    · exact .inr ⟨_, rfl⟩
    · exact .inr ⟨_, rfl⟩

theorem trans_dots {st : Addr} {pat : Str} (hp : ∀ i : Nat, i < pat.length → okSign (Txt.item pat i)) : ∀ i, i ≤ pat.length → ∀ d ∈ trans st pat i, (strOf d).length ≤ 64
  | 0, _, _, m => by cases m
  | i + 1, hi, d, m => by
    rw [trans_succ] at m
    rcases trStep_mem m with m | rfl | rfl | rfl
    · exact trans_dots hp i (by omega) d m
    · exact Nat.zero_le _
    · decide
    · show (esc1 _).length ≤ 64
      rcases hp i (by omega) with e | e | e | e <;> rw [e] <;> decide
noncomputable def tρ (i N : Nat) (pat : Str) (st b r : Addr) : List (Str × D) :=
  [(Str.ofString "i", .int (i : Int)), (Str.ofString "n", .int (N : Int)), (Str.ofString "add", .ref b), (Str.ofString "res", .ref r), (Str.ofString "pat", .str pat), (Str.ofString "STAR", .ref st), (Str.ofString "QUESTION_MARK", .str (Str.ofString "."))]

theorem spec_trans {w : World} {n : Nat} {M : List Addr} {h : Heap} {pat : Str} {st : Addr} {v v₂ : Value} (X : TR w h) (hM : MOk M h) (hv : Den M h (.str pat) v) (hv₂ : Den M h (.str (Str.ofString ".")) v₂) (hp : ∀ i : Nat, i < pat.length → okSign (Txt.item pat i)) (hlen : pat.length ≤ 8) (hn : 4 ≤ n) :
    Cx w n h (.call (.ref 76) ⟨[v, .ref st, v₂], []⟩) (fun u h' => Den M h' (.list (trans st pat pat.length)) u) := by
  obtain ⟨m, rfl⟩ : ∃ m, n = m + 1 := ⟨n - 1, by omega⟩
  refine cx_def (ρ := [(Str.ofString "pat", .str pat), (Str.ofString "STAR", .ref st), (Str.ofString "QUESTION_MARK", .str (Str.ofString "."))]) X hM (by with_unfolding_all rfl) (by with_unfolding_all rfl) (fun s k => .of_eq rfl) (.cons hv (.cons Den.ref' (.cons hv₂ .nil))) (by rfl) fun L Y h₀ h' k F => ?_
  have X₀ := X.stays k
  refine sx_cons (sx_newList F exl_nil (by decide) fun r h1 hr F1 => ?_)
  refine sx_cons (sx_bound F1 ((ev_local (d := .ref r) F1.fd rfl).post fun v h' _ q => by simpa only [Den] using q) fun b h2 hb2 hbX F2 => ?_)
  obtain ⟨B, hB⟩ : ∃ B, B = hideAll h2 (r :: Y) := ⟨_, rfl⟩
  have FB := F2.rebase
  rw [← hB] at FB
  have hidden : Stay h₀ B := hB ▸ F2.hidden
  have hbB : B.get? b = some (boundAppend r) := hB ▸ hideAll_get _ hb2 hbX
  have bAt : ∀ {H}, Stay B H → H.get? b = some (boundAppend r) := fun kB => (kB _ _ hbB).get (.inl rfl)
  have X₁ : ∀ {H}, Stay B H → TR w H := fun kB => X₀.stays (stays_trans hidden kB)
  refine sx_cons (sx_tuple_sw (xs := [Str.ofString "i", Str.ofString "n"]) (ds := [.int 0, .int pat.length]) FB (exl_cons ev_int (exl_cons (ev_len_str (X₁ FB.base) (ev_local (d := .str pat) FB.fd rfl) (by omega)) exl_nil)) rfl rfl (fun h3 F3 => ?_) (by show 2 ≤ 2 ^ 20; decide) (by rfl))
  have F3 := F3.names (ρ' := tρ 0 pat.length pat st b r)
  refine sx_via (P := fun fl H => fl = .next ∧ FS F3.envOf M (r :: Y) B H (tρ pat.length pat.length pat st b r) [(r, trans st pat pat.length)]) (sx_while (fun j H => ∃ i, i ≤ pat.length ∧ j = pat.length - i ∧ FS F3.envOf M (r :: Y) B H (tρ i pat.length pat st b r) [(r, trans st pat i)]) ?_ pat.length ⟨0, Nat.zero_le _, by omega, F3⟩) ?_
  · rintro j H ⟨i, hi, rfl, G⟩
    refine ⟨decide (i < pat.length), ?_, fun hb' h4 k4 => ?_, fun hb' h4 k4 => ?_⟩
    · rw [show decide (i < pat.length) = decide ((i : Int) < (pat.length : Int)) by simp]
      exact tr_cmp (M := []) (ev_local (d := .int i) G.fd.nil rfl) (ev_local (d := .int pat.length) G.fd.nil rfl) cp_lt
    · have hlt : i < pat.length := by simpa using hb'
      have G4 := G.grow k4
      obtain ⟨c, hc⟩ : ∃ c, c = Txt.item pat (i : Int) := ⟨_, rfl⟩
      have hok : okSign c := hc ▸ hp i hlt
      have htl := trans_len (st := st) (pat := pat) i
      have hto := trans_ok (st := st) (pat := pat) i
      have hsucc := trans_succ st pat i
      rw [← hc] at hsucc
      generalize trans st pat i = acc at *
      refine sx_cons (sx_assign (d := .str c) G4 (hc ▸ ev_char (ev_local (d := .str pat) G4.fd rfl) (ev_local (d := .int i) G4.fd rfl) (by omega) (by omega) (by omega)) fun h5 G5 => ?_)
      refine sx_cons (sx_assign (d := .int ((i : Int) + 1)) G5 (ev_bin G5.fd.mok (ev_local (d := .int i) G5.fd rfl) ev_int bin_add) fun h6 G6 => ?_)
      have e : ((i : Int) + 1) = ((i + 1 : Nat) : Int) := rfl
      rw [e] at G6
      have G6 := G6.names (ρ' := (Str.ofString "c", .str c) :: tρ (i + 1) pat.length pat st b r)
      have fin : ∀ {H}, FS F3.envOf M (r :: Y) B H ((Str.ofString "c", .str c) :: tρ (i + 1) pat.length pat st b r) [(r, trStep st acc c)] → ∃ m, m < pat.length - i ∧ ∃ i, i ≤ pat.length ∧ m = pat.length - i ∧ FS F3.envOf M (r :: Y) B H (tρ i pat.length pat st b r) [(r, trans st pat i)] := fun {H} G =>
        ⟨pat.length - (i + 1), by omega, i + 1, by omega, rfl, by rw [hsucc]; exact G.names⟩
      refine sx_cons (sx_if (b := c == Str.ofString "*") (tr_cmp (M := []) (ev_local (d := .str c) G6.fd.nil rfl) ev_str cp_eqs) (fun hb h7 k7 => ?_) fun hb h7 k7 => ?_)
      · have G7 := G6.grow k7
        have e1 : trStep st acc c = if lastStar st acc then acc else acc ++ [.ref st] := by unfold trStep; rw [if_pos hb]
        have GV := G7.view (x := Str.ofString "res") rfl (.head _)
        refine sx_cons (sx_if (b := acc.isEmpty || !lastStar st acc) (tr_or2 (b := acc.isEmpty) ?_ fun hne => ?_) (fun hb2 h8 k8 => ?_) fun hb2 h8 k8 => ?_)
        · rw [show acc.isEmpty = !(!acc.isEmpty) by simp]
          exact tr_not (tr_plain (M := []) (d := .list acc) (ev_local (d := .list acc) GV rfl) rfl (by show acc.length < 2 ^ 24; omega))
        · have hnil : acc ≠ [] := by intro e; rw [e] at hne; cases hne
          obtain ⟨d, hd⟩ : ∃ d, acc.getLast? = some d := ⟨_, List.getLast?_eq_some_getLast hnil⟩
          have e3 : lastStar st acc = isStar st d := by unfold lastStar; rw [hd]
          rw [e3]
          have hmem : d ∈ acc := List.mem_of_getLast? hd
          exact tr_cmp (M := []) (ev_last (l := acc) (ev_local (d := .list acc) GV rfl) (ev_neg ev_int) (by omega) hd) (ev_local (d := .ref st) GV rfl) (cp_isNotStar (hto d hmem))
        · have G8 := G7.grow k8
          have hls : lastStar st acc = false := by
            cases acc with
            | nil => rfl
            | cons x l => simpa using hb2
          rw [hls] at e1
          refine sx_cons (sx_add (d := .ref st) G8 (bAt G8.base) ((ev_local (d := .ref b) G8.fd rfl).post fun v h' _ q => by simpa only [Den] using q) (ev_local (d := .ref st) G8.fd rfl) (by omega) fun h9 G9 => sx_nil (sx_nil (sx_nil (fin ?_))))
          rw [e1]; exact G9
        · have hls : lastStar st acc = true := by
            cases h : lastStar st acc with
            | true => rfl
            | false => rw [h] at hb2; simp at hb2
          rw [hls] at e1
          refine sx_nil (sx_nil (sx_nil (fin ?_)))
          rw [e1]; exact G7.grow k8
      · have G7 := G6.grow k7
        refine sx_cons (sx_if (b := c == Str.ofString "?") (tr_cmp (M := []) (ev_local (d := .str c) G7.fd.nil rfl) ev_str cp_eqs) (fun hb2 h8 k8 => ?_) fun hb2 h8 k8 => ?_)
        · have G8 := G7.grow k8
          have e1 : trStep st acc c = acc ++ [.str (Str.ofString ".")] := by unfold trStep; rw [if_neg (by rw [hb]; decide), if_pos hb2]
          refine sx_cons (sx_add (d := .str (Str.ofString ".")) G8 (bAt G8.base) ((ev_local (d := .ref b) G8.fd rfl).post fun v h' _ q => by simpa only [Den] using q) (ev_local (d := .str (Str.ofString ".")) G8.fd rfl) (by omega) fun h9 G9 => sx_nil (sx_nil (sx_nil (fin ?_))))
          rw [e1]; exact G9
        · have G8 := G7.grow k8
          have e1 : trStep st acc c = acc ++ [.str (esc1 c)] := by unfold trStep; rw [if_neg (by rw [hb]; decide), if_neg (by rw [hb2]; decide)]
          have hesc : escOf c (esc1 c) ∧ (c == Str.ofString "[") = false := by
            rcases hok with rfl | rfl | rfl | rfl
            · exact absurd hb (by decide)
            · exact absurd hb2 (by decide)
            · exact ⟨.inl ⟨rfl, by decide⟩, by decide⟩
            · exact ⟨.inr ⟨rfl, by decide⟩, by decide⟩
          refine sx_cons (sx_if (b := c == Str.ofString "[") (tr_cmp (M := []) (ev_local (d := .str c) G8.fd.nil rfl) ev_str cp_eqs) (fun hb3 h9 k9 => by rw [hesc.2] at hb3; cases hb3) fun hb3 h9 k9 => ?_)
          have G9 := G8.grow k9
          have X₂ := X₁ G9.base
          refine sx_cons (sx_add (d := .str (esc1 c)) G9 (bAt G9.base) ((ev_local (d := .ref b) G9.fd rfl).post fun v h' _ q => by simpa only [Den] using q) (ev_def1 X₂ (by with_unfolding_all rfl) (by with_unfolding_all rfl) (ev_local (d := .str c) G9.fd rfl) fun h' v k q => spec_escape hesc.1 (X₂.stays k) (G9.fd.mok.stays k) q (by omega)) (by omega) fun h10 G10 => sx_nil (sx_nil (sx_nil (sx_nil (fin ?_)))))
          rw [e1]; exact G10
    · have hge : i = pat.length := by have : ¬ i < pat.length := by simpa using hb'
                                      omega
      subst hge
      exact ⟨rfl, G.grow k4⟩
  · rintro fl H4 ⟨rfl, G4⟩
    refine sx_cons (sx_assert (by
      rw [show true = ((pat.length : Int) == (pat.length : Int)) by simp]
      exact tr_cmp (M := []) (ev_local (d := .int pat.length) G4.fd.nil rfl) (ev_local (d := .int pat.length) G4.fd.nil rfl) cp_eqi) fun h6 k6 => ?_)
    have G6 := G4.grow k6
    refine sx_cons (sx_return ((ev_local (d := .ref r) G6.fd rfl).post (P' := fun u _ => u = .ref r) fun v h' _ q => by simpa only [Den] using q) fun v h7 k7 q => ?_)
    subst q
    have G7 := G6.grow k7
    refine ⟨stays_trans hidden G7.base, ?_⟩
    exact G7.give (ds := trans st pat pat.length) (.head _) (hM.stays (stays_trans k hidden))
end Mine
end
section
open PySem PySem.W PySem.Calls PyProof.Rows
set_option maxRecDepth 100000
set_option maxHeartbeats 400000
namespace Mine
variable [Bd]
theorem mro_object : mroOf (.type "object") = pure [.type "object"] := by rw [mroOf_type]; kernel_rfl
theorem lookup_object_new : typeLookup (.type "object") "__new__" = pure (some (.builtin "object.__new__")) := by rw [typeLookup_type, builtinLookup_eq_fast]; kernel_rfl
theorem slot_object_init : Slot "object" "__init__" "object.__init__" := .of (owner := "object") (n := "__init__") (by rw [typeLookup_type, builtinLookup_eq_fast]; kernel_rfl) (by decide +kernel) (by decide +kernel) (by decide +kernel)
    (.inl (by decide +kernel)) (by rw [isSubtype_type]; kernel_rfl)
theorem called_object : TypeCalled "object" "object.__new__" "object.__init__" :=
  ⟨by decide +kernel, by decide +kernel, ⟨_, _, mro_object⟩, madeBy_type mro_object lookup_object_new (by decide +kernel), by decide +kernel, by rw [isSubtype_type]; kernel_rfl, slot_object_init⟩
theorem typeCall_object : checkTypeCall "object" ⟨[], []⟩ = pure () := by kernel_rfl
theorem newCall_object : checkBuiltinCall "object.__new__" ⟨[.type "object"], []⟩ = pure () := by kernel_rfl
theorem object_here : Bind.madeHere "object.__new__" (.type "object") = pure () := by kernel_rfl
theorem object_isType : isType (.type "object") = pure true := by kernel_rfl
theorem object_new : Meets (Builtin.«object.__new__» ⟨[.type "object"], []⟩) (fun A R s => R (.ok (.ret (.ref s.heap.objs.size))) { s with heap := s.heap.push { cls := .type "object", data := .plain } }) := by
  refine Meets.of_wp fun prog w A R s h => ?_
  have h1 := object_isType
  have h2 := object_here
  have h3 : (Manifest.find? "object").elim false (·.mro.any fun t => (Manifest.find? t).elim false (·.noNew)) = false := by decide +kernel
  obtain ⟨hp, g, d, tk, os⟩ := s
  unfold Builtin.«object.__new__»
  repeat (any_goals (first | assumption | wp_step))
  all_goals exact ⟨_, rfl, h⟩
end Mine
end
section
open PySem PySem.W PySem.Calls PyProof.Rows
set_option maxRecDepth 100000
set_option maxHeartbeats 400000
namespace Mine
variable [Bd]
section
variable {w : World} {n : Nat} {fr : Option Addr} {env : Env} {M M₀ X : List Addr} {h₀ h : Heap} {ρ : List (Str × D)} {σ : List (Addr × List D)} {pos px p' : Pos} {e : Expr} {d : D} {Q : Flow → Heap → Prop}
theorem object_init_plain (obj : Value) : Meets (Builtin.«object.__init__» ⟨[obj], []⟩) (fun _ R s => R (.ok (.ret .none)) s) := by
  refine Meets.of_wp fun prog w A R s h => ?_
  rw [oi_run]
  exact wpAny_pure ⟨_, rfl, h⟩
theorem c_object : Ex w n h (PySem.call (.type "object") [] []) (fun v _ => ∃ a, v = .ref a) := fun A s a k => by
  refine callType_meets (Q₁ := fun v s' => v = .ref s.heap.objs.size ∧ s' = { s with heap := s.heap.push { cls := .type "object", data := .plain } }) called_object typeCall_object newCall_object PySem.F.objNew.entry PySem.F.entry_object_init object_new ⟨rfl, rfl⟩ fun obj s₁ hq => ?_
  obtain ⟨rfl, rfl⟩ := hq
  exact ⟨⟨_, Heap.get?_push_size _ rfl, rfl⟩, oi_args _, _, object_init_plain _, rfl, Then.mk (push_stays _ _) ⟨_, rfl⟩⟩
theorem ex_call0 {x : Str} {f : Value} {P : Value → Heap → Prop} (X : TR w h) (hf : Ex w n h (eval (.Name x p') env) (fun u _ => u = f)) (hk : KeepOk w f)
    (hc : ∀ h', Stay h h' → Ex w n h' (PySem.call f [] []) P) : Ex w n h (eval (.Call (.Name x p') [] [] pos) env) P := fun A s a k =>
  Call_Name rfl (hf.run a k fun u h1 t1 k1 a p1 => by
    subst p1
    refine callWith_of (P := fun h' => Frag.In (K39 w.params) h') rfl hk (evalArgs_nil3 ?_)
    exact ⟨(X.stays (stays_trans k k1)).K, (hc h1 (stays_trans k k1)).run a (stays_refl _) fun v h3 t3 k3 a p3 => Then.mk (stays_trans k1 k3) p3⟩)
theorem sx_assignE {y : Str} {α : Type} {ds : α → D} (F : FS env M₀ X h₀ h ρ σ) (x : Ex w n h (eval e env) (fun v h' => ∃ a, Den (X ++ M₀) h' (ds a) v)) (H : ∀ a h', FS env M₀ X h₀ h' ((y, ds a) :: ρ) σ → Q .next h')
    (hk : env.kindOf y = some .local ∨ (env.kindOf y = some .cell ∧ (env.cells.lookup y).isSome = true) := by first | exact .inl rfl | exact .inr ⟨rfl, rfl⟩)
    (hs : swapsWith e (some (.Name y px)) pos.line env = pure false := by rfl) : Sx w n fr (exec (.Assign [.Name y px] e pos) env) h Q := fun A s a hf eh =>
  wpAny_Assign_Name (x.run a (eh ▸ stays_refl _) fun v h1 t1 k1 a p1 => by
    obtain ⟨q, p1⟩ := p1
    exact ((eh ▸ F).grow k1).store (s := { s with heap := h1, toks := t1 }) a p1 hk fun h' tk a F' _ => ⟨h', tk, rfl, a, H q h' F'⟩) hs
end

theorem noTwo_step {st : Addr} {acc : List D} {c : Str} (h : NoTwo st acc) : NoTwo st (trStep st acc c) := by
  have snoc : ∀ d, (lastStar st acc = true → isStar st d = false) → NoTwo st (acc ++ [d]) := fun d hd i hi => by
    by_cases h1 : i + 1 < acc.length
    · have e1 : (acc ++ [d]).getD (i + 1) .none = acc.getD (i + 1) .none := by simp [List.getD, List.getElem?_append_left h1]
      have e2 : (acc ++ [d]).getD i .none = acc.getD i .none := by simp [List.getD, List.getElem?_append_left (show i < acc.length by omega)]
      rw [e1]; rw [e2] at hi; exact h i hi
    · by_cases h2 : i + 1 = acc.length
      · have e2 : (acc ++ [d]).getD i .none = acc.getD i .none := by simp [List.getD, List.getElem?_append_left (show i < acc.length by omega)]
        have e1 : (acc ++ [d]).getD (i + 1) .none = d := by rw [h2]; simp [List.getD]
        rw [e1]; rw [e2] at hi
        refine hd ?_
        unfold lastStar
        have : acc.getLast? = some (acc.getD i .none) := by
          rw [List.getLast?_eq_getElem?, ← h2]; simp [List.getD, show i < acc.length by omega]
        rw [this]; exact hi
      · have e1 : (acc ++ [d]).getD (i + 1) .none = .none := by
          rw [List.getD, List.getElem?_eq_none (by simp; omega)]; rfl
        rw [e1]; rfl
  unfold trStep
  split
  · split
    · exact h
    · rename_i hl
      exact snoc _ fun q => absurd q hl
  · split
    · exact snoc _ fun _ => rfl
    · exact snoc _ fun _ => rfl
theorem noTwo_trans (st : Addr) (pat : Str) : ∀ i, NoTwo st (trans st pat i)
  | 0 => fun i hi => by simp [trans, isStar] at hi
  | i + 1 => by rw [trans_succ]; exact noTwo_step (noTwo_trans st pat i)

/-- the answer does not hang on the star's address -/
noncomputable def star0 : D → D
  | .ref _ => .ref 0
  | d => d
theorem isStar0 {st : Addr} {d : D} (h : PartOk st d) : isStar 0 (star0 d) = isStar st d := by
  rcases h with rfl | ⟨x, rfl⟩
  · show ((0 : Nat) == 0) = (st == st); simp
  · rfl
theorem strOf0 (d : D) : strOf (star0 d) = strOf d := by cases d <;> rfl
theorem last0 {st : Addr} {acc : List D} (h : ∀ d ∈ acc, PartOk st d) : lastStar 0 (acc.map star0) = lastStar st acc := by
  unfold lastStar
  rw [List.getLast?_map]
  cases q : acc.getLast? with
  | none => rfl
  | some d => exact isStar0 (h d (List.mem_of_getLast? q))
theorem trans0 (st : Addr) (pat : Str) : ∀ i, trans 0 pat i = (trans st pat i).map star0
  | 0 => rfl
  | i + 1 => by
    rw [trans_succ, trans_succ, trans0 st pat i]
    have hok := trans_ok (st := st) (pat := pat) i
    generalize trans st pat i = acc at *
    unfold trStep
    rw [last0 hok]
    split
    · split
      · rfl
      · simp [star0]
    · split <;> simp [star0]
theorem jSeg0 {st : Addr} : ∀ {l : List D}, (∀ d ∈ l, PartOk st d) → jSeg 0 (l.map star0) = (jSeg st l).map star0
  | [], _ => rfl
  | a :: l, h => by
    have ih := jSeg0 (l := l) fun d m => h d (.tail _ m)
    unfold jSeg at ih ⊢
    rw [List.map_cons, List.takeWhile_cons, List.takeWhile_cons, isStar0 (h a (.head _))]
    split
    · rw [List.map_cons, ih]
    · rfl
theorem jRest0 {st : Addr} : ∀ {l : List D}, (∀ d ∈ l, PartOk st d) → jRest 0 (l.map star0) = (jRest st l).map star0
  | [], _ => rfl
  | a :: l, h => by
    have ih := jRest0 (l := l) fun d m => h d (.tail _ m)
    unfold jRest at ih ⊢
    rw [List.map_cons, List.dropWhile_cons, List.dropWhile_cons, isStar0 (h a (.head _))]
    split
    · exact ih
    · rfl
theorem strOfs0 (l : List D) : (l.map star0).map strOf = l.map strOf := by
  rw [List.map_map]; exact List.map_congr_left fun d _ => strOf0 d
theorem jOuter0 {st : Addr} : ∀ (f : Nat) {l : List D}, (∀ d ∈ l, PartOk st d) → jOuter 0 f (l.map star0) = jOuter st f l
  | 0, _, _ => rfl
  | f + 1, [], _ => rfl
  | f + 1, a :: rest, h => by
    have hr : ∀ d ∈ rest, PartOk st d := fun d m => h d (.tail _ m)
    have hrr : ∀ d ∈ jRest st rest, PartOk st d := fun d m => hr d (jRest_mem m)
    rw [List.map_cons, jOuter, jOuter, jRest0 hr, jSeg0 hr, strOfs0, jOuter0 f hrr]
    simp
theorem joined0 {st : Addr} {l : List D} (h : ∀ d ∈ l, PartOk st d) : joined 0 (l.map star0) = joined st l := by
  unfold joined
  rw [jSeg0 h, jRest0 h, strOfs0, List.length_map, jOuter0 _ fun d m => h d (jRest_mem m)]
/-- what translate gives -/
noncomputable def transS (pat : Str) : Str := joined 0 (trans 0 pat pat.length)
theorem transS_eq (st : Addr) (pat : Str) : joined st (trans st pat pat.length) = transS pat := by
  unfold transS
  rw [trans0 st, joined0 (trans_ok _)]

theorem spec_translate {w : World} {n : Nat} {M : List Addr} {h : Heap} {pat : Str} {v : Value} (X : TR w h) (hM : MOk M h) (hv : Den M h (.str pat) v) (hp : ∀ i : Nat, i < pat.length → okSign (Txt.item pat i)) (hlen : pat.length ≤ 8) (hn : 6 ≤ n) :
    Cx w n h (.call (.ref 57) ⟨[v], []⟩) (fun u h' => Den M h' (.str (transS pat)) u) := by
  obtain ⟨m, rfl⟩ : ∃ m, n = m + 1 := ⟨n - 1, by omega⟩
  refine cx_def (ρ := [(Str.ofString "pat", .str pat)]) X hM (by with_unfolding_all rfl) (by with_unfolding_all rfl) (fun s k => .of_eq rfl) (.cons hv .nil) (by rfl) fun L Y h₀ h' k F => ?_
  have X₀ := X.stays k
  refine sx_cons (sx_assignE (ds := fun a => .ref a) F ((ex_call0 (X₀.stays F.base) (ex_builtin (X₀.stays F.base) (by with_unfolding_all rfl) rfl) keep_type fun h' _ => c_object).post fun v h' _ ⟨a, q⟩ => ⟨a, by rw [q]; exact Den.ref'⟩) fun st h1 F1 => ?_)
  have hok := trans_ok (st := st) (pat := pat) pat.length
  have X₁ := X₀.stays F1.base
  refine sx_cons (sx_assign (d := .list (trans st pat pat.length)) F1 (ex_call X₁ (ex_global X₁ (by with_unfolding_all rfl)) (keep_def (by with_unfolding_all rfl)) (exl_cons (ev_local (d := .str pat) F1.fd rfl) (exl_cons (ev_local (d := .ref st) F1.fd rfl) (exl_cons (ev_str (y := Str.ofString ".")) exl_nil))) fun h2 vs k2 q => ?_) fun h2 F2 => ?_)
  · simp only [Dens] at q
    obtain ⟨v, r1, rfl, hv, v2, r2, rfl, hv2, v3, r3, rfl, hv3, rfl⟩ := q
    simp only [show Den _ _ (.ref st) v2 = (v2 = .ref st) by simp only [Den]] at hv2
    subst hv2
    exact Ex.call (spec_trans (X₁.stays k2) (F1.fd.mok.stays k2) hv hv3 hp hlen (by omega))
  have X₂ := X₀.stays F2.base
  refine sx_cons (sx_retD F2 (d := .str (transS pat)) (ex_call X₂ (ex_global X₂ (by with_unfolding_all rfl)) (keep_def (by with_unfolding_all rfl)) (exl_cons (ev_local (d := .list (trans st pat pat.length)) F2.fd rfl) (exl_cons (ev_local (d := .ref st) F2.fd rfl) exl_nil)) fun h3 vs k3 q => ?_) fun v h4 k4 q => ⟨k4, q⟩)
  simp only [Dens] at q
  obtain ⟨v, r1, rfl, hv, v2, r2, rfl, hv2, rfl⟩ := q
  simp only [show Den _ _ (.ref st) v2 = (v2 = .ref st) by simp only [Den]] at hv2
  subst hv2
  rw [← transS_eq st]
  exact Ex.call (spec_join (X₂.stays k3) (F2.fd.mok.stays k3) hv hok (noTwo_trans st pat _) (Nat.le_trans (trans_len _) hlen) (trans_dots hp _ (Nat.le_refl _)) (by omega))
end Mine
end
section
open PySem PySem.W PySem.Calls PyProof.Rows
set_option maxRecDepth 100000
set_option maxHeartbeats 400000
namespace Mine
variable [Bd]

/-- entries by their names -/
noncomputable def EsAre : List DictEntry → List (Str × Value) → Prop
  | [], [] => True
  | e :: es, q :: l => (∃ t hs, e = ⟨hs, .str q.1 t, q.2⟩) ∧ EsAre es l
  | _, _ => False
theorem EsAre.snoc {x : Str} {v : Value} {t : Tok} {hs : Int} : ∀ {es l}, EsAre es l → EsAre (es ++ [⟨hs, .str x t, v⟩]) (l ++ [(x, v)])
  | [], [], _ => ⟨⟨t, hs, rfl⟩, trivial⟩
  | e :: es, q :: l, ⟨a, b⟩ => ⟨a, b.snoc⟩
  | [], _ :: _, h => h.elim
  | _ :: _, [], h => h.elim
theorem isStr_str {x y : Str} {t : Tok} : (Value.str x t).isStr y = (x == y) := rfl
theorem EsAre.find {x : Str} : ∀ {es l}, EsAre es l → (es.find? (·.key.isStr x)).map (·.val) = l.lookup x
  | [], [], _ => rfl
  | e :: es, q :: l, ⟨⟨t, hs, h⟩, b⟩ => by
    subst h
    rw [List.find?_cons, List.lookup_cons, isStr_str, Bool.beq_comm]
    by_cases hn : (x == q.1) = true
    · rw [hn]; rfl
    · simp only [Bool.not_eq_true] at hn; rw [hn]; exact b.find
  | [], _ :: _, h => h.elim
  | _ :: _, [], h => h.elim
theorem EsAre.noRef : ∀ {es l}, EsAre es l → es.any (·.refKey) = false
  | [], [], _ => rfl
  | e :: es, q :: l, ⟨⟨t, hs, h⟩, b⟩ => by
    subst h
    rw [List.any_cons, b.noRef]; rfl
  | [], _ :: _, h => h.elim
  | _ :: _, [], h => h.elim
theorem EsAre.noIdx {x : Str} {es l} (h : EsAre es l) (hx : l.lookup x = none) : es.findIdx? (·.key.isStr x) = none := by
  have := h.find (x := x)
  rw [hx, Option.map_eq_none_iff, List.find?_eq_none] at this
  rw [List.findIdx?_eq_none_iff]
  intro e m
  simpa using this e m

noncomputable def DictAt (h : Heap) (N : Addr) (l : List (Str × Value)) : Prop := ∃ es n, h.get? N = some { cls := .type "dict", data := .dict es n } ∧ EsAre es.toList l
theorem DictAt.at {h h' : Heap} {N l} (x : DictAt h N l) (k : ∀ o, h.get? N = some o → h'.get? N = some o) : DictAt h' N l := let ⟨es, n, e, r⟩ := x; ⟨es, n, k _ e, r⟩
section
variable {M : Model} {A : Around} {E : Value → Shared → Prop} {s : Shared} {N : Addr} {l : List (Str × Value)} {x : Str} {v : Value}
theorem nsGet_at {Q : Option Value → Shared → Prop} (D : DictAt s.heap N l) (h : Q (l.lookup x) s) : wpAny M A (nsGet N x) Q E s := by
  obtain ⟨es, n, e, r⟩ := D
  unfold nsGet
  refine wpAny_bind (wpAny_loadPart e ?_)
  rw [nsLook_eq]
  unfold nsLookByArray
  dsimp only
  have hf := r.find (x := x)
  have hn := r.noRef
  rw [← Array.find?_toList, ← Array.any_toList, hn]
  cases q : es.toList.find? (·.key.isStr x) with
  | some e =>
    rw [q] at hf
    rw [← hf] at h
    exact wpAny_pure h
  | none =>
    rw [q] at hf
    rw [← hf] at h
    exact wpAny_pure h
theorem nsSet_at {Q : Unit → Shared → Prop} (D : DictAt s.heap N l) (hx : l.lookup x = none)
    (h : ∀ h' tk, DictAt h' N (l ++ [(x, v)]) → Heap.SameBut N s.heap h' → Q () { s with heap := h', toks := tk }) : wpAny M A (nsSet N x v) Q E s := by
  obtain ⟨es, n, e, r⟩ := D
  have hf := r.noIdx hx
  have hn := r.noRef
  unfold nsSet
  refine wpAny_bind ?_
  refine wpAny_mono (Q := fun _ s' => s' = s) (E := E) (wpAny_bind (wpAny_askSetting (wpAny_pure rfl))) (fun hs s' hs' => ?_) fun _ _ e => e
  subst hs'
  refine wpAny_bind (wpAny_mkText (wpAny_bind (wpAny_loadPart e ?_)))
  have hr : aRefKeyMayBeTheName x es = false := by
    rw [aRefKeyMayBeTheName_eq]; unfold aRefKeyMayBeTheNameByArray
    rw [← Array.any_toList (p := fun e : DictEntry => e.refKey), hn, Bool.and_false]
  simp only [hr, Bool.false_eq_true, if_false]
  have hidx : es.findIdx? (·.key.isStr x) = none := by rw [← Array.toArray_toList (xs := es), List.findIdx?_toArray]; exact hf
  refine wpAny_updatePart e (h _ _ ⟨es.push ⟨hs, .str x s'.toks, v⟩, n + 1, ?_, ?_⟩ (Heap.SameBut.update ..))
  · have ho : Obj.putName x hs (.str x s'.toks) v { cls := .type "dict", data := .dict es n } = { cls := .type "dict", data := .dict (es.push ⟨hs, .str x s'.toks, v⟩) (n + 1) } := by
      simp only [Obj.putName_eq, Obj.putNameByArray, hidx]
    rw [Heap.get?_update_self _ e (by rw [ho]; rfl), ho]
  · rw [Array.toList_push]; exact r.snoc
theorem nsSetV_at {Q : Unit → Shared → Prop} (D : DictAt s.heap N l) (hx : l.lookup x = none) (hl : l.length ≤ 1000)
    (h : ∀ h' tk, DictAt h' N (l ++ [(x, v)]) → Heap.SameBut N s.heap h' → Q () { s with heap := h', toks := tk }) : wpAny M A (nsSetByValue N x v) Q E s := by
  have D' := D
  obtain ⟨es, n, e, r⟩ := D'
  have hlen : ∀ {es : List DictEntry} {l}, EsAre es l → es.length = l.length := by
    intro es
    induction es with
    | nil => intro l r; cases l with
      | nil => rfl
      | cons => exact r.elim
    | cons a es ih => intro l r; cases l with
      | nil => exact r.elim
      | cons b l => simp [ih r.2]
  have hsz := hlen r
  unfold nsSetByValue
  refine wpAny_bind (wpAny_loadPart e ?_)
  have : (decide (es.size > sizeLine)) = false := by rw [decide_eq_false_iff_not, ← Array.length_toList, hsz]; unfold sizeLine; omega
  simp only [this, Bool.false_and, Bool.false_eq_true, if_false]
  exact nsSet_at D hx h
end
end Mine
end
section
open PySem PySem.W PySem.Calls PyProof.Rows
set_option maxRecDepth 100000
set_option maxHeartbeats 400000
namespace Mine
variable [Bd]
section
variable {M : Model} {A : Around} {E : Value → Shared → Prop} {s : Shared} {N : Addr} {l : List (Str × Value)} {x : Str} {v u : Value} {env : Env}
theorem nsSet_head {Q : Unit → Shared → Prop} (D : DictAt s.heap N ((x, u) :: l))
    (h : ∀ h' tk, DictAt h' N ((x, v) :: l) → Heap.SameBut N s.heap h' → Q () { s with heap := h', toks := tk }) : wpAny M A (nsSet N x v) Q E s := by
  obtain ⟨es, n, e, r⟩ := D
  have hn := r.noRef
  unfold nsSet
  refine wpAny_bind ?_
  refine wpAny_mono (Q := fun _ s' => s' = s) (E := E) (wpAny_bind (wpAny_askSetting (wpAny_pure rfl))) (fun hs s' hs' => ?_) fun _ _ e => e
  subst hs'
  refine wpAny_bind (wpAny_mkText (wpAny_bind (wpAny_loadPart e ?_)))
  have hr : aRefKeyMayBeTheName x es = false := by
    rw [aRefKeyMayBeTheName_eq]; unfold aRefKeyMayBeTheNameByArray
    rw [← Array.any_toList (p := fun e : DictEntry => e.refKey), hn, Bool.and_false]
  simp only [hr, Bool.false_eq_true, if_false]
  obtain ⟨es⟩ := es
  cases es with
  | nil => exact r.elim
  | cons d ds =>
    obtain ⟨⟨t, hs', rfl⟩, r'⟩ := r
    have hidx : (List.toArray ((⟨hs', .str x t, u⟩ : DictEntry) :: ds)).findIdx? (·.key.isStr x) = some 0 := by
      rw [List.findIdx?_toArray, List.findIdx?_cons, isStr_str]; simp
    refine wpAny_updatePart e (h _ _ ⟨List.toArray ((⟨hs', .str x t, v⟩ : DictEntry) :: ds), n, ?_, ⟨⟨t, hs', rfl⟩, r'⟩⟩ (Heap.SameBut.update ..))
    have ho : Obj.putName x hs (.str x s'.toks) v { cls := .type "dict", data := .dict (List.toArray ((⟨hs', .str x t, u⟩ : DictEntry) :: ds)) n } = { cls := .type "dict", data := .dict (List.toArray ((⟨hs', .str x t, v⟩ : DictEntry) :: ds)) n } := by
      simp only [Obj.putName_eq, Obj.putNameByArray, hidx]
      simp [Array.modify, Array.modifyM]
    rw [Heap.get?_update_self _ e (by rw [ho]; rfl), ho]
theorem localSet_at {Q : Unit → Shared → Prop} (D : DictAt s.heap env.locals l) (h : wpAny M A (nsSet env.locals x v) Q E s) : wpAny M A (localSet env x v) Q E s := by
  obtain ⟨es, n, e, r⟩ := D
  unfold localSet
  refine wpAny_bind (wpAny_load e ?_)
  exact h
theorem localGet_at {Q : Option Value → Shared → Prop} (D : DictAt s.heap env.locals l) (h : Q (l.lookup x) s) : wpAny M A (localGet env x) Q E s := by
  obtain ⟨es, n, e, r⟩ := id D
  unfold localGet
  refine wpAny_bind (wpAny_load e ?_)
  exact nsGet_at D h
theorem class_store {Q : Unit → Shared → Prop} (D : DictAt s.heap env.locals l) (he : storeName env x v = localSet env x v) (hx : l.lookup x = none)
    (h : ∀ h' tk, DictAt h' env.locals (l ++ [(x, v)]) → Heap.SameBut env.locals s.heap h' → Q () { s with heap := h', toks := tk }) : wpAny M A (storeName env x v) Q E s := by
  rw [he]
  exact localSet_at D (nsSet_at D hx h)
theorem class_store0 {Q : Unit → Shared → Prop} (D : DictAt s.heap env.locals ((x, u) :: l)) (he : storeName env x v = localSet env x v)
    (h : ∀ h' tk, DictAt h' env.locals ((x, v) :: l) → Heap.SameBut env.locals s.heap h' → Q () { s with heap := h', toks := tk }) : wpAny M A (storeName env x v) Q E s := by
  rw [he]
  exact localSet_at D (nsSet_head D h)
end

/-- a def in the class's body: the function is made, the table of the class's code grows -/
structure CB (env : Env) (c P : Addr) (mg : Str → Option Value) (l : List (Str × Value)) (ps : Array Value) (h : Heap) : Prop where
  dict : DictAt h env.locals l
  hd : CodeHd h c P
  tab : h.get? P = some (tabObj ps)
  ok : TriplesOk ps.toList
  np : env.locals ≠ P
  g : h.Ns mainGlobals mg
  gl : mainGlobals ≠ env.locals
  b : ∃ bm ob, mg "__builtins__" = some (.ref bm) ∧ bm ≠ builtinsNs ∧ bm ≠ mainGlobals ∧ h.get? bm = some ob ∧ ob.cls = .type "module" ∧ ob.dict = some builtinsNs ∧ ob.data = .plain
noncomputable def Ext2 (N P : Addr) (h h' : Heap) : Prop := ∀ b o, b ≠ N → b ≠ P → h.get? b = some o → h'.get? b = some o
theorem Ext2.trans {N P : Addr} {h h' h''} (x : Ext2 N P h h') (y : Ext2 N P h' h'') : Ext2 N P h h'' := fun b o n p e => y b o n p (x b o n p e)
theorem Ext2.of {N P : Addr} {h h' : Heap} (x : ∀ b o, h.get? b = some o → h'.get? b = some o) : Ext2 N P h h' := fun b o _ _ e => x b o e
theorem Ext2.same {N P : Addr} {h h' : Heap} (x : Heap.SameBut N h h') : Ext2 N P h h' := fun b o n _ e => (x.2 b n).trans e
theorem ns_ne_tab {h : Heap} {a P : Addr} {m ps} (x : h.Ns a m) (e : h.get? P = some (tabObj ps)) : a ≠ P := fun q => by
  obtain ⟨o, es, ep, e1, d, _⟩ := x
  rw [q, e] at e1; cases e1; cases d
theorem dict_ns {h : Heap} {N : Addr} {l} (D : DictAt h N l) : ∃ o es ep, h.get? N = some o ∧ o.data = .dict es ep ∧ o.cls = .type "dict" := let ⟨es, n, e, _⟩ := D; ⟨_, es, n, e, rfl, rfl⟩
section
variable {M : Model} {A : Around} {E : Value → Shared → Prop} {s : Shared} {l : List (Str × Value)} {x : Str} {v u : Value} {env : Env} {c P : Addr} {mg : Str → Option Value} {ps : Array Value} {clos : List (Str × Addr)}
  {params : Arguments} {body : List Stmt} {scope : Scope} {pos : Pos}
theorem CB.ext {h h' : Heap} (C : CB env c P mg l ps h) (k : Ext2 env.locals P h h') {l' : List (Str × Value)} {ps' : Array Value} (D : DictAt h' env.locals l') (t : h'.get? P = some (tabObj ps')) (ok : TriplesOk ps'.toList) : CB env c P mg l' ps' h' := by
  obtain ⟨bm, ob, b1, b2, b2', b3, b4, b5, b6⟩ := C.b
  refine ⟨D, ?_, t, ok, C.np, ?_, C.gl, bm, ob, b1, b2, b2', k _ _ (fun q => ?_) (fun q => ?_) b3, b4, b5, b6⟩
  · obtain ⟨o, vs, file, tf, flags, tg, inF, text, tt, e1, r1, r⟩ := C.hd
    have hcP : c ≠ P := r.2.2.2.2.2.2.2
    refine ⟨o, vs, file, tf, flags, tg, inF, text, tt, k _ _ (fun q => ?_) hcP e1, r1, r⟩
    obtain ⟨o', es, ep, e2, e3, e4⟩ := dict_ns C.dict
    rw [q, e2] at e1; cases e1; rw [e4] at r1; exact absurd r1 (ty_ne (by decide))
  · obtain ⟨o, es, ep, e, r⟩ := C.g
    exact ⟨o, es, ep, k _ _ C.gl (ns_ne_tab C.g C.tab) e, r⟩
  · obtain ⟨o', es, ep, e2, e3, e4⟩ := dict_ns C.dict
    rw [q, e2] at b3; cases b3; rw [e4] at b4; exact absurd b4 (ty_ne (by decide))
  · rw [q, C.tab] at b3; cases b3; cases b4
theorem cb_def {Q : Flow → Shared → Prop} (C : CB env c P mg l ps s.heap) (hcl : closureFor scope env = pure clos) (hg : env.globals = mainGlobals) (hcode : env.code = .ref c) (hnf : codeAmong pos ps.toList = none)
    (hd0 : params.defaults = []) (hk0 : params.kw_defaults = []) (ha : annTrees params none env = []) (he : ∀ v, storeName env x v = localSet env x v) (hx : l.lookup x = none)
    (h : ∀ f c' ctv doc h' tk, CB env c P mg (l ++ [(x, .ref f)]) (ps ++ #[rawInt pos.line, rawInt pos.col, .ref c']) h' → Ext2 env.locals P s.heap h' → s.heap.get? f = none → f ≠ env.locals → f ≠ P →
      h'.get? f = some (fnMade x (qualnameIn env x x) params body scope clos doc ((mg "__name__").getD .none) c' ctv) → h'.CodeRec (.ref c') (qualnameIn env x x) → Q .next { s with heap := h', toks := tk }) :
    wpAny M A (exec (.FunctionDef x params body [] none [] scope none x pos) env) Q E s := by
  refine nestDef_K hd0 hk0 ha ?_
  obtain ⟨bm, ob, b1, b2, b2', b3, b4, b5, b6⟩ := C.b
  have hbP : bm ≠ P := fun q => by rw [q, C.tab] at b3; cases b3; cases b4
  refine makeFunction_K hcl hg C.g hcode C.hd C.tab C.ok hnf (ns_ne_tab C.g C.tab) ⟨bm, ob, b1, b2, b2', hbP, b3, b4, b5, b6⟩ fun c' ctv doc h1 tk hx1 hge hlt hrec htab => ?_
  have hok' : TriplesOk (ps ++ #[rawInt pos.line, rawInt pos.col, .ref c']).toList := by
    have : (ps ++ #[rawInt pos.line, rawInt pos.col, .ref c']).toList = ps.toList ++ [rawInt pos.line, rawInt pos.col, .ref c'] := by simp
    rw [this]; exact TriplesOk_snoc _ _ _ _ C.ok
  have hN : ∀ {o}, s.heap.get? env.locals = some o → env.locals < s.heap.objs.size := fun e => Heap.lt_size e
  have hf0 : s.heap.objs.size ≤ h1.objs.size := Nat.le_trans hge (Nat.le_of_lt hlt)
  have D1 : DictAt (h1.push (fnMade x (qualnameIn env x x) params body scope clos doc ((mg "__name__").getD .none) c' ctv)) env.locals l := C.dict.at fun o e => Heap.get?_push_of_some _ (hx1 _ _ C.np e)
  refine class_store D1 (he _) hx fun h2 tk2 D2 s2 => ?_
  have hfN : h1.objs.size ≠ env.locals := by
    obtain ⟨o, es, ep, e, _⟩ := dict_ns C.dict
    exact Nat.ne_of_gt (Nat.lt_of_lt_of_le (Heap.lt_size e) hf0)
  have hfP : h1.objs.size ≠ P := Nat.ne_of_gt (Nat.lt_of_lt_of_le (Heap.lt_size C.tab) hf0)
  have k2 : Ext2 env.locals P s.heap h2 := fun b o n p e => (s2.2 b n).trans (Heap.get?_push_of_some _ (hx1 b o p e))
  have htab2 : h2.get? P = some (tabObj (ps ++ #[rawInt pos.line, rawInt pos.col, .ref c'])) := (s2.2 P (Ne.symm C.np)).trans (Heap.get?_push_of_some _ htab)
  refine h h1.objs.size c' ctv doc h2 tk2 (C.ext k2 D2 htab2 hok') k2 (none_of_le hf0) hfN hfP ((s2.2 _ hfN).trans (Heap.get?_push_size _ rfl)) ?_
  obtain ⟨c2, o2, vs2, t2, e2, g2, r2⟩ := hrec
  cases e2
  refine ⟨_, o2, vs2, t2, rfl, (s2.2 _ ?_).trans (Heap.get?_push_of_some _ g2), r2⟩
  obtain ⟨o, es, ep, e, _⟩ := dict_ns C.dict
  exact Nat.ne_of_gt (Nat.lt_of_lt_of_le (Heap.lt_size e) hge)
end
end Mine
end
section
open PySem PySem.W PySem.Calls PyProof.Rows Builtin Builtin.ObjectAttr Builtin.Getset_descriptor
set_option maxRecDepth 100000
set_option maxHeartbeats 400000
namespace Mine
variable [Bd]
section
variable {prog : Program} {w : World} {A : Around} {E : Value → Shared → Prop} {s : Shared} {K : Frag} {c mc : Value} {name : Str} {tk : Tok}
theorem cls_openN {r : CFound} {fill : Bool} {Q : Value → Shared → Prop} {hook : Option Value} (X : K.In s.heap) (ho : Looks (model prog w) s.heap (opaqueClassAbove c) none) (ht : Looks (model prog w) s.heap (typeOf c) mc)
    (hga : findIn K mc "__getattribute__" = some (some (.builtin "type.__getattribute__"))) (hb : Looks (model prog w) s.heap (hookBefore mc) hook) (hi : subIn K mc (.type "type") = some true) (e : findCls K c mc name = some r)
    (h : wpAny (model prog w) A.in1 r.run (fun fin s' => match fin with | .done (.ret v) => wpAny (model prog w) A (handedOut v) Q E s' | _ => False) (fun _ _ => False) s) :
    wpAny (model prog w) A (getAttrBy c (.str name tk) fill) Q E s := by
  refine wpAny_holding (wpAny_bind (ht _ _ _ _ (fun _ _ e => e) (wpAny_bind (looks_findIn X hga _ _ _ _ (fun _ _ e => e) ?_))))
  dsimp only
  rw [show (onTheHeap mc && Value.builtin "type.__getattribute__" == Value.builtin "object.__getattribute__") = false from by rw [show (Value.builtin "type.__getattribute__" == Value.builtin "object.__getattribute__") = false from by decide +kernel, Bool.and_false], if_neg (by decide)]
  refine wpAny_bind (hb _ _ _ _ (fun _ _ e => e) (wpAny_bind (wpAny_attempt (wpAny_holding ?_))))
  unfold callGetattribute
  rw [show (false && onTheHeap (Value.builtin "type.__getattribute__")) = false from rfl, if_neg (by decide)]
  unfold boundAndCalled
  rw [KF.slot_tga.bind]
  refine wpAny_bind (wpAny_pure ?_)
  show wpAny _ _ (call (.builtin "type.__getattribute__") [c, .str name tk]) _ _ _
  refine wpAny_call ?_
  refine codeAny_call_builtin KF.slot_tga.plain KF.entry_tga ?_
  refine @check_slot (model prog w) _ _ s "type.__getattribute__" "type" "__getattribute__" c [.str name tk] [] _ (by decide +kernel) (by decide +kernel) (ht.andThen (looks_subIn X hi)) (KF.args_tga c (.str name tk)) ?_
  refine tga_run X ho ht e (wpAny_mono h (fun fin s' z => ?_) fun _ _ z => z.elim)
  rcases fin with (_ | _ | _ | _) | _ <;> first | exact z | exact z.elim

theorem cmd_slot : Slot "classmethod_descriptor" "__get__" "classmethod_descriptor.__get__" :=
  .of (owner := "classmethod_descriptor") (n := "__get__") (by rw [typeLookup_type, builtinLookup_eq_fast]; kernel_rfl) (by decide +kernel) (by decide +kernel) (by decide +kernel)
    (by first | exact .inl (by decide +kernel) | exact .inr (by decide +kernel)) (by rw [isSubtype_type]; kernel_rfl)
theorem cmd_entry : entryFor table "classmethod_descriptor.__get__" = some Builtin.«classmethod_descriptor.__get__» := entryFor_of_tree (by kernel_rfl)
theorem cmd_args (a b c : Value) : argsOk "classmethod_descriptor.__get__" ⟨[a, b, c], []⟩ := by unfold argsOk; kernel_rfl
theorem type_isType : isType (.type "type") = pure true := by kernel_rfl
theorem type_prepare : typeOf (.builtin "type.__prepare__") = pure (.type "classmethod_descriptor") := by show builtinType _ = _; rw [builtinType_eq_fast]; kernel_rfl
theorem type_own : isSubtype (.type "type") (.type (".".intercalate ("type.__prepare__".cutAt '.').dropLast)) = pure true := by
  have e : (".".intercalate ("type.__prepare__".cutAt '.').dropLast) = "type" := by decide +kernel
  rw [e, isSubtype_type]; kernel_rfl
theorem type_sub : isSubtype (.type "type") (.type "type") = pure true := by rw [isSubtype_type]; kernel_rfl
end
noncomputable def prepObj : Obj := { cls := .type "builtin_function_or_method", data := .fields #[.builtin "type.__prepare__", .type "type"] }
section
variable {prog : Program} {w : World} {A : Around} {E : Value → Shared → Prop} {h : Heap} {g : Array GenState} {d : Drawn} {t : Nat} {os : OsState}
theorem cmd_get {R : Result → Shared → Prop} (hq : R (.ok (.ret (.ref h.objs.size))) ⟨h.push prepObj, g, d, t, os⟩) :
    codeAny (model prog w) A (.call (.builtin "classmethod_descriptor.__get__") ⟨[.builtin "type.__prepare__", .none, .type "type"], []⟩) R ⟨h, g, d, t, os⟩ := by
  have hT5 : (⟨h, g, d, t, os⟩ : Shared).TypeIs (.builtin "type.__prepare__") "classmethod_descriptor" := type_prepare
  have f1 := type_isType
  have f2 := type_own
  have f3 := type_sub
  refine codeAny_call_builtin cmd_slot.plain cmd_entry (cmd_slot.check _ _ _ _ _ _ _ _ hT5 (cmd_args _ _ _) ?_)
  unfold Builtin.«classmethod_descriptor.__get__»
  repeat (any_goals (first | assumption | wp_step))
  all_goals exact hq
theorem prep_get {w : World} {Q : Option Value → Shared → Prop} (hq : Q (some (.ref h.objs.size)) ⟨h.push prepObj, g, d, t + 1, os⟩) :
    wpAny (model Mine.prog w) A (getAttr? (.type "type") (Str.ofString "__prepare__")) Q E ⟨h, g, d, t, os⟩ := by
  unfold getAttr?
  refine wpAny_bind (wpAny_mkText ?_)
  unfold getAttrBy?
  refine wpAny_bind (wpAny_attempt ?_)
  refine cls_openN (K := []) (mc := .type "type") (r := .get (.builtin "classmethod_descriptor.__get__") (.builtin "type.__prepare__") .none (.type "type")) (hook := none) (fun a o e => by cases e) (Looks.of_pure (by kernel_rfl)) (Looks.of_pure (by kernel_rfl)) (by kernel_rfl) (Looks.of_pure (by kernel_rfl)) (by kernel_rfl) (by kernel_rfl) ?_
  unfold CFound.run
  refine wpAny_bind (wpAny_holding (wpAny_call (cmd_get ?_)))
  refine wpAny_pure ?_
  exact handed_on rfl (wpAny_pure hq)
theorem prep_entry : entryFor table "type.__prepare__" = some Builtin.«type.__prepare__» := entryFor_of_tree (by kernel_rfl)
theorem prep_quiet {as : Args} : (Code.builtin "type.__prepare__" as).quiet = true := Code.quiet_builtin _ (by decide +kernel)
theorem sub_type_module : isSubtype (.type "type") (.type "module") = pure false := by rw [isSubtype_type]; kernel_rfl
theorem typeOf_type : typeOf (.type "type") = pure (.type "type") := by kernel_rfl
theorem check_prep {w : World} {x y : Value} {Q : Unit → Shared → Prop} (hq : ∀ t', Q () ⟨h, g, d, t', os⟩) : wpAny (model Mine.prog w) A (checkBoundCall "type.__prepare__" ⟨[.type "type", x, y], []⟩) Q E ⟨h, g, d, t, os⟩ := by
  have f1 := sub_type_module
  have f2 := typeOf_type
  unfold checkBoundCall
  repeat (any_goals (first | assumption | wp_step))
  all_goals exact hq _
theorem call_prep {w : World} {b : Addr} {x y : Value} {Q : Value → Shared → Prop} (hb : h.get? b = some prepObj) (hq : ∀ t', Q (.ref h.objs.size) ⟨h.push { cls := .type "dict", data := .dict #[] }, g, d, t', os⟩) :
    wpAny (model Mine.prog w) A (call (.ref b) [x, y] []) Q E ⟨h, g, d, t, os⟩ := by
  refine wpAny_call (codeAny_of_tree ?_)
  show wpAny _ A.in1 (callAny (.ref b) ⟨[x, y], []⟩) _ _ _
  simp only [callAny]
  refine wpAny_bind (wpAny_load hb ?_)
  simp only [prepObj, show (Value.type "builtin_function_or_method" == Value.type "method" || Value.type "builtin_function_or_method" == Value.type "builtin_function_or_method" || Value.type "builtin_function_or_method" == Value.type "method-wrapper") = true by decide, if_true]
  refine KFB.if_so (by decide) ?_
  refine wpAny_bind (check_prep fun t' => ?_)
  refine wpAny_bind (wpAny_pure (wpAny_pure ?_))
  refine ⟨prep_quiet, codeAny_builtin prep_entry ?_⟩
  unfold Builtin.«type.__prepare__»
  repeat (any_goals (first | assumption | wp_step))
  all_goals exact hq _
end
end Mine
end
section
open PySem PySem.W PySem.Calls PyProof.Rows
set_option maxRecDepth 100000
set_option maxHeartbeats 400000
namespace Mine
variable [Bd]
theorem class_code {M : Model} {A : Around} {E : Value → Shared → Prop} {s : Shared} {env : Env} {c₀ P₀ : Addr} {ps : Array Value} {pos : Pos} {fl : Nat} {name qual : Str} {scope : Scope} {Q : Value → Shared → Prop}
    (hc : env.code = .ref c₀) (C : CodeHd s.heap c₀ P₀) (hP : s.heap.get? P₀ = some (tabObj ps)) (ht : TriplesOk ps.toList) (hnf : codeAmong pos ps.toList = none)
    (hQ : ∀ c P h' tk, Heap.ExtBut P₀ s.heap h' → s.heap.objs.size ≤ c → s.heap.objs.size ≤ P → CodeHd h' c P → h'.get? P = some (tabObj #[]) → h'.CodeRec (.ref c) qual →
      h'.get? P₀ = some (tabObj (ps ++ #[rawInt pos.line, rawInt pos.col, .ref c])) → Q (.ref c) { s with heap := h', toks := tk }) :
    wpAny M A (classCode env pos fl name qual scope) Q E s := by
  obtain ⟨o, vs, file, tf, flags, tg, inF, text, tt, ho, hcls, hd, h11, h11', h2, h7, h9, h10, hne⟩ := C
  have hlt : P₀ < s.heap.objs.size := Heap.lt_size hP
  unfold classCode codeAt
  rw [hc, if_neg (show ¬ ((Value.ref c₀ == Value.none) = true) from Bool.false_ne_true)]
  refine wpAny_bind (wpAny_fieldsOf ho hd ?_)
  rw [h11']
  refine wpAny_bind (wpAny_fieldsOf hP rfl ?_)
  rw [hnf, h2, h7, h9, h10]
  refine wpAny_bind (wpAny_newCodeX fun c P h1 tk k1 hc1 hP1 hcode htab hrec => ?_)
  have hP2 := k1 _ _ hP
  refine wpAny_bind (wpAny_updateFieldsOfTheText hP2 rfl ?_)
  have hnew : (Obj.mapFields (fun vs => if (codeAmong pos vs.toList).isSome = true then vs else vs ++ #[rawInt pos.line, rawInt pos.col, .ref c]) (tabObj ps)) = tabObj (ps ++ #[rawInt pos.line, rawInt pos.col, .ref c]) := by
    unfold Obj.mapFields tabObj
    simp only [hnf]
    rfl
  have hget := Heap.get?_update_self (h := h1) (fun o => Obj.mapFields (fun vs => if (codeAmong pos vs.toList).isSome = true then vs else vs ++ #[rawInt pos.line, rawInt pos.col, .ref c]) o) hP2 (by rw [hnew]; rfl)
  rw [hnew] at hget
  refine wpAny_bind (wpAny_fieldsOf hget rfl ?_)
  have hl : (ps ++ #[rawInt pos.line, rawInt pos.col, Value.ref c]).toList = ps.toList ++ [rawInt pos.line, rawInt pos.col, .ref c] := by simp
  rw [hl, codeAmong_snoc _ ht hnf]
  have sb := Heap.SameBut.update h1 P₀ (fun o => Obj.mapFields (fun vs => if (codeAmong pos vs.toList).isSome = true then vs else vs ++ #[rawInt pos.line, rawInt pos.col, .ref c]) o)
  have hcP : c ≠ P₀ := Nat.ne_of_gt (Nat.lt_of_lt_of_le hlt hc1)
  have hPP : P ≠ P₀ := Nat.ne_of_gt (Nat.lt_of_lt_of_le hlt hP1)
  have H := CodeHd.of hcode htab
  refine wpAny_pure (hQ c P _ _ (fun b o' hb e => (sb.2 b hb).trans (k1 b o' e)) hc1 hP1 ?_ ((sb.2 P hPP).trans htab.2) ?_ hget)
  · obtain ⟨o2, vs2, f2, t2, fl2, tg2, in2, x2, tt2, e1, r⟩ := H
    exact ⟨o2, vs2, f2, t2, fl2, tg2, in2, x2, tt2, (sb.2 c hcP).trans e1, r⟩
  · obtain ⟨c2, o2, vs2, t2, e2, g2, r2⟩ := hrec
    cases e2
    exact ⟨_, o2, vs2, t2, rfl, (sb.2 _ hcP).trans g2, r2⟩
end Mine
end
section
open PySem PySem.W PySem.Calls PyProof.Rows
set_option maxRecDepth 100000
set_option maxHeartbeats 400000
namespace Mine
variable [Bd]
noncomputable abbrev kEnv (scope : Scope) (qual : Str) (clos : List (Str × Addr)) (N c fr : Addr) : Env :=
  { scope, locals := N, globals := mainGlobals, cells := clos, qual := qual ++ Str.ofString ".", code := .ref c, frame := some fr, builtins := builtinsNs }
theorem get_dict_item : typeLookup (.type "dict") (Str.ofString "__getitem__") = pure (some (.builtin "dict.__getitem__")) := by rw [typeLookup_type, builtinLookup_eq_fast]; kernel_rfl
section
variable {w : World} {A : Around} {E : Value → Shared → Prop} {h : Heap} {g : Array GenState} {d : Drawn} {t : Nat} {os : OsState}
theorem forIn1 {α β : Type} {M : Model} {A : Around} {E : Value → Shared → Prop} {s : Shared} {x : α} {b : β} {f : α → β → Sem (ForInStep β)} {Q : β → Shared → Prop}
    (h : wpAny M A (f x b) (fun r s' => match r with | .done b' => Q b' s' | .yield b' => Q b' s') E s) : wpAny M A (forIn [x] b f) Q E s := by
  rw [List.forIn_cons]
  refine wpAny_bind (wpAny_mono h (fun r s' h' => ?_) fun _ _ e => e)
  cases r with
  | done b' => exact wpAny_pure h'
  | yield b' => show wpAny _ _ (forIn [] b' f) _ _ _; rw [List.forIn_nil]; exact wpAny_pure h'
theorem bc_body {name qual : Str} {body : List Stmt} {scope : Scope} {so : Str} {fl : Nat} {env : Env} {pos : Pos} {Q : Value → Shared → Prop} {c₀ P₀ : Addr} {ps : Array Value} {mg : Str → Option Value} {clos : List (Str × Addr)}
    (hc : env.code = .ref c₀) (C : CodeHd h c₀ P₀) (hP : h.get? P₀ = some (tabObj ps)) (ht : TriplesOk ps.toList) (hnf : codeAmong pos ps.toList = none)
    (hgl : env.globals = mainGlobals) (G : h.Ns mainGlobals mg) (hnm : ∃ v, mg "__name__" = some v)
    (B : ∃ bm ob, mg "__builtins__" = some (.ref bm) ∧ bm ≠ builtinsNs ∧ bm ≠ mainGlobals ∧ h.get? bm = some ob ∧ ob.cls = .type "module" ∧ ob.dict = some builtinsNs ∧ ob.data = .plain)
    (nl : h.NoLimit) (hdp : A.depth < recursionLimit) (hcl : closureFor scope env = pure clos) (h142 : 142 ≤ h.objs.size)
    (hst : ∀ N c fr, ∀ x ∈ [Str.ofString "__module__", Str.ofString "__qualname__", Str.ofString "__firstlineno__", Str.ofString "__static_attributes__"], ∀ v, storeName (kEnv scope qual clos N c fr) x v = localSet (kEnv scope qual clos N c fr) x v)
    (hld : ∀ N c fr, loadName (kEnv scope qual clos N c fr) (Str.ofString "__name__") = (localGet (kEnv scope qual clos N c fr) (Str.ofString "__name__") >>= fun o => match o with
      | some v => pure v
      | none => loadGlobal (kEnv scope qual clos N c fr) (Str.ofString "__name__")))
    (hann : hasAnns body = false) (hdoc : docOf body = none)
    (KK : Addr → Addr → Addr → Addr → Heap → Prop)
    (H : ∀ N c P fr h8 tk v t1 t2, CB (kEnv scope qual clos N c fr) c P mg [(Str.ofString "__module__", v), (Str.ofString "__qualname__", .str qual t1), (Str.ofString "__firstlineno__", .int fl t2)] #[] h8 →
      (∀ b o, b ≠ P₀ → h.get? b = some o → h8.get? b = some o) → h8.get? h.objs.size = some { cls := Value.type "tuple", data := Data.seq #[Value.type "object"] } → (∃ ps', h8.get? P₀ = some (tabObj ps')) →
      h.objs.size < N → h.objs.size < P → P₀ ≠ P →
      wpAny (model Mine.prog w) (A.deeper (kEnv scope qual clos N c fr)) (execs body (kEnv scope qual clos N c fr)) (fun _ s' => ∃ h' tk', s' = ⟨h', g, d, tk', os⟩ ∧ KK N c P fr h') (fun _ _ => False) ⟨h8, g, d, tk, os⟩)
    (H2 : ∀ N c P fr h9 t1, KK N c P fr h9 → ∃ l ps', CB (kEnv scope qual clos N c fr) c P mg l ps' h9 ∧ l.lookup (Str.ofString "__static_attributes__") = none ∧
      ∀ h10 tk tup, CB (kEnv scope qual clos N c fr) c P mg (l ++ [(Str.ofString "__static_attributes__", .ref tup)]) ps' h10 → Ext2 N P h9 h10 → (∃ o, h10.get? tup = some o ∧ o.cls = .type "tuple") →
        wpAny (model Mine.prog w) A (call (.type "type") [.str name t1, .ref h.objs.size, .ref N] []) Q E ⟨h10, g, d, tk, os⟩)
    (s1 : (scope.names.lookup (Str.ofString "__class__") == some NameKind.cell) = false) (s2 : (scope.names.lookup (Str.ofString "__classdict__") == some NameKind.cell) = false) :
    wpAny (model Mine.prog w) A (buildClass name qual [.type "object"] [] body scope [so] fl env pos none) Q E ⟨h, g, d, t, os⟩ := by
  have f1 : isType (.type "object") = pure true := by kernel_rfl
  have f2 : typeOf (.type "object") = pure (.type "type") := by kernel_rfl
  have f3 : isType (.type "type") = pure true := by kernel_rfl
  have f4 := type_sub
  unfold buildClass
  refine wpAny_bind (wpAny_newTuple ?_ (by decide))
  refine wpAny_bind (forIn1 (x := Value.type "object") ?_)
  refine wpAny_bind (wpAny_of_eq f1 ?_)
  refine KFB.if_so rfl ?_
  refine wpAny_ite_false (by decide) ?_
  refine wpAny_pure ?_
  dsimp only
  refine wpAny_bind (wpAny_of_eq f2 ?_)
  refine wpAny_bind (wpAny_of_eq f3 ?_)
  refine KFB.if_so rfl ?_
  refine wpAny_bind (forIn1 (x := Value.type "object") ?_)
  refine wpAny_bind (wpAny_of_eq f2 (wpAny_bind (wpAny_of_eq f4 ?_)))
  refine KFB.if_so rfl ?_
  refine wpAny_pure ?_
  dsimp only
  refine wpAny_bind (wpAny_mkText ?_)
  refine KFB.if_not rfl ?_
  refine wpAny_bind (wpAny_pure ?_)
  refine wpAny_holding (wpAny_bind (prep_get ?_))
  dsimp only [List.filter_nil]
  have k0 : ∀ b o, h.get? b = some o → (h.push { cls := Value.type "tuple", data := Data.seq #[Value.type "object"] }).get? b = some o := fun b o e => Heap.get?_push_of_some _ e
  refine wpAny_bind (call_prep (Heap.get?_push_size _ rfl) fun t1 => ?_)
  obtain ⟨h3, hh3⟩ : ∃ h3, h3 = ((h.push { cls := Value.type "tuple", data := Data.seq #[Value.type "object"] }).push prepObj).push { cls := .type "dict", data := .dict #[] } := ⟨_, rfl⟩
  obtain ⟨N, hN⟩ : ∃ N, N = ((h.push { cls := Value.type "tuple", data := Data.seq #[Value.type "object"] }).push prepObj).objs.size := ⟨_, rfl⟩
  rw [← hh3, ← hN]
  have k3 : ∀ b o, h.get? b = some o → h3.get? b = some o := fun b o e => by rw [hh3]; exact Heap.get?_push_of_some _ (Heap.get?_push_of_some _ (k0 b o e))
  have bT3 : h3.get? h.objs.size = some { cls := Value.type "tuple", data := Data.seq #[Value.type "object"] } := by rw [hh3]; exact Heap.get?_push_of_some _ (Heap.get?_push_of_some _ (Heap.get?_push_size _ rfl))
  have N3 : h3.get? N = some { cls := .type "dict", data := .dict #[] } := by rw [hh3, hN]; exact Heap.get?_push_size _ rfl
  have hNs : h.objs.size < N := by rw [hN, Heap.size_push, Heap.size_push]; exact Nat.lt_succ_of_lt (Nat.lt_succ_self _)
  have hNsz : N < h3.objs.size := Heap.lt_size N3
  clear hh3 hN
  have hNm : (N == sysModules) = false := by
    rw [beq_eq_false_iff_ne]; exact Nat.ne_of_gt (Nat.lt_trans (by decide) (Nat.lt_of_le_of_lt h142 hNs))
  refine wpAny_bind ?_
  unfold notTheModulesDict
  refine KFB.if_not hNm ?_
  refine wpAny_pure ?_
  refine wpAny_bind (wpAny_specialOf (T := "dict") ⟨_, N3, rfl⟩ get_dict_item ?_)
  refine KFB.if_not rfl ?_
  refine wpAny_holding ?_
  refine KFB.if_not s1 ?_
  refine wpAny_bind (wpAny_pure ?_)
  refine KFB.if_not s2 ?_
  refine wpAny_bind (wpAny_pure ?_)
  dsimp only [Option.map_none, Option.toList]
  refine wpAny_bind (class_code hc (C.keeps k3) (k3 _ _ hP) ht hnf fun c P h4 tk4 x4 hc4 hP4 C4 T4 R4 hP04 => ?_)
  rw [hgl]
  obtain ⟨bm, ob, b1, b2, b2', b3, b4, b5, b6⟩ := B
  have hgP : mainGlobals ≠ P₀ := ns_ne_tab G hP
  have hbP : bm ≠ P₀ := fun q => by rw [q, hP] at b3; cases b3; cases b4
  have k4 : ∀ b o, b ≠ P₀ → h.get? b = some o → h4.get? b = some o := fun b o n e => x4 b o n (k3 _ _ e)
  have G4 : h4.Ns mainGlobals mg := by obtain ⟨o, es, ep, e, r⟩ := G; exact ⟨o, es, ep, k4 _ _ hgP e, r⟩
  refine wpAny_bind (wpAny_builtinsFor G4 b1 b2 (k4 _ _ hbP b3) b4 b5 b6 ?_)
  refine wpAny_bind ?_
  unfold newBodyFrame
  refine wpAny_bind (wpAny_nsGet G4 (wpAny_alloc ?_))
  rw [hcl]
  refine wpAny_bind (wpAny_pure (wpAny_holding ?_))
  dsimp only [List.nil_append]
  obtain ⟨h5, hh5⟩ : ∃ h5, h5 = h4.push { cls := Value.type "frame", slots := #[some (Value.ref c), some (Value.ref mainGlobals), some (Value.ref N), none, some ((mg (Str.ofString "__name__")).getD Value.none), none, some (Value.ref builtinsNs)] } := ⟨_, rfl⟩
  rw [← hh5]
  obtain ⟨fr, hfr⟩ : ∃ fr, fr = h4.objs.size := ⟨_, rfl⟩
  rw [← hfr]
  have k45 : ∀ b o, h4.get? b = some o → h5.get? b = some o := fun b o e => by rw [hh5]; exact Heap.get?_push_of_some _ e
  have k5 : ∀ b o, b ≠ P₀ → h.get? b = some o → h5.get? b = some o := fun b o n e => k45 _ _ (k4 b o n e)
  clear hh5 hfr
  have hP0lt : P₀ < h.objs.size := Heap.lt_size hP
  have hNP0 : N ≠ P₀ := Nat.ne_of_gt (Nat.lt_trans hP0lt hNs)
  have hbTP0 : h.objs.size ≠ P₀ := Nat.ne_of_gt hP0lt
  have N5 : h5.get? N = some { cls := .type "dict", data := .dict #[] } := k45 _ _ (x4 _ _ hNP0 N3)
  have bT5 := k45 _ _ (x4 _ _ hbTP0 bT3)
  have G5 : h5.Ns mainGlobals mg := by obtain ⟨o, es, ep, e, r⟩ := G4; exact ⟨o, es, ep, k45 _ _ e, r⟩
  have hgN : mainGlobals ≠ N := by
    obtain ⟨o, es, ep, e, r⟩ := G
    exact Nat.ne_of_lt (Nat.lt_trans (Heap.lt_size e) hNs)
  have hNP : N ≠ P := Nat.ne_of_lt (Nat.lt_of_lt_of_le hNsz hP4)
  have hPs : h.objs.size < P := Nat.lt_of_lt_of_le (Nat.lt_trans hNs hNsz) hP4
  refine wpAny_bind (wpAny_enterFrame ?_ hdp ?_)
  · obtain ⟨mc, ⟨o, es, ep, e, r⟩, q⟩ := nl
    refine ⟨mc, ⟨o, es, ep, k5 _ _ (fun q => ?_) e, r⟩, q⟩
    rw [q, hP] at e; cases e; cases r.1
  have CB5 : CB (kEnv scope qual clos N c fr) c P mg [] #[] h5 := ⟨⟨#[], 0, N5, trivial⟩, C4.keeps k45, k45 _ _ T4, trivial, hNP, G5, hgN, bm, ob, b1, b2, b2', k5 _ _ hbP b3, b4, b5, b6⟩
  obtain ⟨vn, hvn⟩ := hnm
  refine wpAny_bind (wpAny_onRaise ?_)
  rw [show loadName { scope := scope, locals := N, globals := mainGlobals, cells := clos, qual := qual ++ Str.ofString ".", code := Value.ref c, frame := some fr, builtins := builtinsNs } (Str.ofString "__name__") = _ from hld N c fr]
  refine wpAny_bind (wpAny_bind (localGet_at (env := kEnv scope qual clos N c fr) CB5.dict ?_))
  refine loadGlobal_global G5 hvn ?_
  refine wpAny_bind (class_store CB5.dict (hst N c fr _ (.head _) _) rfl fun h6 tk6 D6 s6 => ?_)
  have CB6 := CB5.ext (.same s6) D6 ((s6.2 _ (Ne.symm hNP)).trans CB5.tab) trivial
  refine wpAny_bind (wpAny_mkText ?_)
  refine wpAny_bind (class_store CB6.dict (hst N c fr _ (.tail _ (.head _)) _) rfl fun h7 tk7 D7 s7 => ?_)
  have CB7 := CB6.ext (.same s7) D7 ((s7.2 _ (Ne.symm hNP)).trans CB6.tab) trivial
  refine wpAny_bind (wpAny_mkInt ?_)
  refine wpAny_bind (class_store CB7.dict (hst N c fr _ (.tail _ (.tail _ (.head _))) _) rfl fun h8 tk8 D8 s8 => ?_)
  have CB8 := CB7.ext (.same s8) D8 ((s8.2 _ (Ne.symm hNP)).trans CB7.tab) trivial
  refine wpAny_pure ?_
  have k58 : ∀ b o, b ≠ N → h5.get? b = some o → h8.get? b = some o := fun b o n e => (s8.2 b n).trans ((s7.2 b n).trans ((s6.2 b n).trans e))
  refine wpAny_bind (wpAny_run (codeAny_body hann hdoc (wpAny_mono (H N c P fr h8 tk8 _ _ _ CB8 (fun b o n e => k58 b o (fun q => ?_) (k5 b o n e)) (k58 _ _ (Nat.ne_of_lt hNs) bT5) ⟨_, k58 _ _ (Ne.symm hNP0) (k45 _ _ hP04)⟩ hNs hPs (Nat.ne_of_lt (Nat.lt_trans hP0lt hPs))) (fun f s' hK => ?_) fun _ _ e => e.elim)))
  · rw [q] at e; exact absurd (Heap.lt_size e) (Nat.not_lt.mpr (Nat.le_of_lt hNs))
  obtain ⟨h9, tk9, rfl, hK⟩ := hK
  obtain ⟨l, ps', CB9, hl9, H2'⟩ := H2 N c P fr h9 t hK
  refine wpAny_bind (wpAny_onRaise ?_)
  simp only [List.mapM_cons, List.mapM_nil]
  refine wpAny_bind (wpAny_bind (wpAny_mkText (wpAny_bind (wpAny_pure (wpAny_pure ?_)))))
  refine wpAny_bind (wpAny_newTextTuple ?_)
  have k910 : ∀ b o, h9.get? b = some o → (h9.push { cls := .type "tuple", data := .seq #[.str so tk9] }).get? b = some o := fun b o e => Heap.get?_push_of_some _ e
  have CB10 := CB9.ext (h' := h9.push { cls := .type "tuple", data := .seq #[.str so tk9] }) (.of k910) (CB9.dict.at fun o e => k910 _ _ e) (k910 _ _ CB9.tab) CB9.ok
  refine wpAny_bind (class_store CB10.dict (hst N c fr _ (.tail _ (.tail _ (.tail _ (.head _)))) _) hl9 fun h11 tk11 D11 s11 => ?_)
  have CB11 := CB10.ext (.same s11) D11 ((s11.2 _ (Ne.symm hNP)).trans CB10.tab) CB10.ok
  refine wpAny_pure ?_
  refine KFB.if_not rfl ?_
  have hN9 : h9.objs.size ≠ N := by
    obtain ⟨es, n, e, _⟩ := CB9.dict
    exact Nat.ne_of_gt (Heap.lt_size e)
  refine wpAny_bind (wpAny_mono (H2' h11 tk11 h9.objs.size CB11 ((Ext2.of k910).trans (.same s11)) ⟨_, (s11.2 _ hN9).trans (Heap.get?_push_size _ rfl), rfl⟩) (fun v s' hq => wpAny_pure hq) fun _ _ e => e)
end
end Mine
end
section
open PySem PySem.W PySem.Calls PyProof.Rows Builtin
set_option maxRecDepth 100000
set_option maxHeartbeats 400000
namespace Mine
variable [Bd]
/-- a class object with this data -/
noncomputable def ClsAt (h : Heap) (C : Addr) (cd : ClassData) : Prop := ∃ sl, h.get? C = some { cls := .type "type", data := .cls cd, slots := sl }
section
variable {w : World} {A : Around} {E : Value → Shared → Prop} {h : Heap} {g : Array GenState} {d : Drawn} {t : Nat} {os : OsState} {C : Addr} {cd : ClassData}
theorem looks_clsAt {M : Model} (X : ClsAt h C cd) : Looks M h (classData C) cd := by
  obtain ⟨sl, e⟩ := X
  exact (Looks.ld (part := none) e).andThen .now
theorem looks_mroAt {M : Model} (X : ClsAt h C cd) : Looks M h (mroOf (.ref C)) cd.mro := (looks_clsAt X).andThen .now
theorem looks_subAt {M : Model} {b : Value} {r : Bool} (X : ClsAt h C cd) (hm : cd.mro.isEmpty = false) (hr : cd.mro.contains b = r) : Looks M h (isSubtype (.ref C) b) r := by
  unfold isSubtype
  refine (looks_mroAt X).andThen ?_
  simp only [hm, Bool.false_eq_true, if_false]
  rw [hr]; exact .now
theorem looks_isTypeAt {M : Model} (X : ClsAt h C cd) : Looks M h (isType (.ref C)) true := by
  obtain ⟨sl, e⟩ := X
  exact (Looks.ld e).andThen .now
theorem sup_call {Q : Value → Shared → Prop} (X : ClsAt h C cd) (hm : cd.mro.isEmpty = false) (hc : cd.mro.contains (.ref C) = true)
    (hq : ∀ h', h'.get? h.objs.size = some { cls := .type "super", dict := none, data := .fields #[.ref C, .ref C, .ref C], slots := #[] } → (∀ y o, h.get? y = some o → h'.get? y = some o) → Q (.ref h.objs.size) ⟨h', g, d, t, os⟩) :
    wpAny (model Mine.prog w) A (call (.type "super") [.ref C, .ref C]) Q E ⟨h, g, d, t, os⟩ := by
  obtain ⟨sl, hC⟩ := id X
  refine ks_callType_codesW (Q₁ := fun obj s₁ => obj = .ref h.objs.size ∧ s₁ = ⟨h.push { cls := .type "super", data := .fields #[.none, .none, .none] }, g, d, t, os⟩) F.ks_called_super (ks_wpAny_checkTypeCall_super hC rfl) F.ks_entry_super_init
    (ks_code_super_new _ _ ⟨rfl, rfl⟩) fun obj s₁ h₁ => ?_
  obtain ⟨rfl, rfl⟩ := h₁
  have up : ∀ y o, h.get? y = some o → (h.push { cls := .type "super", data := .fields #[.none, .none, .none] }).get? y = some o := fun y o e => Heap.get?_push_of_some _ e
  have hso : (h.push { cls := .type "super", data := .fields #[.none, .none, .none] }).get? h.objs.size = some { cls := .type "super", dict := none, data := .fields #[.none, .none, .none], slots := #[] } := Heap.get?_push_at rfl rfl
  have X' : ClsAt (h.push { cls := .type "super", data := .fields #[.none, .none, .none] }) C cd := ⟨sl, up _ _ hC⟩
  have t1 := looks_isTypeAt (M := model Mine.prog w) X'
  have t2 := looks_subAt (M := model Mine.prog w) X' hm hc
  refine ⟨⟨_, hso, rfl⟩, F.ks_initArgs_super _ _ _, ?_⟩
  unfold Builtin.«super.__init__» noKeywords
  repeat (first | (with_reducible refine Looks.at t1 ?_) | (with_reducible refine Looks.at t2 ?_) | (with_reducible refine ks_wpAny_super_set3 hso ?_) | wp_step)
  all_goals first
    | (intro h' e k; exact ⟨rfl, hq h' e fun y o ey => k y o (Nat.ne_of_lt (Heap.lt_size ey)) (up y o ey)⟩)
    | (refine ks_wpAny_super_set3 hso ?_; intro h' e k; exact ⟨rfl, hq h' e fun y o ey => k y o (Nat.ne_of_lt (Heap.lt_size ey)) (up y o ey)⟩)
end
end Mine
end
section
open PySem PySem.W PySem.Calls PyProof.Rows Builtin
set_option maxRecDepth 100000
set_option maxHeartbeats 400000
namespace Mine
variable [Bd]
noncomputable def isubObj (C : Addr) : Obj := { cls := .type "builtin_function_or_method", data := .fields #[.builtin "object.__init_subclass__", .ref C] }
noncomputable abbrev superObj (C : Addr) : Obj := { cls := .type "super", dict := none, data := .fields #[.ref C, .ref C, .ref C], slots := #[] }
theorem isub_type : typeOf (.builtin "object.__init_subclass__") = pure (.type "classmethod_descriptor") := by show builtinType _ = _; rw [builtinType_eq_fast]; kernel_rfl
theorem isub_own : (".".intercalate ("object.__init_subclass__".cutAt '.').dropLast) = "object" := by decide +kernel
theorem object_own : classOwn (.type "object") (Str.ofString "__init_subclass__") = pure (some (.builtin "object.__init_subclass__")) := by kernel_rfl
section
variable {w : World} {A : Around} {E : Value → Shared → Prop} {h : Heap} {g : Array GenState} {d : Drawn} {t : Nat} {os : OsState} {C so : Addr} {cd : ClassData} {tk : Tok}
theorem cmd_get2 {R : Result → Shared → Prop} (X : ClsAt h C cd) (hm : cd.mro.isEmpty = false) (hc : cd.mro.contains (.type "object") = true) (hq : R (.ok (.ret (.ref h.objs.size))) ⟨h.push (isubObj C), g, d, t, os⟩) :
    codeAny (model Mine.prog w) A (.call (.builtin "classmethod_descriptor.__get__") ⟨[.builtin "object.__init_subclass__", .none, .ref C], []⟩) R ⟨h, g, d, t, os⟩ := by
  have hT5 : (⟨h, g, d, t, os⟩ : Shared).TypeIs (.builtin "object.__init_subclass__") "classmethod_descriptor" := isub_type
  have t1 := looks_isTypeAt (M := model Mine.prog w) X
  have t2 := looks_subAt (M := model Mine.prog w) X hm hc
  refine codeAny_call_builtin cmd_slot.plain cmd_entry (cmd_slot.check _ _ _ _ _ _ _ _ hT5 (cmd_args _ _ _) ?_)
  unfold Builtin.«classmethod_descriptor.__get__»
  repeat (any_goals (first | assumption | (with_reducible refine Looks.at t1 ?_) | (rw [isub_own]; with_reducible refine Looks.at t2 ?_) | wp_step))
  all_goals exact hq
theorem super_ga {Q : Fin → Shared → Prop} (hso : h.get? so = some (superObj C)) (X : ClsAt h C cd) (hno : Looks (model Mine.prog w) h (opaqueClassAbove (.ref C)) none) (hmro : cd.mro = [.ref C, .type "object"])
    (hq : Q (.done (.ret (.ref h.objs.size))) ⟨h.push (isubObj C), g, d, t, os⟩) :
    wpAny (model Mine.prog w) A (Builtin.«super.__getattribute__» ⟨[.ref so, .str (Str.ofString "__init_subclass__") tk], []⟩) Q E ⟨h, g, d, t, os⟩ := by
  have hdt : (superObj C).data = .fields #[.ref C, .ref C, .ref C] := rfl
  have f0 : (#[.ref C, .ref C, .ref C] : Array Value)[0]? = some (.ref C) := rfl
  have f1 : (#[.ref C, .ref C, .ref C] : Array Value)[1]? = some (.ref C) := rfl
  have f2 : (#[.ref C, .ref C, .ref C] : Array Value)[2]? = some (.ref C) := rfl
  have hm := looks_mroAt (M := model Mine.prog w) X
  have e1 := object_own
  have e2 := isub_type
  have e3 := cmd_slot.lookup
  have hself : (Value.ref C == Value.ref C) = true := beq_self_eq_true _
  have hdw : List.drop 1 (List.dropWhile (fun x => x != Value.ref C) [Value.ref C, Value.type "object"]) = [Value.type "object"] := by
    rw [List.dropWhile_cons]
    simp
  unfold Builtin.«super.__getattribute__»
  repeat (first
    | (with_reducible refine wpAny_field hso hdt f0 ?_) | (with_reducible refine wpAny_field hso hdt f1 ?_) | (with_reducible refine wpAny_field hso hdt f2 ?_)
    | (with_reducible refine ks_wpAny_notOpaque hno ?_)
    | (with_reducible refine Looks.at hm ?_; simp only [hmro, hdw, List.forIn_cons, List.forIn_nil, hself, if_true])
    | wp_step)
  refine cmd_get2 X (by rw [hmro]; rfl) (by rw [hmro]; simp) ?_
  dsimp only
  repeat wp_step
  exact hq
theorem super_noGetattr : typeLookup (.type "super") "__getattr__" = pure none := by rw [typeLookup_type, builtinLookup_eq_fast]; kernel_rfl
theorem isub_get {Q : Value → Shared → Prop} (hso : h.get? so = some (superObj C)) (X : ClsAt h C cd) (hno : Looks (model Mine.prog w) h (opaqueClassAbove (.ref C)) none) (hmro : cd.mro = [.ref C, .type "object"])
    (hq : Q (.ref h.objs.size) ⟨h.push (isubObj C), g, d, t + 1, os⟩) :
    wpAny (model Mine.prog w) A (getAttr (.ref so) (Str.ofString "__init_subclass__")) Q E ⟨h, g, d, t, os⟩ := by
  have hT : ∀ tk', (⟨h, g, d, tk', os⟩ : Shared).TypeIs (.ref so) "super" := fun _ => ⟨_, hso, rfl⟩
  have f3 := F.ks_slot_super_ga.lookup
  have f4 := F.ks_slot_super_ga.bind (.ref so)
  have f5 := super_noGetattr
  unfold getAttr getAttrBy
  repeat (any_goals (first | assumption | exact hT _ | wp_step))
  refine codeAny_call_builtin F.ks_slot_super_ga.plain F.ks_entry_super_ga (F.ks_slot_super_ga.check _ _ _ _ _ _ _ _ (hT _) (F.ks_gaArgs_super _ _) (super_ga hso X hno hmro ?_))
  exact wpAny_pure hq
theorem isub_entry : entryFor table "object.__init_subclass__" = some Builtin.«object.__init_subclass__» := entryFor_of_tree (by kernel_rfl)
theorem isub_quiet {as : Args} : (Code.builtin "object.__init_subclass__" as).quiet = true := Code.quiet_builtin _ (by decide +kernel)
theorem isub_call {Q : Value → Shared → Prop} {b : Addr} (hb : h.get? b = some (isubObj C)) (X : ClsAt h C cd) (hmro : cd.mro = [.ref C, .type "object"])
    (hqn : ((toString cd.qualname.toString ++ toString "." ++ toString (Bind.lastOf "object.__init_subclass__")) != "*") = true) (hq : ∀ t', Q .none ⟨h, g, d, t', os⟩) :
    wpAny (model Mine.prog w) A (call (.ref b) [] []) Q E ⟨h, g, d, t, os⟩ := by
  obtain ⟨sl, hC⟩ := id X
  have hT : ∀ tk', (⟨h, g, d, tk', os⟩ : Shared).TypeIs (.ref C) "type" := fun _ => ⟨_, hC, rfl⟩
  have t1 := looks_isTypeAt (M := model Mine.prog w) X
  have t2 := looks_subAt (M := model Mine.prog w) (b := .type "object") (r := true) X (by rw [hmro]; rfl) (by rw [hmro]; simp)
  have f1 := sub_type_module
  refine wpAny_call (codeAny_of_tree ?_)
  show wpAny _ A.in1 (callAny (.ref b) ⟨[], []⟩) _ _ _
  simp only [callAny]
  refine wpAny_bind (wpAny_load hb ?_)
  simp only [isubObj, show (Value.type "builtin_function_or_method" == Value.type "method" || Value.type "builtin_function_or_method" == Value.type "builtin_function_or_method" || Value.type "builtin_function_or_method" == Value.type "method-wrapper") = true by decide, if_true]
  refine KFB.if_so (by decide) ?_
  unfold checkBoundCall
  repeat (any_goals (first | assumption | exact hT _ | (with_reducible refine Looks.at t1 ?_) | (with_reducible refine Looks.at t2 ?_) | (with_reducible refine KFB.if_so hqn ?_) | wp_step))
  refine ⟨isub_quiet, codeAny_builtin isub_entry ?_⟩
  unfold Builtin.«object.__init_subclass__»
  repeat (any_goals (first | assumption | wp_step))
  all_goals exact hq _
end
end Mine
end
section
open PySem PySem.W PySem.Calls PyProof.Rows Builtin
set_option maxRecDepth 100000
set_option maxHeartbeats 400000
namespace Mine
variable [Bd]
noncomputable def dropKey (x : Str) : List (Str × Value) → List (Str × Value)
  | [] => []
  | q :: l => if q.1 == x then l else q :: dropKey x l
theorem EsAre.drop {x : Str} : ∀ {es l}, EsAre es l → ∀ {i}, es.findIdx? (·.key.isStr x) = some i → EsAre (es.eraseIdx i) (dropKey x l)
  | [], [], _, i, hi => by simp at hi
  | e :: es, q :: l, ⟨⟨t, hs, h⟩, b⟩, i, hi => by
    subst h
    rw [List.findIdx?_cons, isStr_str] at hi
    unfold dropKey
    by_cases hn : (q.1 == x) = true
    · rw [hn] at hi ⊢
      simp at hi; subst hi
      exact b
    · simp only [Bool.not_eq_true] at hn
      rw [hn] at hi ⊢
      simp only [Bool.false_eq_true, if_false] at hi ⊢
      cases hj : es.findIdx? (·.key.isStr x) with
      | none => rw [hj] at hi; simp at hi
      | some j =>
        rw [hj] at hi
        simp at hi; subst hi
        exact ⟨⟨t, hs, rfl⟩, b.drop hj⟩
  | [], _ :: _, h, _, _ => h.elim
  | _ :: _, [], h, _, _ => h.elim
theorem EsAre.hasIdx {x : Str} {es l} (h : EsAre es l) {v} (hx : l.lookup x = some v) : ∃ i, es.findIdx? (·.key.isStr x) = some i := by
  cases q : es.findIdx? (·.key.isStr x) with
  | some i => exact ⟨i, rfl⟩
  | none =>
    have := h.find (x := x)
    rw [List.findIdx?_eq_none_iff] at q
    have h2 : es.find? (·.key.isStr x) = none := List.find?_eq_none.mpr fun e m => by simpa using q e m
    rw [h2, hx] at this; cases this
section
variable {M : Model} {A : Around} {E : Value → Shared → Prop} {s : Shared} {N : Addr} {l : List (Str × Value)} {x : Str} {v : Value}
theorem nsDel_at {Q : Bool → Shared → Prop} (D : DictAt s.heap N l) (hx : l.lookup x = some v)
    (h : ∀ h', DictAt h' N (dropKey x l) → Heap.SameBut N s.heap h' → Q true { s with heap := h' }) : wpAny M A (nsDel N x) Q E s := by
  obtain ⟨es, n, e, r⟩ := D
  obtain ⟨i, hi⟩ := r.hasIdx hx
  unfold nsDel
  refine wpAny_bind (wpAny_loadPart e ?_)
  rw [nsHas_eq]
  unfold nsHasByArray
  dsimp only
  have hany : es.any (·.key.isStr x) = true := by
    rw [← Array.any_toList, List.any_eq_true]
    have h2 := List.findIdx?_eq_some_iff_getElem.mp hi
    obtain ⟨hlt, hp, _⟩ := h2
    exact ⟨es.toList[i], List.getElem_mem hlt, hp⟩
  rw [hany]
  refine wpAny_bind (wpAny_pure ?_)
  refine KFB.if_so rfl ?_
  have hidx : es.findIdx? (·.key.isStr x) = some i := by rw [← Array.toArray_toList (xs := es), List.findIdx?_toArray]; exact hi
  have ho : Obj.dropName x { cls := .type "dict", data := .dict es n } = { cls := .type "dict", data := .dict (es.eraseIdxIfInBounds i) (n + 1) } := by
    simp only [Obj.dropName_eq, Obj.dropNameByArray, hidx]
  have hlt : i < es.size := by
    have h2 := List.findIdx?_eq_some_iff_getElem.mp hi
    obtain ⟨hlt, _⟩ := h2
    simpa using hlt
  refine wpAny_bind (wpAny_updatePart e (wpAny_pure (h _ ⟨es.eraseIdxIfInBounds i, n + 1, ?_, ?_⟩ (Heap.SameBut.update ..))))
  · rw [Heap.get?_update_self _ e (by rw [ho]; rfl), ho]
  · have : (es.eraseIdxIfInBounds i).toList = es.toList.eraseIdx i := by
      rw [Array.eraseIdxIfInBounds_eq, dif_pos hlt, Array.toList_eraseIdx]
    rw [this]; exact r.drop hi
end
end Mine
end
section
open PySem PySem.W PySem.Calls PyProof.Rows Builtin
set_option maxRecDepth 100000
set_option maxHeartbeats 400000
namespace Mine
variable [Bd]
theorem EsAre.any {x : Str} : ∀ {es l}, EsAre es l → es.any (·.key.isStr x) = l.any (fun q => q.1 == x)
  | [], [], _ => rfl
  | e :: es, q :: l, ⟨⟨t, hs, h⟩, b⟩ => by subst h; rw [List.any_cons, List.any_cons, b.any, isStr_str]
  | [], _ :: _, h => h.elim
  | _ :: _, [], h => h.elim
theorem EsAre.find_some {x : Str} {es l} (h : EsAre es l) {v} (hx : l.lookup x = some v) : ∃ e, es.find? (·.key.isStr x) = some e ∧ e.val = v := by
  have := h.find (x := x)
  rw [hx] at this
  obtain ⟨e, e1, e2⟩ := Option.map_eq_some_iff.mp this
  exact ⟨e, e1, e2⟩
section
variable {w : World} {A : Around} {E : Value → Shared → Prop} {h : Heap} {g : Array GenState} {d : Drawn} {t : Nat} {os : OsState} {sl : Addr} {es : Array DictEntry} {l : List (Str × Value)} {ts : Tok}
theorem forIn1A {α β : Type} {M : Model} {A : Around} {E : Value → Shared → Prop} {s : Shared} {x : α} {b : β} {f : α → β → Sem (ForInStep β)} {Q : β → Shared → Prop}
    (h : wpAny M A (f x b) (fun r s' => match r with | .done b' => Q b' s' | .yield b' => Q b' s') E s) : wpAny M A (forIn (#[].push x) b f) Q E s := by
  show wpAny M A (forIn [x].toArray b f) Q E s
  rw [List.forIn_toArray]
  exact forIn1 h
theorem slots_read {Q : Slots.Plan → Shared → Prop} (r : EsAre es.toList l) (hsl : l.lookup (Str.ofString "__slots__") = some (.ref sl)) (ho : h.get? sl = some { cls := .type "list", data := .seq #[.str (Str.ofString "obj") ts] })
    (hno : (l.any fun q => q.1 == Str.ofString "obj") = false)
    (hq : ∀ h' t', (∀ b o, h.get? b = some o → h'.get? b = some o) → Q { names := [Str.ofString "obj"], dict := false, weak := false, inherited := [] } ⟨h', g, d, t', os⟩) :
    wpAny (model Mine.prog w) A (Slots.read (Str.ofString "K") [.type "object"] es) Q E ⟨h, g, d, t, os⟩ := by
  have f1 : Slots.bestBase [.type "object"] = pure (.type "object") := by kernel_rfl
  have f2 : Slots.slotNamesOf (.type "object") = pure [] := by kernel_rfl
  have f3 : Slots.givesDict (.type "object") = pure false := by kernel_rfl
  have f4 : Slots.givesWeak (.type "object") = pure false := by kernel_rfl
  have f5 : Slots.varSize (.type "object") = pure false := by kernel_rfl
  obtain ⟨e, e1, e2⟩ := r.find_some hsl
  have e3 : es.find? (·.key.isStr (Str.ofString "__slots__")) = some e := by rw [← Array.find?_toList]; exact e1
  have e4 : es.any (·.key.isStr (Str.ofString "obj")) = false := by rw [← Array.any_toList, r.any]; exact hno
  have hl : h.IsList sl [Value.str (Str.ofString "obj") ts].toArray := ⟨_, ho, rfl, _, rfl⟩
  unfold Slots.read
  refine wpAny_bind (wpAny_of_eq f1 ?_)
  refine wpAny_bind (wpAny_of_eq f2 ?_)
  refine wpAny_bind (wpAny_of_eq f3 ?_)
  refine wpAny_bind (wpAny_of_eq f4 ?_)
  refine wpAny_bind (wpAny_of_eq f5 ?_)
  dsimp only
  rw [e3]
  dsimp only
  rw [e2]
  refine wpAny_bind (wpAny_rule ?_)
  refine wpAny_bind ?_
  unfold asStr?
  refine wpAny_bind (wpAny_load ho (wpAny_pure ?_))
  refine KFB.if_not rfl ?_
  refine wpAny_bind (collect_list hl ?_)
  refine KFB.if_so rfl ?_
  refine wpAny_bind (wpAny_of_eq f5 ?_)
  refine KFB.if_not rfl ?_
  refine wpAny_bind (forIn1 ?_)
  refine wpAny_bind (wpAny_pure ?_)
  refine wpAny_bind (wpAny_pure ?_)
  rw [show Slots.isIdentifier (Str.ofString "obj") = some true by decide +kernel]
  dsimp only
  refine wpAny_bind (wpAny_pure ?_)
  refine KFB.if_not rfl ?_
  refine KFB.if_not (by decide +kernel) ?_
  refine KFB.if_not (by decide +kernel) ?_
  refine wpAny_pure ?_
  refine wpAny_bind (forIn1A ?_)
  have mg : Slots.mangle (Str.ofString "K") (Str.ofString "obj") = Str.ofString "obj" := by decide +kernel
  refine KFB.if_not (by rw [mg, e4]; rfl) ?_
  refine KFB.if_not (by decide +kernel) ?_
  refine wpAny_pure ?_
  dsimp only
  rw [mg]
  refine wpAny_bind (wpAny_bind (wpAny_pure ?_))
  dsimp only
  refine wpAny_pure (wpAny_pure ?_)
  have k1 : ∀ b o, h.get? b = some o → ((h.push (seqObj "list" #[] 0)).update h.objs.size (Obj.mapSeq (· ++ [Value.str (Str.ofString "obj") ts].toArray))).get? b = some o := fun b o e => by
    rw [Heap.get?_update_ne _ _ _ _ (Nat.ne_of_lt (Heap.lt_size e))]; exact Heap.get?_push_of_some _ e
  exact hq _ _ k1
end
end Mine
end
section
open PySem PySem.W PySem.Calls PyProof.Rows Builtin
set_option maxRecDepth 100000
set_option maxHeartbeats 400000
namespace Mine
variable [Bd]
noncomputable def setSl (sl : Array (Option Value)) (i : Nat) (v : Option Value) : Array (Option Value) := (sl ++ Array.replicate (i + 1 - sl.size) none).setIfInBounds i v
section
variable {M : Model} {A : Around} {E : Value → Shared → Prop} {s : Shared} {a : Addr}
theorem setSlot_at {i : Nat} {v : Option Value} {c : Value} {dd : Option Addr} {cd : ClassData} {sl : Array (Option Value)} {Q : Unit → Shared → Prop} (ho : s.heap.get? a = some ⟨c, dd, .cls cd, sl⟩) (hi : i < 100)
    (h : ∀ h', h'.get? a = some ⟨c, dd, .cls cd, setSl sl i v⟩ → Heap.SameBut a s.heap h' → Q () { s with heap := h' }) : wpAny M A (setSlotAt a i v) Q E s := by
  unfold setSlotAt
  rw [if_neg (by unfold sizeLine; omega)]
  refine wpAny_updatePart ho (h _ ?_ (Heap.SameBut.update ..))
  exact Heap.get?_update_self _ ho rfl
theorem updCls_at {f : ClassData → ClassData} {c : Value} {dd : Option Addr} {cd : ClassData} {sl : Array (Option Value)} {Q : Unit → Shared → Prop} (ho : s.heap.get? a = some ⟨c, dd, .cls cd, sl⟩)
    (h : ∀ h', h'.get? a = some ⟨c, dd, .cls (f cd), sl⟩ → Heap.SameBut a s.heap h' → Q () { s with heap := h' }) (hl : (Data.cls (f cd)).pastItsLine = none := by rfl) : wpAny M A (updateCls a f) Q E s := by
  unfold updateCls
  refine wpAny_bind (wpAny_load ho ?_)
  dsimp only
  have hg : (s.heap.update a (Obj.mapCls f)).get? a = some ⟨c, dd, .cls (f cd), sl⟩ := Heap.get?_update_self _ ho rfl
  refine wpAny_bind (wpAny_update ho ?_)
  unfold lookBehind
  refine wpAny_bind (wpAny_loadPart hg ?_)
  dsimp only
  rw [hl]
  exact wpAny_pure (h _ hg (Heap.SameBut.update ..))
end
end Mine
end
section
open PySem PySem.W PySem.Calls PyProof.Rows Builtin
set_option maxRecDepth 100000
set_option maxHeartbeats 400000
namespace Mine
variable [Bd]
section
variable {M : Model} {h : Heap} {C : Addr} {cd : ClassData} {l : List (Str × Value)} {x : Str}
theorem looks_nsGet {N : Addr} (D : DictAt h N l) : Looks M h (nsGet N x) (l.lookup x) := fun A Q E s k q => nsGet_at (D.at fun o e => k _ _ e) q
theorem looks_ownAt (X : ClsAt h C cd) (D : DictAt h cd.ns l) : Looks M h (classOwn (.ref C) x) (l.lookup x) := by
  show Looks M h (do nsGet (← classData C).ns x) _
  exact (looks_clsAt X).andThen (looks_nsGet D)
theorem looks_lookupAt {r : Option Value} (X : ClsAt h C cd) (D : DictAt h cd.ns l) (hm : cd.mro = [.ref C, .type "object"]) (ho : classOwn (.type "object") x = pure r) :
    Looks M h (typeLookup (.ref C) x) ((l.lookup x).orElse fun _ => r) := fun A Q E s k q => by
  unfold typeLookup
  have X' : ClsAt s.heap C cd := let ⟨sl, e⟩ := X; ⟨sl, k _ _ e⟩
  have D' := D.at fun o e => k _ _ e
  refine wpAny_bind ((looks_mroAt X').here ?_)
  rw [hm, List.forIn_cons]
  refine wpAny_bind (wpAny_bind (wpAny_bind ((looks_ownAt (x := x) X' D').here ?_)))
  cases hl : l.lookup x with
  | some v =>
    rw [hl] at q
    exact wpAny_pure (wpAny_pure (wpAny_pure q))
  | none =>
    rw [hl] at q
    refine wpAny_pure ?_
    show wpAny _ _ (forIn [Value.type "object"] _ _) _ _ _
    rw [List.forIn_cons]
    refine wpAny_bind (wpAny_bind (wpAny_of_eq ho ?_))
    cases r with
    | some v => exact wpAny_pure (wpAny_pure (wpAny_pure q))
    | none =>
      refine wpAny_pure ?_
      show wpAny _ _ (forIn ([] : List Value) _ _) _ _ _
      rw [List.forIn_nil]
      exact wpAny_pure (wpAny_pure q)
theorem looks_slotAt {c : Value} {dd : Option Addr} {sl : Array (Option Value)} {i : Nat} (hC : h.get? C = some ⟨c, dd, .cls cd, sl⟩) : Looks M h (slotAt C i) (sl[i]?).join := by
  unfold slotAt
  exact (Looks.ld hC).andThen .now
theorem object_new_own : classOwn (.type "object") (Str.ofString "__new__") = pure (some (.builtin "object.__new__")) := by kernel_rfl
theorem looks_refresh {sl : Array (Option Value)} (hC : h.get? C = some ⟨.type "type", none, .cls cd, sl⟩) (h4 : (sl[4]?).join = some (.builtin "object.__new__")) (hm : cd.mro = [.ref C, .type "object"]) (D : DictAt h cd.ns l)
    (hl : l.lookup (Str.ofString "__new__") = none) : Looks M h (Bind.refreshMaker C) () := by
  unfold Bind.refreshMaker
  refine (looks_slotAt hC).andThen ?_
  rw [h4]
  have := looks_lookupAt (M := M) (x := Str.ofString "__new__") ⟨sl, hC⟩ D hm object_new_own
  rw [hl] at this
  refine this.andThen ?_
  show Looks M h (if (!("object.__new__".endsWith ".__new__")) = true then _ else _) _
  rw [if_neg (by decide +kernel)]
  exact .now
end
end Mine
end
section
open PySem PySem.W PySem.Calls PyProof.Rows Builtin
set_option maxRecDepth 100000
set_option maxHeartbeats 400000
namespace Mine
variable [Bd]
noncomputable def mdObj (C : Addr) (tt : Tok) : Obj := { cls := .type "member_descriptor", data := .fields #[.str (Str.ofString "obj") tt, .ref C, .builtin "proto.slot", .builtin "proto.slot#set", rawInt 0] }
section
variable {w : World} {A : Around} {E : Value → Shared → Prop} {h : Heap} {g : Array GenState} {d : Drawn} {t : Nat} {os : OsState} {C N2 : Addr} {cd : ClassData} {S : Array (Option Value)} {l : List (Str × Value)}
theorem install_at {Q : Unit → Shared → Prop} (hC : h.get? C = some ⟨.type "type", none, .cls cd, S⟩) (D : DictAt h N2 l) (hno : l.lookup (Str.ofString "obj") = none) (hl : l.length ≤ 1000) (hNC : N2 ≠ C) (hsub : cd.subclasses = [])
    (hq : ∀ h' t' m tt, h'.get? C = some ⟨.type "type", none, .cls { cd with hasDict := false, slotNames := [Str.ofString "obj"] }, S⟩ → DictAt h' N2 (l ++ [(Str.ofString "obj", .ref m)]) → h'.get? m = some (mdObj C tt) →
      (∀ b o, h.get? b = some o → b ≠ m) → m ≠ N2 → m ≠ C → (∀ b o, b ≠ N2 → b ≠ C → h.get? b = some o → h'.get? b = some o) → Q () ⟨h', g, d, t', os⟩) :
    wpAny (model Mine.prog w) A (Slots.install (.ref C) N2 [.type "object"] { names := [Str.ofString "obj"], dict := false, weak := false }) Q E ⟨h, g, d, t, os⟩ := by
  have f3 : Slots.givesDict (.type "object") = pure false := by kernel_rfl
  unfold Slots.install
  wp_delta
  simp only [List.filter_nil, List.length_nil, List.length_cons, Nat.zero_add, List.forIn_cons, List.forIn_nil, List.nil_append]
  refine wpAny_bind (wpAny_bind ?_)
  refine wpAny_bind (nsGet_at D ?_)
  rw [hno]
  refine KFB.if_so rfl ?_
  refine wpAny_bind (wpAny_mkStr ?_ (by decide +kernel))
  unfold newFields
  refine wpAny_bind (wpAny_newObj_type ?_ (by show 5 ≤ sizeLine + 2; decide))
  obtain ⟨m, hm⟩ : ∃ m, m = h.objs.size := ⟨_, rfl⟩
  have hmf : ∀ b o, h.get? b = some o → b ≠ m := fun b o e => Nat.ne_of_lt (hm ▸ Heap.lt_size e)
  obtain ⟨h1, hh1⟩ : ∃ h1, h1 = h.push (mdObj C t) := ⟨_, rfl⟩
  have k1 : ∀ b o, h.get? b = some o → h1.get? b = some o := fun b o e => by rw [hh1]; exact Heap.get?_push_of_some _ e
  have m1 : h1.get? m = some (mdObj C t) := by rw [hh1, hm]; exact Heap.get?_push_size _ rfl
  have hmN : m ≠ N2 := by obtain ⟨es, n, e, _⟩ := D; exact Ne.symm (hmf _ _ e)
  have hmC : m ≠ C := Ne.symm (hmf _ _ hC)
  change wpAny (model Mine.prog w) A _ _ _ ⟨h.push (mdObj C t), g, d, t + 1, os⟩
  rw [← hh1, ← hm]
  refine wpAny_bind (nsSetV_at (D.at fun o e => k1 _ _ e) hno hl fun h2 t2 D2 s2 => ?_)
  refine wpAny_pure ?_
  refine wpAny_pure ?_
  refine wpAny_bind (wpAny_bind (wpAny_bind (wpAny_of_eq f3 ?_)))
  refine KFB.if_not rfl ?_
  refine wpAny_pure ?_
  refine wpAny_pure ?_
  rw [if_neg (by decide)]
  refine updCls_at ((s2.2 _ (Ne.symm hNC)).trans (k1 _ _ hC)) (fun h3 C3 s3 => ?_) ?_
  · have hCN : C ≠ N2 := Ne.symm hNC
    exact hq h3 _ m t C3 (D2.at fun o e => (s3.2 _ hNC).trans e) ((s3.2 _ hmC).trans ((s2.2 _ hmN).trans m1)) hmf hmN hmC fun b o n1 n2 e => (s3.2 _ n2).trans ((s2.2 _ n1).trans (k1 _ _ e))
  · unfold Data.pastItsLine; simp [hsub]; decide
end
end Mine
end
section
open PySem PySem.W PySem.Calls PyProof.Rows Builtin
set_option maxRecDepth 100000
set_option maxHeartbeats 1000000
namespace Mine
variable [Bd]
theorem EsAre.length : ∀ {es : List DictEntry} {l : List (Str × Value)}, EsAre es l → es.length = l.length
  | [], [], _ => rfl
  | e :: es, q :: l, ⟨_, b⟩ => by rw [List.length_cons, List.length_cons, b.length]
  | [], _ :: _, h => h.elim
  | _ :: _, [], h => h.elim
theorem forInC {α β : Type} {M : Model} {A : Around} {E : Value → Shared → Prop} {s : Shared} {x : α} {l : List α} {b : β} {f : α → β → Sem (ForInStep β)} {Q : β → Shared → Prop}
    (h : wpAny M A (f x b) (fun r s' => match r with | .done b' => Q b' s' | .yield b' => wpAny M A (forIn l b' f) Q E s') E s) : wpAny M A (forIn (x :: l) b f) Q E s := by
  rw [List.forIn_cons]
  refine wpAny_bind (wpAny_mono h (fun r s' h' => ?_) fun _ _ e => e)
  cases r with
  | done b' => exact wpAny_pure h'
  | yield b' => exact h'
theorem forInN {α β : Type} {M : Model} {A : Around} {E : Value → Shared → Prop} {s : Shared} {b : β} {f : α → β → Sem (ForInStep β)} {Q : β → Shared → Prop} (h : Q b s) : wpAny M A (forIn ([] : List α) b f) Q E s := by
  rw [List.forIn_nil]; exact wpAny_pure h
theorem forIn_stay {α β : Type} {M : Model} {A : Around} {E : Value → Shared → Prop} {s : Shared} {b : β} {f : α → β → Sem (ForInStep β)} : ∀ {l : List α} {Q : β → Shared → Prop},
    (∀ e ∈ l, ∀ Q' : ForInStep β → Shared → Prop, Q' (.yield b) s → wpAny M A (f e b) Q' E s) → Q b s → wpAny M A (forIn l b f) Q E s
  | [], Q, _, h => forInN h
  | e :: l, Q, hf, h => forInC (hf e (.head _) _ (forIn_stay (fun e m => hf e (.tail _ m)) h))
theorem forInA_stay {α β : Type} {M : Model} {A : Around} {E : Value → Shared → Prop} {s : Shared} {b : β} {f : α → β → Sem (ForInStep β)} {a : Array α} {Q : β → Shared → Prop}
    (hf : ∀ e ∈ a.toList, ∀ Q' : ForInStep β → Shared → Prop, Q' (.yield b) s → wpAny M A (f e b) Q' E s) (h : Q b s) : wpAny M A (forIn a b f) Q E s := by
  rw [← Array.forIn_toList]; exact forIn_stay hf h
theorem EsAre.mem : ∀ {es : List DictEntry} {l : List (Str × Value)}, EsAre es l → ∀ e ∈ es, ∃ q ∈ l, ∃ t hs, e = ⟨hs, .str q.1 t, q.2⟩
  | e :: es, q :: l, ⟨⟨t, hs, h⟩, b⟩, _, .head _ => ⟨q, .head _, t, hs, h⟩
  | e :: es, q :: l, ⟨_, b⟩, e', .tail _ m => let ⟨q', m', r⟩ := b.mem e' m; ⟨q', .tail _ m', r⟩
  | [], _, _, _, m => by cases m
theorem note_object (C : Addr) : noteSubclassOfBuiltin "object" C = pure () := by
  unfold noteSubclassOfBuiltin
  rw [if_pos (by decide +kernel)]
noncomputable def kEnt2 (vm vf vs v0 v1 v2 v3 v4 v5 vt : Value) : List (Str × Value) := [(Str.ofString "__module__", vm), (Str.ofString "__firstlineno__", vf), (Str.ofString "__slots__", vs), (Str.ofString "__init__", v0), (Str.ofString "__lt__", v1), (Str.ofString "__gt__", v2), (Str.ofString "__eq__", v3), (Str.ofString "__le__", v4), (Str.ofString "__ge__", v5), (Str.ofString "__hash__", .none), (Str.ofString "__static_attributes__", vt)]
noncomputable def kEntries (vm vq vf vs v0 v1 v2 v3 v4 v5 vt : Value) : List (Str × Value) := [(Str.ofString "__module__", vm), (Str.ofString "__qualname__", vq), (Str.ofString "__firstlineno__", vf), (Str.ofString "__slots__", vs), (Str.ofString "__init__", v0), (Str.ofString "__lt__", v1), (Str.ofString "__gt__", v2), (Str.ofString "__eq__", v3), (Str.ofString "__le__", v4), (Str.ofString "__ge__", v5), (Str.ofString "__hash__", .none), (Str.ofString "__static_attributes__", vt)]
noncomputable abbrev kData (N2 C : Addr) (qual : Str) : ClassData := { name := Str.ofString "K", bases := [Value.type "object"], mro := [.ref C, .type "object"], ns := N2, qualname := qual, hasDict := false, slotNames := [Str.ofString "obj"] }
/-- the class that cmp_to_key makes -/
structure KClsAt (h : Heap) (C N2 m : Addr) (tt : Tok) (bT : Addr) (qual : Str) (tn tq : Tok) (md : Str) (tm : Tok) (fl : Int) (tf : Tok) (sl f0 f1 f2 f3 f4 f5 tup : Addr) : Prop where
  cls : h.get? C = some ⟨.type "type", none, .cls (kData N2 C qual), setSl (setSl (setSl (setSl (setSl #[] 0 (some (.ref bT))) 2 (some (.str (Str.ofString "K") tn))) 3 (some (.str qual tq))) 4 (some (Value.builtin "object.__new__"))) 5 (some (.bool false))⟩
  ns : DictAt h N2 (kEnt2 (.str md tm) (.int fl tf) (.ref sl) (.ref f0) (.ref f1) (.ref f2) (.ref f3) (.ref f4) (.ref f5) (.ref tup) ++ [(Str.ofString "obj", .ref m)] ++ [(Str.ofString "__doc__", .none)])
  md : h.get? m = some (mdObj C tt)
section
variable {w : World} {A : Around} {E : Value → Shared → Prop} {h : Heap} {g : Array GenState} {d : Drawn} {t : Nat} {os : OsState} {bT N sl f0 f1 f2 f3 f4 f5 tup : Addr} {md qual : Str} {fl : Int} {tm tq tf ts tn : Tok}
theorem type_new {Q : PySem.Fin → Shared → Prop}
    (hbT : h.get? bT = some { cls := .type "tuple", data := .seq #[.type "object"] })
    (D : DictAt h N (kEntries (.str md tm) (.str qual tq) (.int fl tf) (.ref sl) (.ref f0) (.ref f1) (.ref f2) (.ref f3) (.ref f4) (.ref f5) (.ref tup)))
    (hsl : h.get? sl = some { cls := .type "list", data := .seq #[.str (Str.ofString "obj") ts] }) (hNm : (N == sysModules) = false)
    (KX : Frag.In (K39 w.params) h) (hfn : ∀ f ∈ [f0, f1, f2, f3, f4, f5], ∃ o, h.get? f = some o ∧ o.cls = .type "function") (htup : ∃ o, h.get? tup = some o ∧ o.cls = .type "tuple")
    (hqn : ((toString qual.toString ++ toString "." ++ toString (Bind.lastOf "object.__init_subclass__")) != "*") = true)
    (hq : ∀ h' t' C N2 m tt, KClsAt h' C N2 m tt bT qual tn tq md tm fl tf sl f0 f1 f2 f3 f4 f5 tup → h.get? N2 = none → (∀ b o, h.get? b = some o → h'.get? b = some o) → Q (.done (.ret (.ref C))) ⟨h', g, d, t', os⟩) :
    wpAny (model Mine.prog w) A (Builtin.«type.__new__» ⟨[.type "type", .str (Str.ofString "K") tn, .ref bT, .ref N], []⟩) Q E ⟨h, g, d, t, os⟩ := by
  have e1 : isType (.type "object") = pure true := by kernel_rfl
  have e2 : typeOf (.type "object") = pure (.type "type") := by kernel_rfl
  have e3 := type_sub
  have e4 : isSubtype (.type "tuple") (.type "tuple") = pure true := by rw [isSubtype_type]; kernel_rfl
  have e5 : isSubtype (.type "dict") (.type "dict") = pure true := by rw [isSubtype_type]; kernel_rfl
  have e6 : notOverATurnedClass [.type "object"] = pure () := by kernel_rfl
  have e7 : extendedBase [.type "object"] = pure (.type "object") := by kernel_rfl
  have e8 : typeLookup (.type "dict") (Str.ofString "__iter__") = pure (some (.builtin "dict.__iter__")) := by rw [typeLookup_type, builtinLookup_eq_fast]; kernel_rfl
  obtain ⟨es, n, eN, r⟩ := id D
  unfold Builtin.«type.__new__»
  wp_delta
  refine wpAny_bind (m := asStr? _) (wpAny_pure ?_)
  wp_delta
  refine wpAny_bind (wpAny_isInstance (T := "tuple") ⟨_, hbT, rfl⟩ e4 ?_)
  refine KFB.if_not rfl ?_
  refine wpAny_bind (wpAny_isInstance (T := "dict") ⟨_, eN, rfl⟩ e5 ?_)
  refine KFB.if_not rfl ?_
  wp_delta
  refine wpAny_bind (m := seqItems? (.ref bT)) ?_
  unfold seqItems?
  refine wpAny_bind (wpAny_load hbT (wpAny_pure ?_))
  wp_delta
  refine (wpAny_ite_false (by decide) ?_)
  wp_delta
  refine wpAny_bind (forIn1 (x := Value.type "object") ?_)
  refine wpAny_bind (wpAny_of_eq e1 ?_)
  refine KFB.if_not rfl ?_
  refine wpAny_pure ?_
  wp_delta
  refine wpAny_bind (forIn1 (x := Value.type "object") ?_)
  wp_delta
  refine wpAny_bind (wpAny_of_eq e2 ?_)
  refine wpAny_bind (wpAny_of_eq e3 ?_)
  refine KFB.if_so rfl ?_
  refine wpAny_pure ?_
  wp_delta
  refine KFB.if_not (by decide) ?_
  wp_delta
  have hb : (if ((some #[Value.type "object"]).getD #[]).toList.isEmpty = true then [Value.type "object"] else ((some #[Value.type "object"]).getD #[]).toList) = [Value.type "object"] := rfl
  have hg : ((some #[Value.type "object"]).getD #[]).toList = [Value.type "object"] := rfl
  rw [hb]
  refine wpAny_bind (wpAny_of_eq e6 ?_)
  refine wpAny_bind (wpAny_of_eq e7 ?_)
  wp_delta
  refine KFB.if_not hNm ?_
  wp_delta
  refine wpAny_bind (m := dictEntries N) ?_
  unfold dictEntries
  refine wpAny_bind (wpAny_loadPart eN (wpAny_pure ?_))
  refine wpAny_bind (wpAny_specialOf (T := "dict") ⟨_, eN, rfl⟩ e8 ?_)
  wp_delta
  refine KFB.if_so (by simp) ?_
  refine wpAny_bind (wpAny_pure ?_)
  wp_delta
  refine wpAny_bind (wpAny_holding (slots_read r rfl hsl rfl fun h1 t1 k1 => ?_))
  have hsz : es.size ≤ 1000 := by
    have := r.length
    rw [← Array.length_toList, this]; exact Nat.le_of_ble_eq_true rfl
  refine wpAny_bind (wpAny_newObj_type ?_ (by unfold sizeOk; first | exact True.intro | (show es.size ≤ sizeLine + 1; unfold sizeLine; omega)))
  have N2e : (h1.push { cls := .type "dict", data := .dict es }).get? h1.objs.size = some { cls := .type "dict", data := .dict es } := Heap.get?_push_size _ rfl
  have k2 : ∀ b o, h.get? b = some o → (h1.push { cls := .type "dict", data := .dict es }).get? b = some o := fun b o e => Heap.get?_push_of_some _ (k1 b o e)
  obtain ⟨N2, hN2⟩ : ∃ N2, N2 = h1.objs.size := ⟨_, rfl⟩
  obtain ⟨h2, hh2⟩ : ∃ h2, h2 = h1.push { cls := .type "dict", data := .dict es } := ⟨_, rfl⟩
  have old2 : ∀ b o, h.get? b = some o → b < N2 := fun b o e => hN2 ▸ Heap.lt_size (k1 b o e)
  rw [← hh2, ← hN2] at N2e
  rw [← hh2] at k2
  rw [← hh2, ← hN2]
  have D2 : DictAt h2 N2 (kEntries (.str md tm) (.str qual tq) (.int fl tf) (.ref sl) (.ref f0) (.ref f1) (.ref f2) (.ref f3) (.ref f4) (.ref f5) (.ref tup)) := ⟨es, 0, N2e, r⟩
  wp_delta
  refine KFB.if_not (by show (!(es.any fun x => x.key.isStr (Str.ofString "__module__"))) = false; rw [← Array.any_toList, r.any]; rfl) ?_
  wp_delta
  refine wpAny_bind (KFB.if_not (by decide +kernel) (wpAny_pure ?_))
  wp_delta
  refine KFB.if_not (by decide +kernel) ?_
  wp_delta
  refine wpAny_bind (nsGet_at D2 ?_)
  wp_delta
  refine wpAny_bind (nsGet_at D2 ?_)
  wp_delta
  refine wpAny_bind (m := asStr? _) (wpAny_pure ?_)
  wp_delta
  refine wpAny_bind (wpAny_pure ?_)
  wp_delta
  refine wpAny_bind (nsGet_at D2 ?_)
  wp_delta
  refine wpAny_bind (wpAny_alloc ?_)
  obtain ⟨C, hC⟩ : ∃ C, C = h2.objs.size := ⟨_, rfl⟩
  obtain ⟨h3, hh3⟩ : ∃ h3, h3 = h2.push { cls := Value.type "type", data := Data.cls { name := Str.ofString "K", bases := [Value.type "object"], mro := [], ns := N2, qualname := qual } } := ⟨_, rfl⟩
  have C3 : h3.get? C = some ⟨.type "type", none, .cls { name := Str.ofString "K", bases := [Value.type "object"], mro := [], ns := N2, qualname := qual }, #[]⟩ := by rw [hh3, hC]; exact Heap.get?_push_size _ rfl
  have k3 : ∀ b o, h2.get? b = some o → h3.get? b = some o := fun b o e => by rw [hh3]; exact Heap.get?_push_of_some _ e
  have lt3 : ∀ b o, h2.get? b = some o → b < C := fun b o e => hC ▸ Heap.lt_size e
  change wpAny (model Mine.prog w) A _ _ _ ⟨h2.push { cls := Value.type "type", data := Data.cls { name := Str.ofString "K", bases := [Value.type "object"], mro := [], ns := N2, qualname := qual } }, g, d, t1, os⟩
  rw [← hh3, ← hC]
  change wpAny (model Mine.prog w) A _ _ _ ⟨h3, g, d, t1, os⟩
  have hNC : N2 ≠ C := Nat.ne_of_lt (lt3 _ _ N2e)
  have D3 := D2.at fun o e => k3 _ _ e
  have K3 : ∀ b o, h.get? b = some o → b ≠ N2 ∧ b ≠ C ∧ h3.get? b = some o := fun b o e => ⟨Nat.ne_of_lt (old2 b o e), Nat.ne_of_lt (lt3 _ _ (k2 b o e)), k3 _ _ (k2 b o e)⟩
  wp_delta
  refine KFB.if_so rfl ?_
  have e9 : mroHook? (.type "type") = pure none := by kernel_rfl
  have e10 : linearize [.type "object"] mroOf = pure [.type "object"] := by kernel_rfl
  refine wpAny_bind (setSlot_at (a := C) C3 (by decide) fun h4 C4 s4 => ?_)
  wp_delta
  refine wpAny_bind (setSlot_at (a := C) C4 (by decide) fun h5 C5 s5 => ?_)
  wp_delta
  refine wpAny_bind (setSlot_at (a := C) C5 (by decide) fun h6 C6 s6 => ?_)
  wp_delta
  have D6 : DictAt h6 N2 (kEntries (.str md tm) (.str qual tq) (.int fl tf) (.ref sl) (.ref f0) (.ref f1) (.ref f2) (.ref f3) (.ref f4) (.ref f5) (.ref tup)) := D3.at fun o e => (s6.2 _ hNC).trans ((s5.2 _ hNC).trans ((s4.2 _ hNC).trans e))
  have K6 : ∀ b o, h.get? b = some o → b ≠ N2 ∧ b ≠ C ∧ h6.get? b = some o := fun b o e => let ⟨n1, n2, e3⟩ := K3 b o e; ⟨n1, n2, (s6.2 _ n2).trans ((s5.2 _ n2).trans ((s4.2 _ n2).trans e3))⟩
  refine wpAny_bind (nsDel_at D6 rfl fun h7 D7 s7 => ?_)
  have D7 : DictAt h7 N2 (kEnt2 (.str md tm) (.int fl tf) (.ref sl) (.ref f0) (.ref f1) (.ref f2) (.ref f3) (.ref f4) (.ref f5) (.ref tup)) := D7
  have C7 := (s7.2 _ (Ne.symm hNC)).trans C6
  have K7 : ∀ b o, h.get? b = some o → b ≠ N2 ∧ b ≠ C ∧ h7.get? b = some o := fun b o e => let ⟨n1, n2, e3⟩ := K6 b o e; ⟨n1, n2, (s7.2 _ n1).trans e3⟩
  refine wpAny_bind (nsGet_at D7 ?_)
  wp_delta
  refine wpAny_bind (forInC ?_)
  refine wpAny_bind (nsGet_at D7 ?_)
  refine wpAny_pure ?_
  wp_delta
  refine forInC ?_
  refine wpAny_bind (nsGet_at D7 ?_)
  refine wpAny_pure ?_
  refine forInN ?_
  refine wpAny_bind (nsGet_at D7 ?_)
  wp_delta
  refine wpAny_bind (nsGet_at D7 ?_)
  wp_delta
  refine wpAny_bind (wpAny_of_eq e9 ?_)
  wp_delta
  refine wpAny_bind (wpAny_of_eq e10 ?_)
  have hfl : (List.filter (fun x => x != Value.ref C) [Value.ref C, Value.type "object"]) = [Value.type "object"] := by simp
  refine wpAny_bind (wpAny_pure ?_)
  wp_delta
  rw [hfl]
  have e11 : ((Manifest.find? "object").elim false fun ty => ty.attrs.any fun x => x.1 == "__del__") = false := by decide +kernel
  have hdel : (es.any fun x => x.key.isStr (Str.ofString "__del__")) = false := by rw [← Array.any_toList, r.any]; rfl
  refine wpAny_bind ?_
  unfold List.anyM
  refine wpAny_bind (wpAny_pure ?_)
  rw [e11]
  wp_delta
  refine wpAny_pure ?_
  refine wpAny_bind (updCls_at C7 (fun h8 C8 s8 => ?_) rfl)
  have C8 : h8.get? C = some ⟨.type "type", none, .cls { name := Str.ofString "K", bases := [Value.type "object"], mro := [.ref C, .type "object"], ns := N2, qualname := qual }, setSl (setSl (setSl #[] 0 (some (.ref bT))) 2 (some (.str (Str.ofString "K") tn))) 3 (some (.str qual tq))⟩ := by
    rw [C8, show ((fun n => es.any fun x => x.key.isStr n) (Str.ofString "__del__") || false) = false by rw [Bool.or_false]; exact hdel]
  refine wpAny_bind (wpAny_of_eq called_object.made ?_)
  refine wpAny_bind (setSlot_at (a := C) C8 (by decide) fun h9 C9 s9 => ?_)
  have D9 := D7.at (h' := h9) fun o e => (s9.2 _ hNC).trans ((s8.2 _ hNC).trans e)
  have K9 : ∀ b o, h.get? b = some o → b ≠ N2 ∧ b ≠ C ∧ h9.get? b = some o := fun b o e => let ⟨n1, n2, e3⟩ := K7 b o e; ⟨n1, n2, (s9.2 _ n2).trans ((s8.2 _ n2).trans e3)⟩
  have h44 : ((setSl (setSl (setSl (setSl #[] 0 (some (Value.ref bT))) 2 (some (.str (Str.ofString "K") tn))) 3 (some (.str qual tq))) 4 (some (Value.builtin "object.__new__")))[4]?).join = some (.builtin "object.__new__") := by kernel_rfl
  obtain ⟨S9, hS9⟩ : ∃ S9, S9 = setSl (setSl (setSl (setSl #[] 0 (some (Value.ref bT))) 2 (some (.str (Str.ofString "K") tn))) 3 (some (.str qual tq))) 4 (some (Value.builtin "object.__new__")) := ⟨_, rfl⟩
  have C9 : h9.get? C = some ⟨.type "type", none, .cls { name := Str.ofString "K", bases := [Value.type "object"], mro := [.ref C, .type "object"], ns := N2, qualname := qual }, S9⟩ := by rw [hS9]; exact C9
  rw [← hS9] at h44
  have n9 : (kEnt2 (.str md tm) (.int fl tf) (.ref sl) (.ref f0) (.ref f1) (.ref f2) (.ref f3) (.ref f4) (.ref f5) (.ref tup)).lookup (Str.ofString "__new__") = none := rfl
  refine wpAny_bind ((looks_refresh C9 h44 rfl D9 n9).here ?_)
  have e12 : Slots.givesWeak (.type "object") = pure false := by kernel_rfl
  have n10 : (kEnt2 (.str md tm) (.int fl tf) (.ref sl) (.ref f0) (.ref f1) (.ref f2) (.ref f3) (.ref f4) (.ref f5) (.ref tup)).lookup (Str.ofString "obj") = none := rfl
  refine wpAny_bind (install_at C9 D9 n10 (Nat.le_of_ble_eq_true rfl) hNC rfl fun h10 t10 m tt C10 D10 M10 hm hmN hmC k10 => ?_)
  have K10 : ∀ b o, h.get? b = some o → b ≠ N2 ∧ b ≠ C ∧ b ≠ m ∧ h10.get? b = some o := fun b o e => let ⟨n1, n2, e3⟩ := K9 b o e; ⟨n1, n2, hm _ _ e3, k10 _ _ n1 n2 e3⟩
  refine wpAny_bind (wpAny_of_eq e12 ?_)
  refine wpAny_bind (setSlot_at (a := C) C10 (by decide) fun h11 C11 s11 => ?_)
  wp_delta
  refine KFB.if_not rfl ?_
  wp_delta
  refine KFB.if_not rfl ?_
  wp_delta
  have D11 := D10.at (h' := h11) fun o e => (s11.2 _ hNC).trans e
  refine wpAny_bind (nsGet_at D11 ?_)
  wp_delta
  refine KFB.if_so rfl ?_
  refine wpAny_bind (nsSet_at D11 rfl fun h12 t12 D12 s12 => ?_)
  wp_delta
  refine wpAny_bind (nsGet_at D12 ?_)
  wp_delta
  refine KFB.if_so rfl ?_
  refine wpAny_bind (nsGet_at D12 ?_)
  refine KFB.if_not rfl ?_
  wp_delta
  have C12 := (s12.2 _ (Ne.symm hNC)).trans C11
  have M12 : h12.get? m = some (mdObj C tt) := (s12.2 _ hmN).trans ((s11.2 _ hmC).trans M10)
  have K12 : ∀ b o, h.get? b = some o → b ≠ N2 ∧ b ≠ C ∧ b ≠ m ∧ h12.get? b = some o := fun b o e => let ⟨n1, n2, n3, e3⟩ := K10 b o e; ⟨n1, n2, n3, (s12.2 _ n1).trans ((s11.2 _ n2).trans e3)⟩
  refine wpAny_bind (forIn1 ?_)
  wp_delta
  refine wpAny_bind (wpAny_of_eq (note_object C) ?_)
  refine wpAny_pure ?_
  wp_delta
  change wpAny (model Mine.prog w) A _ _ _ ⟨h12, g, d, t12, os⟩
  obtain ⟨es12, n12, eN12, r12⟩ := id D12
  refine wpAny_bind (wpAny_tryCatch (wpAny_holding ?_))
  wp_delta
  refine wpAny_bind (wpAny_bind (wpAny_loadPart eN12 (wpAny_pure ?_)))
  have lk : ∀ {T : String} {a : Addr}, (∃ o, h12.get? a = some o ∧ o.cls = .type T) → typeLookup (.type T) (Str.ofString "__set_name__") = pure none → Looks (model Mine.prog w) h12 (specialOf (.ref a) (Str.ofString "__set_name__")) none := fun {T a} ⟨o, e1, e2⟩ e3 =>
    Looks.andThen (a := .type T) (show Looks (model Mine.prog w) h12 (typeOf (.ref a)) (.type T) from e2 ▸ ((Looks.ld e1).andThen .now)) (Looks.of_pure e3)
  have q1 : typeLookup (.type "str") (Str.ofString "__set_name__") = pure none := by rw [typeLookup_type, builtinLookup_eq_fast]; kernel_rfl
  have q2 : typeLookup (.type "int") (Str.ofString "__set_name__") = pure none := by rw [typeLookup_type, builtinLookup_eq_fast]; kernel_rfl
  have q3 : typeLookup (.type "list") (Str.ofString "__set_name__") = pure none := by rw [typeLookup_type, builtinLookup_eq_fast]; kernel_rfl
  have q4 : typeLookup (.type "function") (Str.ofString "__set_name__") = pure none := by rw [typeLookup_type, builtinLookup_eq_fast]; kernel_rfl
  have q5 : typeLookup (.type "NoneType") (Str.ofString "__set_name__") = pure none := by rw [typeLookup_type, builtinLookup_eq_fast]; kernel_rfl
  have q6 : typeLookup (.type "tuple") (Str.ofString "__set_name__") = pure none := by rw [typeLookup_type, builtinLookup_eq_fast]; kernel_rfl
  have q7 : typeLookup (.type "member_descriptor") (Str.ofString "__set_name__") = pure none := by rw [typeLookup_type, builtinLookup_eq_fast]; kernel_rfl
  have up : ∀ {T : String} {a : Addr}, (∃ o, h.get? a = some o ∧ o.cls = .type T) → ∃ o, h12.get? a = some o ∧ o.cls = .type T := fun {T a} ⟨o, e1, e2⟩ => ⟨o, (K12 _ _ e1).2.2.2, e2⟩
  have fn : ∀ f ∈ [f0, f1, f2, f3, f4, f5], Looks (model Mine.prog w) h12 (specialOf (.ref f) (Str.ofString "__set_name__")) none := fun f mf => lk (up (hfn f mf)) q4
  have hset : ∀ q ∈ kEnt2 (.str md tm) (.int fl tf) (.ref sl) (.ref f0) (.ref f1) (.ref f2) (.ref f3) (.ref f4) (.ref f5) (.ref tup) ++ [(Str.ofString "obj", .ref m)] ++ [(Str.ofString "__doc__", .none)],
      heldUnderItsOwnName q.1 q.2 = false ∧ Looks (model Mine.prog w) h12 (specialOf q.2 (Str.ofString "__set_name__")) none := by
    intro q hq
    simp only [kEnt2, List.mem_cons, List.mem_append, List.not_mem_nil, or_false, or_assoc] at hq
    rcases hq with rfl | rfl | rfl | rfl | rfl | rfl | rfl | rfl | rfl | rfl | rfl | rfl | rfl
    · exact ⟨rfl, Looks.of_pure q1⟩
    · exact ⟨rfl, Looks.of_pure q2⟩
    · exact ⟨rfl, lk (up ⟨_, hsl, rfl⟩) q3⟩
    · exact ⟨rfl, fn _ (by simp)⟩
    · exact ⟨rfl, fn _ (by simp)⟩
    · exact ⟨rfl, fn _ (by simp)⟩
    · exact ⟨rfl, fn _ (by simp)⟩
    · exact ⟨rfl, fn _ (by simp)⟩
    · exact ⟨rfl, fn _ (by simp)⟩
    · exact ⟨rfl, Looks.of_pure q5⟩
    · exact ⟨rfl, lk (up htup) q6⟩
    · exact ⟨rfl, lk ⟨_, M12, rfl⟩ q7⟩
    · exact ⟨rfl, Looks.of_pure q5⟩
  refine wpAny_bind (forInA_stay (fun e me Q' hQ' => ?_) ?_)
  · obtain ⟨q, mq, t', hs', rfl⟩ := r12.mem e me
    wp_delta
    refine wpAny_bind (m := asStr? _) (wpAny_pure ?_)
    refine KFB.if_not rfl ?_
    exact wpAny_pure hQ'
  wp_delta
  refine KFB.if_not rfl ?_
  wp_delta
  refine wpAny_bind (wpAny_bind (wpAny_loadPart eN12 (wpAny_pure ?_)))
  refine wpAny_bind (forInA_stay (fun e me Q' hQ' => ?_) ?_)
  · obtain ⟨q, mq, t', hs', rfl⟩ := r12.mem e me
    obtain ⟨a1, a2⟩ := hset q mq
    refine KFB.if_not a1 ?_
    refine wpAny_bind (a2.here ?_)
    exact wpAny_pure hQ'
  have X12 : ClsAt h12 C (kData N2 C qual) := ⟨_, C12⟩
  refine wpAny_bind (sup_call X12 rfl (by simp) fun h13 e13 k13 => ?_)
  have X13 : ClsAt h13 C (kData N2 C qual) := ⟨_, k13 _ _ C12⟩
  have KX13 : Frag.In (K39 w.params) h13 := fun a o e => k13 _ _ (K12 _ _ (KX a o e)).2.2.2
  have hno : Looks (model Mine.prog w) h13 (opaqueClassAbove (.ref C)) none := looks_opaque KX13 (by with_unfolding_all rfl)
  refine wpAny_bind (wpAny_holding (isub_get e13 X13 hno rfl ?_))
  have X14 : ClsAt (h13.push (isubObj C)) C (kData N2 C qual) := ⟨_, Heap.get?_push_of_some _ (k13 _ _ C12)⟩
  refine wpAny_bind (isub_call (Heap.get?_push_size _ rfl) X14 rfl hqn fun t' => ?_)
  refine wpAny_pure ?_
  refine wpAny_pure (hq _ _ C N2 m tt ⟨?_, ?_, ?_⟩ (by cases q : h.get? N2 with | none => rfl | some o => exact absurd (old2 _ _ q) (Nat.lt_irrefl _)) fun b o e => Heap.get?_push_of_some _ (k13 _ _ (K12 _ _ e).2.2.2))
  · rw [hS9] at C12
    exact Heap.get?_push_of_some _ (k13 _ _ C12)
  · exact D12.at fun o e => Heap.get?_push_of_some _ (k13 _ _ e)
  · exact Heap.get?_push_of_some _ (k13 _ _ M12)

end
end Mine
end
section
open PySem PySem.W PySem.Calls PyProof.Rows Builtin
set_option maxRecDepth 100000
set_option maxHeartbeats 1000000
namespace Mine
variable [Bd]
theorem mro_type' : mroOf (.type "type") = pure [.type "type", .type "object"] := by rw [mroOf_type]; kernel_rfl
theorem lookup_type_new : typeLookup (.type "type") "__new__" = pure (some (.builtin "type.__new__")) := by rw [typeLookup_type, builtinLookup_eq_fast]; kernel_rfl
theorem made_type : Bind.madeBy (.type "type") = pure (some "type.__new__") := madeBy_type mro_type' lookup_type_new (by decide +kernel)
theorem slot_type_init : Slot "type" "__init__" "type.__init__" := .of (owner := "type") (n := "__init__") (by rw [typeLookup_type, builtinLookup_eq_fast]; kernel_rfl) (by decide +kernel) (by decide +kernel) (by decide +kernel)
    (.inl (by decide +kernel)) (by rw [isSubtype_type]; kernel_rfl)
theorem typeCall_type (a b c : Value) : checkTypeCall "type" ⟨[a, b, c], []⟩ = pure () := by kernel_rfl
theorem newCall_type (a b c : Value) : checkBuiltinCall "type.__new__" ⟨[.type "type", a, b, c], []⟩ = pure () := by kernel_rfl
theorem initArgs_type (o a b c : Value) : argsOk "type.__init__" ⟨[o, a, b, c], []⟩ := by unfold argsOk; kernel_rfl
theorem entry_type_new : entryFor table "type.__new__" = some Builtin.«type.__new__» := entryFor_of_tree (by kernel_rfl)
theorem entry_type_init : entryFor table "type.__init__" = some Builtin.«type.__init__» := entryFor_of_tree (by kernel_rfl)
theorem create_type : ((Manifest.find? "type").bind (·.mro.findSome? fun t => (Manifest.find? t).bind fun b => if b.noNew then some true else if b.attrs.any (·.1 == "__new__") then some false else none)).getD false = false := by decide +kernel
section
variable {w : World} {A : Around} {E : Value → Shared → Prop} {h : Heap} {g : Array GenState} {d : Drawn} {t : Nat} {os : OsState} {bT N sl f0 f1 f2 f3 f4 f5 tup : Addr} {md qual : Str} {fl : Int} {tm tq tf ts tn : Tok}
theorem type_call {Q : Value → Shared → Prop}
    (hbT : h.get? bT = some { cls := .type "tuple", data := .seq #[.type "object"] })
    (D : DictAt h N (kEntries (.str md tm) (.str qual tq) (.int fl tf) (.ref sl) (.ref f0) (.ref f1) (.ref f2) (.ref f3) (.ref f4) (.ref f5) (.ref tup)))
    (hsl : h.get? sl = some { cls := .type "list", data := .seq #[.str (Str.ofString "obj") ts] }) (hNm : (N == sysModules) = false)
    (KX : Frag.In (K39 w.params) h) (hfn : ∀ f ∈ [f0, f1, f2, f3, f4, f5], ∃ o, h.get? f = some o ∧ o.cls = .type "function") (htup : ∃ o, h.get? tup = some o ∧ o.cls = .type "tuple")
    (hqn : ((toString qual.toString ++ toString "." ++ toString (Bind.lastOf "object.__init_subclass__")) != "*") = true)
    (hq : ∀ h' t' C N2 m tt, KClsAt h' C N2 m tt bT qual tn tq md tm fl tf sl f0 f1 f2 f3 f4 f5 tup → h.get? N2 = none → (∀ b o, h.get? b = some o → h'.get? b = some o) → Q (.ref C) ⟨h', g, d, t', os⟩) :
    wpAny (model Mine.prog w) A (call (.type "type") [.str (Str.ofString "K") tn, .ref bT, .ref N] []) Q E ⟨h, g, d, t, os⟩ := by
  have e1 := made_type
  have e2 := create_type
  have e3 := typeCall_type (.str (Str.ofString "K") tn) (.ref bT) (.ref N)
  have e4 := mro_type'
  refine wpAny_call (codeAny_of_tree ?_)
  show wpAny _ _ (callAny (.type "type") _) _ _ _
  refine wpAny_pure ⟨Code.quiet_builtin _ (by decide +kernel), codeAny_builtin F.entry_type_call ?_⟩
  rw [Around.under_plain (weight_type_call_type "type" [.str (Str.ofString "K") tn, .ref bT, .ref N] []) rfl]
  unfold Builtin.«type.__call__»
  repeat (any_goals (first | assumption | wp_step))
  refine codeAny_call_builtin (by decide +kernel) entry_type_new (wpAny_of_eq (newCall_type _ _ _) ?_)
  refine type_new hbT D hsl hNm KX hfn htup hqn fun h' t' C N2 m tt HK hN hk => ?_
  have hT : (⟨h', g, d, t', os⟩ : Shared).TypeIs (.ref C) "type" := ⟨_, HK.cls, rfl⟩
  show wpAny _ _ _ _ _ _
  refine wpAny_bind (wpAny_isInstance hT type_sub ?_)
  refine KFB.if_not rfl ?_
  refine wpAny_bind (wpAny_holding (wpAny_callSpecial?_slot (name := Str.ofString "__init__") hT slot_type_init (wpAny_call_entry slot_type_init hT entry_type_init ?_ (initArgs_type _ _ _ _))))
  unfold Builtin.«type.__init__»
  repeat (any_goals (first | assumption | wp_step))
  refine ⟨.none, rfl, ?_⟩
  wp_delta
  refine KFB.if_not (by decide) ?_
  exact wpAny_pure (hq h' t' C N2 m tt HK hN hk)
end
end Mine
end
section
open PySem PySem.W PySem.Calls PyProof.Rows Builtin
set_option maxRecDepth 100000
set_option maxHeartbeats 1000000
namespace Mine
variable [Bd]
noncomputable def fragOf (h : Heap) (as : List Addr) : Frag := as.map fun a => (a, (h.get? a).getD emptyDict)
theorem fragOf_lookup {h : Heap} {a : Addr} : ∀ {as : List Addr}, a ∈ as → (fragOf h as).lookup a = some ((h.get? a).getD emptyDict)
  | b :: as, m => by
    show ((b, _) :: fragOf h as).lookup a = _
    rw [List.lookup_cons]
    by_cases q : (a == b) = true
    · rw [q]; rw [beq_iff_eq.mp q]
    · simp only [Bool.not_eq_true] at q; rw [q]
      rcases List.mem_cons.mp m with e | m
      · rw [e] at q; simp at q
      · exact fragOf_lookup m
theorem fragOf_mem {h : Heap} {a : Addr} {o : Obj} : ∀ {as : List Addr}, (fragOf h as).lookup a = some o → a ∈ as
  | b :: as, e => by
    change ((b, _) :: fragOf h as).lookup a = _ at e
    rw [List.lookup_cons] at e
    by_cases q : (a == b) = true
    · rw [beq_iff_eq.mp q]; exact .head _
    · simp only [Bool.not_eq_true] at q; rw [q] at e; exact .tail _ (fragOf_mem e)
theorem fragOf_in {h : Heap} {as : List Addr} (H : ∀ a ∈ as, ∃ o, h.get? a = some o) : (fragOf h as).In h := fun a o e => by
  have m := fragOf_mem e
  rw [fragOf_lookup m] at e
  obtain ⟨o', e'⟩ := H a m
  rw [e'] at e; cases e; exact e'
theorem fragOf_at {h : Heap} {as : List Addr} {a : Addr} {o : Obj} (m : a ∈ as) (e : h.get? a = some o) : (fragOf h as).lookup a = some o := by rw [fragOf_lookup m, e]; rfl

/-- the class K as known objects -/
structure KIn (K : Frag) (C N2 m f0 f1 : Addr) (qual : Str) (l : List (Str × Value)) : Prop where
  hc : ∃ sl, K.lookup C = some ⟨.type "type", none, .cls (kData N2 C qual), sl⟩ ∧ (sl.toList[4]?).join = some (.builtin "object.__new__")
  hn : ∃ es k sl, K.lookup N2 = some { cls := .type "dict", data := .dict es k, slots := sl } ∧ EsAre es.toList l
  hm : ∃ tt, K.lookup m = some (mdObj C tt)
  h0 : ∃ o, K.lookup f0 = some o ∧ o.cls = .type "function"
  h1 : ∃ o, K.lookup f1 = some o ∧ o.cls = .type "function"
  l0 : l.lookup (Str.ofString "__init__") = some (.ref f0)
  l1 : l.lookup (Str.ofString "__lt__") = some (.ref f1)
  lo : l.lookup (Str.ofString "obj") = some (.ref m)
  ls : l.lookup (Str.ofString "__setattr__") = none
  lg : l.lookup (Str.ofString "__getattribute__") = none
  lh : l.lookup (Str.ofString "__getattr__") = none

section
variable {K : Frag} {C N2 m f0 f1 : Addr} {qual : Str} {l : List (Str × Value)}
theorem KIn.ns (X : KIn K C N2 m f0 f1 qual l) (x : Str) : nsIn K N2 x = some (l.lookup x) := by
  obtain ⟨es, k, sl, e, r⟩ := X.hn
  have hf := r.find (x := x)
  have hn := r.noRef
  unfold nsIn
  rw [e]
  dsimp only
  cases q : es.toList.find? (·.key.isStr x) with
  | some e => rw [q] at hf; rw [← hf]; rfl
  | none => rw [q] at hf; rw [← hf]; simp only [hn]; rfl
theorem KIn.cls (X : KIn K C N2 m f0 f1 qual l) : clsIn K C = some (kData N2 C qual) := by
  obtain ⟨sl, e, _⟩ := X.hc
  unfold clsIn; rw [e]
theorem KIn.find (X : KIn K C N2 m f0 f1 qual l) (x : Str) : findIn K (.ref C) x = some (match l.lookup x with | some v => some v | none => fastBuiltinOwn "object" x) := by
  obtain ⟨sl, e, _⟩ := X.hc
  have hn := X.ns x
  unfold findIn
  dsimp only
  rw [e]
  dsimp only [kData]
  unfold alongIn
  have h1 : ownIn K x (.ref C) = some (l.lookup x) := by
    unfold ownIn; dsimp only; rw [e]; exact hn
  rw [h1]
  cases q : l.lookup x with
  | some v => rfl
  | none =>
    dsimp only
    unfold alongIn
    show (match some (fastBuiltinOwn "object" x) with | some (some v) => some (some v) | some none => alongIn K x [] | none => none) = _
    cases fastBuiltinOwn "object" x <;> rfl
theorem refEq (C : Addr) : (Value.ref C == Value.ref C) = true := by simp
theorem KIn.mro (X : KIn K C N2 m f0 f1 qual l) : (kData N2 C qual).mro.contains (.ref C) = true ∧ (kData N2 C qual).mro.contains (.type "object") = true := by
  constructor
  · simp
  · simp
theorem KIn.initAt (X : KIn K C N2 m f0 f1 qual l) : findIn K (.ref C) "__init__" = some (some (.ref f0)) := by
  have := X.find (Str.ofString "__init__"); rw [X.l0] at this; exact this
theorem KIn.ltAt (X : KIn K C N2 m f0 f1 qual l) : findIn K (.ref C) "__lt__" = some (some (.ref f1)) := by
  have := X.find (Str.ofString "__lt__"); rw [X.l1] at this; exact this
theorem KIn.objAt (X : KIn K C N2 m f0 f1 qual l) : findIn K (.ref C) "obj" = some (some (.ref m)) := by
  have := X.find (Str.ofString "obj"); rw [X.lo] at this; exact this
theorem KIn.setAt (X : KIn K C N2 m f0 f1 qual l) : findIn K (.ref C) "__setattr__" = some (some (.builtin "object.__setattr__")) := by
  have := X.find (Str.ofString "__setattr__"); rw [X.ls] at this; exact this.trans (by kernel_rfl)
theorem KIn.getAt (X : KIn K C N2 m f0 f1 qual l) : findIn K (.ref C) "__getattribute__" = some (some (.builtin "object.__getattribute__")) := by
  have := X.find (Str.ofString "__getattribute__"); rw [X.lg] at this; exact this.trans (by kernel_rfl)
theorem KIn.hookAt (X : KIn K C N2 m f0 f1 qual l) : findIn K (.ref C) "__getattr__" = some none := by
  have := X.find (Str.ofString "__getattr__"); rw [X.lh] at this; exact this.trans (by kernel_rfl)
theorem KIn.fn0 (X : KIn K C N2 m f0 f1 qual l) : typeIn K (.ref f0) = some (.type "function") := by
  obtain ⟨o, e, c⟩ := X.h0; unfold typeIn; dsimp only; rw [e]; exact congrArg some c
theorem KIn.fn1 (X : KIn K C N2 m f0 f1 qual l) : typeIn K (.ref f1) = some (.type "function") := by
  obtain ⟨o, e, c⟩ := X.h1; unfold typeIn; dsimp only; rw [e]; exact congrArg some c
theorem KIn.isFn1 (X : KIn K C N2 m f0 f1 qual l) : isFn K (.ref f1) = true := by unfold isFn; rw [X.fn1]; simp
theorem KIn.plain (X : KIn K C N2 m f0 f1 qual l) : plainOver K C = true := by
  unfold plainOver; rw [X.cls]; rfl
theorem KIn.mdType (X : KIn K C N2 m f0 f1 qual l) : typeIn K (.ref m) = some (.type "member_descriptor") := by
  obtain ⟨tt, e⟩ := X.hm; unfold typeIn; dsimp only; rw [e]; rfl
theorem fl_md_set : ∃ v, fastLookup "member_descriptor" "__set__" = some (some v) := ⟨.builtin "member_descriptor.__set__", by kernel_rfl⟩
theorem KIn.mdTakes (X : KIn K C N2 m f0 f1 qual l) : takesIn K (.ref m) = some true := by
  obtain ⟨v, hv⟩ := fl_md_set
  unfold takesIn specialIn
  rw [X.mdType]
  have hv' : ((some (Value.type "member_descriptor")).bind fun t => findIn K t (Str.ofString "__set__")) = some (some v) := hv
  rw [hv']
theorem KIn.taker (X : KIn K C N2 m f0 f1 qual l) : takerIn K C "obj" = some (some (.ref m)) := by
  unfold takerIn
  rw [X.objAt]
  show (takesIn K (.ref m)).map _ = _
  rw [X.mdTakes]; rfl
theorem KIn.slot (X : KIn K C N2 m f0 f1 qual l) : slotIn K m C = some 0 := by
  obtain ⟨tt, e⟩ := X.hm
  have h1 : recIn K m "member_descriptor" = some [.str (Str.ofString "obj") tt, .ref C, .builtin "proto.slot", .builtin "proto.slot#set", rawInt 0] := by
    unfold recIn; rw [e]; rfl
  unfold slotIn
  rw [h1, X.cls]
  show (if ("proto.slot" == "proto.slot" && "proto.slot#set" == "proto.slot#set" && !(kData N2 C qual).mro.isEmpty && (kData N2 C qual).mro.contains (.ref C) && decide ((0 : Int).toNat < 1)) = true then some (1 - 1 - (0 : Int).toNat) else none) = some 0
  rw [X.mro.1]
  rfl
theorem KIn.mdGet (X : KIn K C N2 m f0 f1 qual l) : specialIn K (.ref m) "__get__" = some (some (.builtin "member_descriptor.__get__")) := by
  unfold specialIn
  rw [X.mdType]
  show fastLookup "member_descriptor" "__get__" = _
  kernel_rfl
theorem KIn.obj (X : KIn K C N2 m f0 f1 qual l) {od : Option Obj} : findObj K C od "obj" = some (.bind (.builtin "member_descriptor.__get__") (.ref m)) := by
  unfold findObj
  rw [X.cls, X.objAt]
  dsimp only [Option.bind_some]
  rw [X.mdGet]
  dsimp only [Option.bind_some]
  rw [X.mdTakes]
  rfl
theorem KIn.makes (X : KIn K C N2 m f0 f1 qual l) : makesIn K C = true := by
  obtain ⟨sl, e, e4⟩ := X.hc
  have h1 : specialIn K (.ref C) "__call__" = some (some (.builtin "type.__call__")) := by
    unfold specialIn typeIn; dsimp only; rw [e]; show fastLookup "type" "__call__" = _; kernel_rfl
  have h2 : instIn K (.ref C) (.type "type") = some true := by
    unfold instIn typeIn; dsimp only; rw [e]; show subIn K (.type "type") (.type "type") = _
    show (fastBuiltinMro "type").map _ = _
    kernel_rfl
  unfold makesIn
  rw [e]
  dsimp only
  rw [h1, h2, e4, X.mro.1, X.mro.2]
  simp
end

/-- the class K in the heap -/
structure KAt (h : Heap) (C N2 m f0 f1 : Addr) (qual : Str) (l : List (Str × Value)) : Prop where
  hc : ∃ sl, h.get? C = some ⟨.type "type", none, .cls (kData N2 C qual), sl⟩ ∧ (sl.toList[4]?).join = some (.builtin "object.__new__")
  hn : ∃ es k sl, h.get? N2 = some { cls := .type "dict", data := .dict es k, slots := sl } ∧ EsAre es.toList l
  hm : ∃ tt, h.get? m = some (mdObj C tt)
  h0 : ∃ oc od fd sl, h.get? f0 = some ⟨oc, od, .func fd, sl⟩ ∧ oc = .type "function"
  h1 : ∃ oc od fd sl, h.get? f1 = some ⟨oc, od, .func fd, sl⟩ ∧ oc = .type "function"
  l0 : l.lookup (Str.ofString "__init__") = some (.ref f0)
  l1 : l.lookup (Str.ofString "__lt__") = some (.ref f1)
  lo : l.lookup (Str.ofString "obj") = some (.ref m)
  ls : l.lookup (Str.ofString "__setattr__") = none
  lg : l.lookup (Str.ofString "__getattribute__") = none
  lh : l.lookup (Str.ofString "__getattr__") = none
theorem KAt.stays {h h' : Heap} {C N2 m f0 f1 qual l} (X : KAt h C N2 m f0 f1 qual l) (k : Stay h h') : KAt h' C N2 m f0 f1 qual l := by
  obtain ⟨sl, c1, c2⟩ := X.hc
  obtain ⟨es, kk, sl2, n1, n2⟩ := X.hn
  obtain ⟨tt, m1⟩ := X.hm
  obtain ⟨oc, od, fd, sl3, p1, p2⟩ := X.h0
  obtain ⟨oc', od', fd', sl4, q1, q2⟩ := X.h1
  obtain ⟨sn, en, _⟩ := k _ _ n1
  exact ⟨⟨sl, (k _ _ c1).get (.inl rfl), c2⟩, ⟨es, kk, sn, en, n2⟩, ⟨tt, (k _ _ m1).get (.inl rfl)⟩, ⟨oc, od, fd, sl3, (k _ _ p1).get (.inl rfl), p2⟩, ⟨oc', od', fd', sl4, (k _ _ q1).get (.inl rfl), q2⟩, X.l0, X.l1, X.lo, X.ls, X.lg, X.lh⟩
theorem KAt.frag {h : Heap} {C N2 m f0 f1 qual l} (X : KAt h C N2 m f0 f1 qual l) : ∃ K : Frag, K.In h ∧ KIn K C N2 m f0 f1 qual l := by
  obtain ⟨sl, c1, c2⟩ := X.hc
  obtain ⟨es, kk, sl2, n1, n2⟩ := X.hn
  obtain ⟨tt, m1⟩ := X.hm
  obtain ⟨oc, od, fd, sl3, p1, p2⟩ := X.h0
  obtain ⟨oc', od', fd', sl4, q1, q2⟩ := X.h1
  refine ⟨fragOf h [C, N2, m, f0, f1], fragOf_in ?_, ⟨sl, fragOf_at (by simp) c1, c2⟩, ⟨es, kk, sl2, fragOf_at (by simp) n1, n2⟩, ⟨tt, fragOf_at (by simp) m1⟩, ⟨_, fragOf_at (by simp) p1, p2⟩, ⟨_, fragOf_at (by simp) q1, q2⟩, X.l0, X.l1, X.lo, X.ls, X.lg, X.lh⟩
  intro a ha
  simp only [List.mem_cons, List.not_mem_nil, or_false] at ha
  rcases ha with rfl | rfl | rfl | rfl | rfl
  · exact ⟨_, c1⟩
  · exact ⟨_, n1⟩
  · exact ⟨_, m1⟩
  · exact ⟨_, p1⟩
  · exact ⟨_, q1⟩
end Mine
end
section
open PySem PySem.W PySem.Calls PyProof.Rows Builtin
set_option maxRecDepth 100000
set_option maxHeartbeats 1000000
namespace Mine
variable [Bd]
/-- an object of K that holds v -/
noncomputable def Inst (h : Heap) (C x : Addr) (v : Value) : Prop := ∃ dx od, h.get? x = some { cls := .ref C, dict := some dx, data := .plain, slots := #[some v] } ∧ h.get? dx = some od
theorem Inst.stays {h h' : Heap} {C x v} (I : Inst h C x v) (k : Stay h h') : Inst h' C x v := by
  obtain ⟨dx, od, e1, e2⟩ := I
  obtain ⟨sl, e3, _⟩ := k _ _ e2
  exact ⟨dx, _, (k _ _ e1).get (.inl rfl), e3⟩
theorem Inst.at {h : Heap} {C x v} (I : Inst h C x v) : ∃ dx od, InstAt h x { cls := .ref C, dict := some dx, data := .plain, slots := #[some v] } C (some od) := by
  obtain ⟨dx, od, e1, e2⟩ := I
  exact ⟨dx, od, e1, rfl, rfl, e2⟩
section
variable {w : World} {n : Nat} {h : Heap} {C N2 m f0 f1 x : Addr} {qual : Str} {l : List (Str × Value)} {v : Value} {env : Env}
theorem handed_ref {M : Model} {A : Around} {Q : Value → Shared → Prop} {E : Value → Shared → Prop} {s : Shared} (hv : handedIn v = true) (q : Q v s) : wpAny M A (handedOut v) Q E s := by
  rw [handedOut_of hv]; exact wpAny_pure q
theorem obj_get (X : KAt h C N2 m f0 f1 qual l) (I : Inst h C x v) (hv : handedIn v = true) : Ex w n h (getAttr (.ref x) (Str.ofString "obj") true) (fun u _ => u = v) := fun A s a k => by
  obtain ⟨K, XK, XI⟩ := (X.stays k).frag
  obtain ⟨dx, od, IA⟩ := (I.stays k).at
  refine get_bind XK IA XI.getAt XI.obj XI.hookAt (wpAny_call ?_)
  refine slot_get XK (s := { s with toks := s.toks + 1 }) IA XI.slot (v := v) rfl ?_
  exact handed_ref hv (Then.tok rfl)
theorem ev_obj {y : Str} {yp pos : Pos} {M : List Addr} {d : D} (X : KAt h C N2 m f0 f1 qual l) (hy : Ex w n h (eval (.Name y yp) env) (fun u _ => u = .ref x)) (I : Inst h C x v) (hv : handedIn v = true) (hd : Den M h d v) : Ev w n env M h (.Attribute (.Name y yp) (Str.ofString "obj") pos) d := fun A s a k =>
  Attribute_Name_ (hy.run a k fun u h1 t1 k1 a p1 => by
    subst p1
    exact (obj_get (X.stays (stays_trans k k1)) (I.stays (stays_trans k k1)) hv).run a (stays_refl _) fun u h2 t2 k2 a p2 => by
      subst p2; exact Then.mk (stays_trans k1 k2) (hd.stays (stays_trans k (stays_trans k1 k2))))

/-- a call of a function made at run time, without cells of its own -/
theorem run_fn {A : Around} {s : Shared} {R : Result → Shared → Prop} {f : Addr} {vals : List Value} {binds : List (Str × Value)} {name qual : Str} {params : Arguments} {body : List Stmt} {scope : Scope} {cl : List (Str × Addr)} {dV kV doc pm cdv ct oc : Value} {an od : Option Addr} {osl : Array (Option Value)}
    (a : AOk (n + 1) A s.heap) (ho : s.heap.get? f = some ⟨oc, od, .func (fnX name qual params body scope cl dV kV doc pm an cdv ct), osl⟩) (hcd : s.heap.CodeRec cdv qual) (nl : s.heap.NoLimit) (h142 : Bd.b ≤ s.heap.objs.size)
    (hbind : BindsTo s (fnX name qual params body scope cl dV kV doc pm an cdv ct) ⟨vals, []⟩ binds)
    (hco : scope.isCoroutine = false) (hgen : scope.isGenerator = false) (hk : scope.kind = .function) (hcell : ∀ x ∈ scope.names, x.2 ≠ .cell) (hloc : ∀ y ∈ binds, scope.names.lookup y.1 = some .local)
    (H : ∀ h₁ tk, (∀ b o, s.heap.get? b = some o → h₁.get? b = some o) → h₁.Ns s.heap.objs.size (fun x => binds.reverse.lookup x) → AOk n (A.deeper (envX qual scope s.heap.objs.size f cdv cl)) h₁ →
      wpAny (model Mine.prog w) (A.deeper (envX qual scope s.heap.objs.size f cdv cl)) (execs body (envX qual scope s.heap.objs.size f cdv cl)) (fun fl s' => R (.ok (.ret (match fl with | .ret v => v | _ => .none))) s') (fun _ _ => False) { s with heap := h₁, toks := tk }) :
    codeAny (model Mine.prog w) A (.call (.ref f) ⟨vals, []⟩) R s := by
  refine codeAny_call_function (fd := fnX name qual params body scope cl dV kV doc pm an cdv ct) (by have := a.depth; omega) ho rfl hco hgen rfl hcd (hbind _ _ _ _ ?_)
  refine wpAny_newFunctionEnv hcell hloc (fun h' hn hs => ?_) hk
  have k1 : ∀ b o, s.heap.get? b = some o → h'.get? b = some o := fun b o e => (hs.2 b (Nat.ne_of_lt (Heap.lt_size e))).trans (Heap.get?_push_of_some _ e)
  refine ⟨nl.keeps k1, codeAny_func ?_⟩
  obtain ⟨oL, hoL, hoL2⟩ := ns_nd hn
  have aa := (a.up (.of k1)).deeper (env := envX qual scope s.heap.objs.size f cdv cl) (L := s.heap.objs.size) (by show scope.kind ≠ _; rw [hk]; decide) rfl hoL hoL2 h142
  exact wpAny_mono (H h' _ k1 hn aa) (fun _ _ q => q) fun _ _ q => q.elim
end
end Mine
end
section
open PySem PySem.W PySem.Calls PyProof.Rows Builtin Builtin.ObjectAttr Builtin.Getset_descriptor
set_option maxRecDepth 100000
set_option maxHeartbeats 1000000
namespace Mine
variable [Bd]
section
variable {w : World} {n : Nat} {h : Heap} {K : Frag} {C N2 m f0 f1 x : Addr} {qual : Str} {l : List (Str × Value)} {v : Value} {env : Env} {A : Around} {s : Shared} {R : Result → Shared → Prop}
theorem slot_put {dx : Addr} {od : Obj} {p : Addr} (X : K.In s.heap) (I : InstAt s.heap x (instObj C dx) C (some od)) (hp : slotIn K p C = some 0)
    (H : ∀ h', h'.get? x = some { instObj C dx with slots := #[some v] } → Heap.SameBut x s.heap h' → R (.ok (.ret .none)) { s with heap := h' }) :
    codeAny (model Mine.prog w) A (.call (.builtin "member_descriptor.__set__") ⟨[.ref p, .ref x, v], []⟩) R s := by
  obtain ⟨nm, tn, owner, behind, tb, d, sl, cd, ho, hc, hm, hb, e0⟩ := slot_of X hp
  obtain ⟨hh, g, dr, t, os⟩ := s
  have L0 := I.type (M := model Mine.prog w)
  have L1 := looks_mroIn (M := model Mine.prog w) X hm
  have L2 : Looks (model Mine.prog w) hh (Slots.slotNamesOf (.ref C)) cd.slotNames := (looks_clsIn X hc).andThen .now
  have hx := I.at_
  dsimp only at ho hx L0 L1
  have f0 := looks_field (M := model Mine.prog w) ho 0 (v := .str nm tn) rfl
  have f1 := looks_field (M := model Mine.prog w) ho 1 (v := owner) rfl
  have f3 := looks_field (M := model Mine.prog w) ho 3 (v := .builtin "proto.slot#set") rfl
  have f4 := looks_field (M := model Mine.prog w) ho 4 (v := .int behind tb) rfl
  refine codeAny_call_builtin KF.slot_mset.plain KF.entry_mset (KF.slot_mset.check _ _ _ _ _ _ _ _ ⟨_, ho, rfl⟩ (KF.args_mset _ _ _) ?_)
  unfold Builtin.«member_descriptor.__set__» descrSet descrStoreThrough descrCheckInstance descrNameAndClass isInstance
  have f5 : Looks (model Mine.prog w) hh (descrItself (.ref p)) [.ref p] := ((Looks.ld (part := none) ho).andThen .now).andThen (Looks.of_pure (by kernel_rfl))
  repeat lk
  refine ⟨Code.quiet_builtin _ (by decide +kernel), codeAny_builtin KF.entry_slotset ?_⟩
  unfold Builtin.«proto.slot#set» Slots.target
  repeat lk
  rw [if_neg hb]
  refine wpAny_pure (wpAny_bind ?_)
  unfold setSlotAt
  dsimp only
  rw [← e0, if_neg (by rw [sizeLine_eq]; omega)]
  refine wpAny_updatePart hx (wpAny_pure (H _ ?_ (Heap.SameBut.update ..)))
  rw [Heap.get?_update_self _ hx (by rfl)]
  rfl
theorem set_obj {E : Value → Shared → Prop} {dx : Addr} {od : Obj} {Q : Unit → Shared → Prop} (X : K.In s.heap) (XI : KIn K C N2 m f0 f1 qual l) (I : InstAt s.heap x (instObj C dx) C (some od))
    (H : ∀ h' tk, h'.get? x = some { instObj C dx with slots := #[some v] } → Heap.SameBut x s.heap h' → Q () { s with heap := h', toks := tk }) : wpAny (model Mine.prog w) A (setAttr (.ref x) (Str.ofString "obj") v) Q E s := by
  refine set_plain X I XI.setAt ?_
  refine osa_descr (s := { s with toks := s.toks + 1 }) KF.slot_mset X I XI.plain XI.taker XI.mdType ?_
  exact slot_put (s := { s with toks := s.toks + 1 }) X I XI.slot fun h' e k => H h' _ e k

/-- __init__ puts its argument into the slot -/
noncomputable def InitOk (w : World) (h : Heap) (C f0 : Addr) : Prop := ∀ {n : Nat} {A : Around} {s : Shared} {R : Result → Shared → Prop} {x dx : Addr} {v : Value} {od : Obj}, AOk (n + 2) A s.heap → Stay h s.heap → s.heap.get? x = some (instObj C dx) → s.heap.get? dx = some od →
  (∀ h' tk, h'.get? x = some { instObj C dx with slots := #[some v] } → (∀ b o, b ≠ x → s.heap.get? b = some o → h'.get? b = some o) → R (.ok (.ret .none)) { s with heap := h', toks := tk }) →
  codeAny (model Mine.prog w) A (.call (.ref f0) ⟨[.ref x, v], []⟩) R s
theorem InitOk.stays {h h' : Heap} (X : InitOk w h C f0) (k : Stay h h') : InitOk w h' C f0 := fun a k' e1 e2 H => X a (stays_trans k k') e1 e2 H

theorem init_ok {name fq : Str} {params : Arguments} {body : List Stmt} {scope : Scope} {cl : List (Str × Addr)} {dV kV doc pm cdv ct oc : Value} {an od : Option Addr} {osl : Array (Option Value)} {p1 p2 p3 p4 : Pos} {sn on : Str}
    (X : KAt h C N2 m f0 f1 qual l) (ho : h.get? f0 = some ⟨oc, od, .func (fnX name fq params body scope cl dV kV doc pm an cdv ct), osl⟩) (hcd : h.CodeRec cdv fq) (XT : TR w h)
    (hbody : body = [.Assign [.Attribute (.Name sn p1) (Str.ofString "obj") p2] (.Name on p3) p4])
    (hbind : ∀ s x v, BindsTo s (fnX name fq params body scope cl dV kV doc pm an cdv ct) ⟨[.ref x, v], []⟩ [(sn, .ref x), (on, v)]) (hne : (sn == on) = false)
    (hco : scope.isCoroutine = false) (hgen : scope.isGenerator = false) (hk : scope.kind = .function) (hcell : ∀ x ∈ scope.names, x.2 ≠ .cell) (hs : scope.names.lookup sn = some .local) (hov : scope.names.lookup on = some .local)
    (hd1 : (sn == ("__debug__" : Str)) = false) (hd2 : (on == ("__debug__" : Str)) = false) (hsw : ∀ env, swapsWith (.Name on p3) (some (.Attribute (.Name sn p1) (Str.ofString "obj") p2)) p4.line env = pure false) : InitOk w h C f0 := by
  intro n A s R x dx v od a k e1 e2 H
  have XT' := XT.stays k
  obtain ⟨KT, mg, mb, T⟩ := XT'
  have hsz : Bd.b ≤ s.heap.objs.size := a.big
  obtain ⟨K, XK, XI⟩ := (X.stays k).frag
  have ho' := (k _ _ ho).get (.inl rfl)
  refine run_fn (n := n + 1) a ho' ?_ T.nolimit hsz (hbind s x v) hco hgen hk hcell ?_ fun h₁ tk k1 hns a1 => ?_
  · obtain ⟨c, o, vs, t, c1, c2, c3, c4⟩ := hcd
    exact ⟨c, o, vs, t, c1, (k _ _ c2).get (.inl (by unfold nd; rw [c3])), c3, c4⟩
  · intro y hy
    simp only [List.mem_cons, List.not_mem_nil, or_false] at hy
    rcases hy with rfl | rfl
    · exact hs
    · exact hov
  subst hbody
  have hxL : x ≠ s.heap.objs.size := Nat.ne_of_lt (Heap.lt_size e1)
  refine wpAny_execs_cons (plainObj_wpAny_Assign_Attribute ?_ (hsw _))
  refine wpAny_Name (wpAny_loadName_local (show (envX fq scope s.heap.objs.size f0 cdv cl).scope.kind = .function from hk) hov hns (v := v) ?_ ?_) hd2
  · show (([(on, v)] ++ [(sn, Value.ref x)]).lookup on) = _
    simp
  refine wpAny_Name (wpAny_loadName_local (show (envX fq scope s.heap.objs.size f0 cdv cl).scope.kind = .function from hk) hs hns (v := .ref x) ?_ ?_) hd1
  · show (([(on, v)] ++ [(sn, Value.ref x)]).lookup sn) = _
    simp [List.lookup_cons, hne]
  refine set_obj (s := { s with heap := h₁, toks := tk }) (XK.keeps k1) XI ⟨k1 _ _ e1, rfl, rfl, k1 _ _ e2⟩ fun h' tk' e3 k3 => ?_
  exact wpAny_execs_nil (H h' tk' e3 fun b o nb e => (k3.2 b nb).trans (k1 b o e))
end
end Mine
end
section
open PySem PySem.W PySem.Calls PyProof.Rows Builtin Builtin.ObjectAttr Builtin.Getset_descriptor
set_option maxRecDepth 100000
set_option maxHeartbeats 1000000
namespace Mine
variable [Bd]
section
variable {w : World} {n : Nat} {h : Heap} {K : Frag} {C N2 m f0 f1 x : Addr} {qual : Str} {l : List (Str × Value)} {v : Value} {env : Env} {A : Around} {s : Shared} {R : Result → Shared → Prop}
theorem AOk.underNew {rest : List Value} {kw : List (Str × Value)} {h : Heap} (a : AOk (n + 1) A h) : AOk n (A.under (.builtin "type.__call__" ⟨.ref C :: rest, kw⟩)) h := by
  have w1 : (Code.builtin "type.__call__" ⟨.ref C :: rest, kw⟩).weight = 1 := by kernel_rfl
  have u1 : (Code.builtin "type.__call__" ⟨.ref C :: rest, kw⟩).cUnits = 1 := by kernel_rfl
  have v1 : (Code.builtin "type.__call__" ⟨.ref C :: rest, kw⟩).envs = [] := by kernel_rfl
  refine ⟨?_, ?_, a.handled, ?_, ?_⟩
  · have := a.depth; show A.depth + _ + n < _; rw [w1]; omega
  · have := a.units; show A.units + _ + 10 * n < _; rw [u1]; omega
  · obtain ⟨l, e, f⟩ := a.frames
    refine ⟨l, ?_, f⟩
    unfold Around.under
    dsimp only
    rw [v1]; exact e
  · unfold Around.under
    dsimp only
    rw [v1]; exact a.ne
theorem ex_make (X : KAt h C N2 m f0 f1 qual l) (IO : InitOk w h C f0) : Ex w (n + 3) h (PySem.call (.ref C) [v] []) (fun u h' => ∃ x, u = .ref x ∧ Inst h' C x v) := fun A s a k => by
  obtain ⟨K, XK, XI⟩ := (X.stays k).frag
  obtain ⟨hh, g, d, t, os⟩ := s
  refine wpAny_call (make_core (rest := [v]) (kw := []) (makes_of XK XI.makes) (looks_findIn XK XI.initAt) (fun self => bind_fn XK self XI.fn0) (.inl rfl) ?_)
  have up2 : ∀ b o, hh.get? b = some o → ((hh.push emptyDict).push (instObj C hh.objs.size)).get? b = some o := fun b o e => Heap.get?_push_of_some _ (Heap.get?_push_of_some _ e)
  have kk : Stay hh ((hh.push emptyDict).push (instObj C hh.objs.size)) := .of up2
  have e1 : ((hh.push emptyDict).push (instObj C hh.objs.size)).get? (hh.objs.size + 1) = some (instObj C hh.objs.size) := by heap_get
  have e2 : ((hh.push emptyDict).push (instObj C hh.objs.size)).get? hh.objs.size = some emptyDict := by heap_get
  have no1 : hh.get? (hh.objs.size + 1) = none := none_of_le (Nat.le_succ _)
  refine IO (n := n) (s := ⟨(hh.push emptyDict).push (instObj C hh.objs.size), g, d, t, os⟩) (dx := hh.objs.size) (AOk.underNew (n := n + 2) (a.up kk)) (stays_trans k kk) e1 e2 fun h' tk e3 k3 => ?_
  refine ⟨rfl, h', tk, rfl, .of fun b o e => k3 b o (ne_of_get e no1) (up2 b o e), _, rfl, hh.objs.size, emptyDict, e3, k3 _ _ (Nat.ne_of_lt (Nat.lt_succ_self _)) e2⟩

/-- a function object of the heap as a keeper -/
theorem keep_fn {M : Model} {h : Heap} {f : Addr} (e : ∃ oc od fd sl, h.get? f = some ⟨oc, od, .func fd, sl⟩) : ∃ k, (k = Keeper.frame ∨ k = Keeper.machine ∨ k = Keeper.boundFrame) ∧ Looks M h (keeperOf (.ref f)) k := by
  obtain ⟨oc, od, fd, sl, e⟩ := e
  exact ⟨.frame, .inl rfl, (Looks.ld (part := none) e).andThen .now⟩
theorem ex_callF {P : Value → Heap → Prop} {M : List Addr} {p' pos : Pos} {x : Str} {f : Value} {e : Expr} {rest : List Expr} {ds : List D} (hf : Ex w n h (eval (.Name x p') env) (fun u _ => u = f))
    (hk : ∀ h', Stay h h' → ∃ k, (k = Keeper.frame ∨ k = Keeper.machine ∨ k = Keeper.boundFrame) ∧ Looks (model Mine.prog w) h' (keeperOf f) k) (hargs : ExL w n env M h pos (e :: rest) ds)
    (hc : ∀ h' vs, Stay h h' → Dens M h' ds vs → Ex w n h' (PySem.call f vs []) P) (he : starEach (e :: rest) env = (false, eval e env) :: starEach rest env := by rfl)
    (hplain : (backTo pos (starEach rest env)).any (·.1) = false := by rfl) : Ex w n h (eval (.Call (.Name x p') (e :: rest) [] pos) env) P := fun A s a k =>
  Call_Name rfl (hf.run a k fun u h1 t1 k1 a p1 => by
    subst p1
    have hargs' := hargs.up (stays_trans k k1)
    unfold ExL at hargs'
    rw [he] at hargs' ⊢
    refine callWith_of (first := []) (P := fun h' => Stay h h') (by show ((false || (backTo pos (starEach rest env)).any (·.1)) || false) = false; rw [hplain]; rfl) hk (evalArgs_plain ?_)
    exact hargs'.run a (stays_refl _) fun vs h2 t2 k2 a p2 => ⟨stays_trans k (stays_trans k1 k2), (hc h2 vs (stays_trans k (stays_trans k1 k2)) p2).run a (stays_refl _) fun v h3 t3 k3 a p3 => Then.mk (stays_trans k1 (stays_trans k2 k3)) p3⟩)

/-- K.__lt__ asks mycmp -/
noncomputable def LtOk (w : World) (h : Heap) (C f1 : Addr) (cmp : Value) : Prop := ∀ {n : Nat} {h' : Heap} {x y a b : Addr} {i : Int}, Stay h h' → Inst h' C x (.ref a) → Inst h' C y (.ref b) →
  Ex w n h' (PySem.call cmp [.ref a, .ref b] []) (fun r _ => ∃ t, r = .int i t) → Ex w (n + 1) h' (PySem.call (.ref f1) [.ref x, .ref y] []) (fun r _ => r = .bool (decide (i < 0)))
theorem LtOk.stays {h h' : Heap} {cmp : Value} (X : LtOk w h C f1 cmp) (k : Stay h h') : LtOk w h' C f1 cmp := fun k' e1 e2 H => X (stays_trans k k') e1 e2 H

theorem lt_ok {name fq : Str} {params : Arguments} {body : List Stmt} {scope : Scope} {cl : List (Str × Addr)} {dV kV doc pm cdv ct oc : Value} {an od : Option Addr} {osl : Array (Option Value)} {p1 p2 p3 p4 p5 p6 p7 p8 p9 p10 : Pos} {sn on mn : Str} {kk : Nat} {lam cc : Addr}
    (X : KAt h C N2 m f0 f1 qual l) (ho : h.get? f1 = some ⟨oc, od, .func (fnX name fq params body scope cl dV kV doc pm an cdv ct), osl⟩) (hcd : h.CodeRec cdv fq) (XT : TR w h)
    (hbody : body = [.Return (some (.Compare (.Call (.Name mn p1) [.Attribute (.Name sn p2) (Str.ofString "obj") p3, .Attribute (.Name on p4) (Str.ofString "obj") p5] [] p6) [.Lt] [.Constant (.int 0) kk p7] p8)) p9])
    (hbind : ∀ s x v, BindsTo s (fnX name fq params body scope cl dV kV doc pm an cdv ct) ⟨[.ref x, .ref v], []⟩ [(sn, .ref x), (on, .ref v)]) (hne : (sn == on) = false) (hne1 : (mn == on) = false) (hne2 : (mn == sn) = false)
    (hco : scope.isCoroutine = false) (hgen : scope.isGenerator = false) (hk : scope.kind = .function) (hcell : ∀ x ∈ scope.names, x.2 ≠ .cell) (hs : scope.names.lookup sn = some .local) (hov : scope.names.lookup on = some .local) (hmn : scope.names.lookup mn = some .free)
    (hd1 : (sn == ("__debug__" : Str)) = false) (hd2 : (on == ("__debug__" : Str)) = false) (hd3 : (mn == ("__debug__" : Str)) = false) (hd4 : (mn == ("__classdict__" : Str)) = false)
    (hcl : cl.lookup mn = some cc) (hcc : h.IsCell cc (some (.ref lam))) (hlam : ∃ oc od fd sl, h.get? lam = some ⟨oc, od, .func fd, sl⟩) : LtOk w h C f1 (.ref lam) := by
  intro n h' x y a b i k0 I J H
  intro A s ao k
  have k := stays_trans k0 k
  have XT' := XT.stays k
  obtain ⟨KT, mg, mb, T⟩ := XT'
  have hsz : Bd.b ≤ s.heap.objs.size := ao.big
  have ho' := (k _ _ ho).get (.inl rfl)
  refine wpAny_call (run_fn (n := n) ao ho' ?_ T.nolimit hsz (hbind s x y) hco hgen hk hcell ?_ fun h₁ tk k1 hns a1 => ?_)
  · obtain ⟨c, o, vs, t, c1, c2, c3, c4⟩ := hcd
    exact ⟨c, o, vs, t, c1, (k _ _ c2).get (.inl (by unfold nd; rw [c3])), c3, c4⟩
  · intro y hy
    simp only [List.mem_cons, List.not_mem_nil, or_false] at hy
    rcases hy with rfl | rfl
    · exact hs
    · exact hov
  subst hbody
  have ks : Stay h h₁ := stays_trans k (.of k1)
  have kh : Stay h' h₁ := stays_trans ‹Stay h' s.heap› (.of k1)
  have F : FD (envX fq scope s.heap.objs.size f1 cdv cl) [] h₁ [(sn, .ref x), (on, .ref y), (mn, .ref lam)] := by
    refine ⟨MOk.nil, hk, fun z e hz => ?_⟩
    rw [List.lookup_cons] at hz
    by_cases q : (z == sn) = true
    · have := beq_iff_eq.mp q; subst this; rw [q] at hz; cases hz
      refine ⟨.ref x, ?_, Den.ref'⟩
      have : (envX fq scope s.heap.objs.size f1 cdv cl).kindOf z = some .local := hs
      simp only [VarAt, this]
      refine ⟨_, hns, ?_⟩
      show (([(on, Value.ref y)] ++ [(z, Value.ref x)]).lookup z) = _
      simp [List.lookup_cons, hne]
    · simp only [Bool.not_eq_true] at q; rw [q, List.lookup_cons] at hz
      by_cases q2 : (z == on) = true
      · have := beq_iff_eq.mp q2; subst this; rw [q2] at hz; cases hz
        refine ⟨.ref y, ?_, Den.ref'⟩
        have : (envX fq scope s.heap.objs.size f1 cdv cl).kindOf z = some .local := hov
        simp only [VarAt, this]
        refine ⟨_, hns, ?_⟩
        show (([(z, Value.ref y)] ++ [(sn, Value.ref x)]).lookup z) = _
        simp [List.lookup_cons]
      · simp only [Bool.not_eq_true] at q2; rw [q2, List.lookup_cons] at hz
        by_cases q3 : (z == mn) = true
        · have := beq_iff_eq.mp q3; subst this; rw [q3] at hz; cases hz
          refine ⟨.ref lam, ?_, Den.ref'⟩
          have : (envX fq scope s.heap.objs.size f1 cdv cl).kindOf z = some .free := hmn
          simp only [VarAt, this]
          exact ⟨cc, hcl, cell_same hcc (ks _)⟩
        · simp only [Bool.not_eq_true] at q3; rw [q3] at hz; cases hz
  have nameS : Ex w n h₁ (eval (.Name sn p2) (envX fq scope s.heap.objs.size f1 cdv cl)) (fun u _ => u = .ref x) := (ev_local (M := []) (d := .ref x) F (by simp) hs hd1).post fun _ _ _ p => by simpa only [Den] using p
  have nameO : Ex w n h₁ (eval (.Name on p4) (envX fq scope s.heap.objs.size f1 cdv cl)) (fun u _ => u = .ref y) := (ev_local (M := []) (d := .ref y) F (by rw [List.lookup_cons, beq_eq_false_iff_ne.mpr (Ne.symm (beq_eq_false_iff_ne.mp hne))]; simp) hov hd2).post fun _ _ _ p => by simpa only [Den] using p
  have nameM : Ex w n h₁ (eval (.Name mn p1) (envX fq scope s.heap.objs.size f1 cdv cl)) (fun u _ => u = .ref lam) := (ev_free (M := []) (d := .ref lam) F (by rw [List.lookup_cons, hne2, List.lookup_cons, hne1]; simp) hmn hd3 hd4).post fun _ _ _ p => by simpa only [Den] using p
  have X1 := X.stays ks
  have I1 := I.stays kh
  have J1 := J.stays kh
  have args : ExL w n (envX fq scope s.heap.objs.size f1 cdv cl) [] h₁ p6 [.Attribute (.Name sn p2) (Str.ofString "obj") p3, .Attribute (.Name on p4) (Str.ofString "obj") p5] [.ref a, .ref b] :=
    exl_cons (ev_obj X1 nameS I1 rfl Den.ref') (exl_cons (ev_obj X1 nameO J1 rfl Den.ref') exl_nil)
  have call1 : Ev w n (envX fq scope s.heap.objs.size f1 cdv cl) [] h₁ (.Call (.Name mn p1) [.Attribute (.Name sn p2) (Str.ofString "obj") p3, .Attribute (.Name on p4) (Str.ofString "obj") p5] [] p6) (.int i) := by
    refine ex_callF nameM (fun h2 k2 => keep_fn ?_) args fun h2 vs k2 dv => ?_
    · obtain ⟨oc, od, fd, sl, e⟩ := hlam
      exact ⟨oc, od, fd, sl, (stays_trans ks k2 _ _ e).get (.inl rfl)⟩
    · simp only [Dens, Den] at dv
      obtain ⟨_, _, rfl, rfl, _, _, rfl, rfl, rfl⟩ := dv
      exact (H.up (stays_trans kh k2)).post fun r _ _ q => by simpa only [Den] using q
  have cmp := ev_cmp (pos := p8) call1 (ev_int (i := 0) (k := kk) (pos := p7)) (cp_lt (n := n) (M := []))
  refine wpAny_execs_cons (wpAny_Return_some (cmp.run a1 (stays_refl _) fun r h2 t2 k2 a2 q => ?_))
  simp only [Den] at q; subst q
  exact Then.mk (stays_trans (.of k1) k2) rfl
end
end Mine
end
section
open PySem PySem.W PySem.Calls PyProof.Rows Builtin Builtin.ObjectAttr Builtin.Getset_descriptor
set_option maxRecDepth 100000
set_option maxHeartbeats 1000000
namespace Mine
variable [Bd]
/-- the sort's plan under known answers; none where it asks outside -/
noncomputable def runB {α : Type} (n : Nat) (f : Nat → Nat → Bool) : KasT α → Option α
  | .ret a => some a
  | .ask i j k => if i < n ∧ j < n then runB n f (k (f i j)) else none
theorem kasWp_run {α : Type} {n : Nat} {f : Nat → Nat → Bool} {cmp : Nat → Nat → (Bool → Shared → Prop) → Shared → Prop} {I : Shared → Prop} {Q : α → Shared → Prop} {a : α}
    (hcmp : ∀ i j s (C : Bool → Shared → Prop), i < n → j < n → I s → (∀ s', I s' → C (f i j) s') → cmp i j C s) (hQ : ∀ s, I s → Q a s) : ∀ (t : KasT α) (s : Shared), runB n f t = some a → I s → t.kasWp cmp Q s
  | .ret b, s, e, i => by
    have : b = a := Option.some.inj e
    subst this; exact hQ s i
  | .ask i j k, s, e, hi => by
    unfold runB at e
    by_cases q : i < n ∧ j < n
    · rw [if_pos q] at e
      exact hcmp i j s _ q.1 q.2 hi fun s' hi' => kasWp_run hcmp hQ (k (f i j)) s' e hi'
    · rw [if_neg q] at e; cases e
section
variable {w : World} {n : Nat} {h : Heap} {C N2 m f0 f1 x y a b lam : Addr} {qual : Str} {l : List (Str × Value)} {i : Int}
theorem key_lt (X : KAt h C N2 m f0 f1 qual l) (LO : LtOk w h C f1 (.ref lam)) (I : Inst h C x (.ref a)) (J : Inst h C y (.ref b)) (H : Ex w n h (PySem.call (.ref lam) [.ref a, .ref b] []) (fun r _ => ∃ t, r = .int i t)) :
    Ex w (n + 1) h (keyLt' oneType' (.ref x) (.ref y)) (fun r _ => r = decide (i < 0)) := fun A s ao k => by
  obtain ⟨K, XK, XI⟩ := (X.stays k).frag
  obtain ⟨dx, od, IA⟩ := (I.stays k).at
  rw [keyLt'_oneType, oneLt'_eq]
  simp only [if_true]
  refine wpAny_bind (wpAny_cRoomFor (by have := ao.units; omega) ?_)
  refine wpAny_bind (ifBound_K XK IA XI.ltAt XI.isFn1 ?_)
  refine (LO (stays_refl _) I J H).run ao k fun r h1 t1 k1 a1 q => ?_
  subst q
  exact wpAny_truthy_bool (Then.mk k1 rfl)
end
end Mine
end
section
open PySem PySem.W PySem.Calls PyProof.Rows Builtin Builtin.ObjectAttr Builtin.Getset_descriptor
set_option maxRecDepth 100000
set_option maxHeartbeats 1000000
namespace Mine
variable [Bd]
theorem getD_in {α : Type} {xs : Array α} {i : Nat} {d : α} (h : i < xs.size) : xs.getD i d = xs[i] := by simp [Array.getD, h]
theorem getD_out {α : Type} {xs : Array α} {i : Nat} {d : α} (h : ¬ i < xs.size) : xs.getD i d = d := by simp [Array.getD, h]
theorem stay_same {h H H' : Heap} {a : Addr} (k : Stay h H) (n : h.get? a = none) (s : Heap.SameBut a H H') : Stay h H' := fun b o e => (k b o e).trans fun o' e' => .of ((s.2 b (ne_of_get e n)).trans e')
theorem Inst.same {H H' : Heap} {C x a : Addr} {v : Value} {xs : Array Value} {n : Nat} {o' : Obj} (I : Inst H C x v) (s : Heap.SameBut a H H') (e : H.get? a = some (seqObj "list" xs n)) (e' : H'.get? a = some o') : Inst H' C x v := by
  obtain ⟨dx, od, e1, e2⟩ := I
  have hxa : x ≠ a := fun q => by rw [q, e] at e1; cases e1
  by_cases q : dx = a
  · exact ⟨dx, o', (s.2 x hxa).trans e1, q ▸ e'⟩
  · exact ⟨dx, od, (s.2 x hxa).trans e1, (s.2 dx q).trans e2⟩
theorem AOk.listUpd {n : Nat} {A : Around} {H H' : Heap} {a : Addr} {xs : Array Value} {k : Nat} (x : AOk n A H) (s : Heap.SameBut a H H') (e : H.get? a = some (seqObj "list" xs k)) : AOk n A H' :=
  x.change s fun o e1 e2 => by rw [e] at e1; cases e1; cases e2
section
variable {w : World} {n : Nat} {h : Heap} {C N2 m f0 f1 lam a kS : Addr} {qual : Str} {l : List (Str × Value)} {vs : List Value} {ltf : Nat → Nat → Bool} {p : Array Nat} {A : Around} {E : Value → Shared → Prop} {s : Shared} {P : PySem.Fin → Shared → Prop}
/-- what the keys are -/
noncomputable def KeysAt (H : Heap) (C : Addr) (vs : List Value) (keys : Array Value) (i : Nat) : Prop := keys.size = i ∧ ∀ j v, j < i → vs[j]? = some v → ∃ x, keys[j]? = some (.ref x) ∧ Inst H C x v
theorem KeysAt.stays {H H' : Heap} {keys i} (K : KeysAt H C vs keys i) (k : Stay H H') : KeysAt H' C vs keys i := ⟨K.1, fun j v hj hv => let ⟨x, e, I⟩ := K.2 j v hj hv; ⟨x, e, I.stays k⟩⟩
theorem KeysAt.same {H H' : Heap} {keys i} {a : Addr} {xs : Array Value} {n : Nat} {o' : Obj} (K : KeysAt H C vs keys i) (s : Heap.SameBut a H H') (e : H.get? a = some (seqObj "list" xs n)) (e' : H'.get? a = some o') : KeysAt H' C vs keys i :=
  ⟨K.1, fun j v hj hv => let ⟨x, e1, I⟩ := K.2 j v hj hv; ⟨x, e1, I.same s e e'⟩⟩

theorem sk_end {keys : Array Value} {e e1 : Nat} (ao : AOk (n + 2) A s.heap) (k : Stay h s.heap) (X : KAt h C N2 m f0 f1 qual l) (LO : LtOk w h C f1 (.ref lam)) (h2 : 2 ≤ vs.length) (h64 : vs.length < 64)
    (nk : h.get? kS = none) (na : h.get? a = none) (hka : kS ≠ a) (ek : s.heap.get? kS = some (seqObj "list" keys e)) (ea : s.heap.get? a = some (seqObj "list" #[] e1)) (KA : KeysAt s.heap C vs keys vs.length)
    (hr : ∀ v ∈ vs, ∃ b, v = .ref b)
    (hcmp : ∀ i j u v, vs[i]? = some u → vs[j]? = some v → ∃ k : Int, ltf i j = decide (k < 0) ∧ Ex w n h (PySem.call (.ref lam) [u, v] []) (fun r _ => ∃ t, r = .int k t))
    (hrun : runB vs.length ltf (kas_sort vs.length) = some p)
    (H : ∀ h' tk, Stay h h' → AOk (n + 2) A h' → h'.PlainList a (p.toList.map fun i => vs.getD i Value.none).toArray → P (.done (.ret .none)) { s with heap := h', toks := tk }) :
    wpAny (model Mine.prog w) A (ksk_end a false vs.toArray e1 (.ref kS) keys) P E s := by
  have hks : keys.size = vs.length := KA.1
  have hT : ∀ v ∈ keys.toList, Looks (model Mine.prog w) s.heap (typeOf v) (.ref C) := by
    intro v hv
    obtain ⟨i, hi, rfl⟩ := List.getElem_of_mem hv
    have hi' : i < vs.length := by rw [Array.length_toList] at hi; omega
    obtain ⟨x, e2, I⟩ := KA.2 i vs[i] hi' (by simp [hi'])
    obtain ⟨dx, od, IA⟩ := I.at
    have : keys.toList[i] = .ref x := by
      rw [Array.getElem?_eq_getElem (by omega)] at e2
      simpa using e2
    rw [this]
    exact IA.type
  unfold ksk_end
  dsimp only
  refine KFB.if_not rfl ?_
  have hn2 : ¬ vs.toArray.size < 2 := by rw [List.size_toArray]; omega
  rw [if_neg hn2, if_neg hn2]
  have hkeys : keys = keys.toList.toArray := by simp
  refine wpAny_bind ?_
  rw [hkeys]
  refine kas_kind (vs := keys.toList) (T := .ref C) (by rw [Array.length_toList]; omega) hT rfl (refEq C) ?_
  rw [← hkeys]
  have hzs : (keys.zip vs.toArray).size = vs.length := by rw [Array.size_zip, hks, List.size_toArray, Nat.min_self]
  have est : SortSt.mk' oneType' (keys.zip vs.toArray) #[] 7 none = kas_st oneType' (keys.zip vs.toArray) (List.toArray (List.range vs.length)) := by
    have e := kas_range (keys.zip vs.toArray)
    rw [hzs] at e
    show SortSt.mk' oneType' (keys.zip vs.toArray) #[] 7 none = SortSt.mk' oneType' ((List.toArray (List.range vs.length)).map (kas_item (keys.zip vs.toArray))) #[] 7 none
    rw [e]
  have item : ∀ i, i < vs.length → ∃ x b, kas_item (keys.zip vs.toArray) i = (.ref x, .ref b) ∧ vs[i]? = some (.ref b) ∧ Inst s.heap C x (.ref b) := by
    intro i hi
    have hv : vs[i]? = some vs[i] := by simp [hi]
    obtain ⟨x, e2, I⟩ := KA.2 i vs[i] hi hv
    obtain ⟨b, hb⟩ := hr _ (List.getElem_mem hi)
    rw [hb] at I hv
    refine ⟨x, b, ?_, hv, I⟩
    have hz : i < (keys.zip vs.toArray).size := by omega
    unfold kas_item
    have e3 : (keys.zip vs.toArray).getD i (Value.none, Value.none) = (keys.zip vs.toArray)[i] := getD_in hz
    rw [e3, Array.getElem_zip]
    rw [Array.getElem?_eq_getElem (by omega)] at e2
    simp only [Option.some.injEq] at e2
    rw [e2]
    have : vs.toArray[i]'(by rw [List.size_toArray]; omega) = vs[i] := by simp
    rw [this, hb]
  have run := kas_runs (prog := Mine.prog) (w := w) (A := A) (E := E) (κ := oneType') (it := keys.zip vs.toArray) (s := s) (Q := fun _ st' s' => arrOf st' = p.map (kas_item (keys.zip vs.toArray)) ∧ p.size = vs.length ∧ failedOf st' = none ∧ (∃ h' tk, s' = { s with heap := h', toks := tk } ∧ Stay s.heap h' ∧ AOk (n + 2) A h'))
    (G := fun p' s' => p' = p ∧ (∃ h' tk, s' = { s with heap := h', toks := tk } ∧ Stay s.heap h' ∧ AOk (n + 2) A h'))
    h2 h64 (fun p' st' s' a1 a2 a3 a4 => by obtain ⟨rfl, q⟩ := a4; exact ⟨a2, a1, a3, q⟩)
    (kasWp_run (n := vs.length) (f := ltf) (I := fun s' => ∃ h' tk, s' = { s with heap := h', toks := tk } ∧ Stay s.heap h' ∧ AOk (n + 2) A h') (a := p)
      (fun i j s' Cc hi hj hI hC => by
        obtain ⟨h', tk, rfl, k', a'⟩ := hI
        obtain ⟨x, b, e1, v1, I1⟩ := item i hi
        obtain ⟨y, b', e2, v2, I2⟩ := item j hj
        obtain ⟨kk, ek, Hc⟩ := hcmp i j _ _ v1 v2
        unfold kas_cmp
        rw [e1, e2]
        refine (key_lt (X.stays (stays_trans k k')) (LO.stays (stays_trans k k')) (I1.stays k') (I2.stays k') (Hc.up (stays_trans k k'))).run (n := n + 1) (a'.le (Nat.le_succ _)) (stays_refl _) fun r h1 t1 k1 a1 q => ?_
        subst q
        rw [← ek]
        exact hC _ ⟨h1, t1, rfl, stays_trans k' k1, a'.up k1⟩)
      (fun s' hI => ⟨rfl, hI⟩) _ s hrun ⟨s.heap, s.toks, rfl, stays_refl _, ao⟩)
  rw [← est] at run
  refine wpAny_bind (wpAny_mono run ?_ fun _ _ e => e)
  rintro ⟨⟨⟩, st'⟩ s' ⟨har, hp, hf, h', tk, rfl, k', a'⟩
  dsimp only
  have nk2 := (k' _ _ ek).get (.inl rfl)
  have na2 := (k' _ _ ea).get (.inl rfl)
  have s1 := Heap.SameBut.update h' kS (Obj.mapSeq fun _ => (#[] : Array Value))
  have na1 : (h'.update kS (Obj.mapSeq fun _ => (#[] : Array Value))).get? a = some (seqObj "list" #[] e1) := (s1.2 a hka.symm).trans na2
  have hout : (arrOf st').map (·.2) = List.toArray (p.toList.map fun i => vs.getD i Value.none) := by
    apply Array.toList_inj.mp
    rw [har, Array.map_map, Array.toList_map]
    refine List.map_congr_left fun i _ => ?_
    show (kas_item (keys.zip vs.toArray) i).2 = _
    by_cases hi : i < vs.length
    · obtain ⟨x, b, e1, v1, I1⟩ := item i hi
      rw [e1]
      simp [List.getD, v1]
    · have hz : ¬ i < (keys.zip vs.toArray).size := by omega
      have e3 : vs.getD i Value.none = Value.none := by simp [Nat.le_of_not_lt hi]
      have e4 : (keys.zip vs.toArray).getD i (Value.none, Value.none) = (Value.none, Value.none) := getD_out hz
      unfold kas_item
      rw [e4, e3]
  have hsz : (List.toArray (p.toList.map fun i => vs.getD i Value.none)).size = vs.length := by rw [List.size_toArray, List.length_map, Array.length_toList, hp]
  obtain ⟨c2, hc2⟩ : ∃ c2, ((h'.update kS (Obj.mapSeq fun _ => (#[] : Array Value))).update a (Obj.mapSeq fun _ => List.toArray (p.toList.map fun i => vs.getD i Value.none))).get? a = some (seqObj "list" (List.toArray (p.toList.map fun i => vs.getD i Value.none)) c2) :=
    ⟨_, get?_update_seq na1 fun _ => List.toArray (p.toList.map fun i => vs.getD i Value.none)⟩
  have s2 := Heap.SameBut.update (h'.update kS (Obj.mapSeq fun _ => (#[] : Array Value))) a (Obj.mapSeq fun _ => List.toArray (p.toList.map fun i => vs.getD i Value.none))
  unfold ksk_tail
  rw [hout]
  dsimp only
  refine wpAny_bind (listUpdate_at nk2 rfl ?_ (by rw [hks, sizeLine_eq]; omega) (Nat.zero_le _))
  refine wpAny_bind (wpAny_letGo ?_)
  refine wpAny_bind (seqEpoch_at na1 rfl ?_)
  refine wpAny_bind (listUpdate_at na1 rfl ?_ (Nat.zero_le _) (by simp only [Bool.false_eq_true, if_false]; rw [hsz, sizeLine_eq]; omega))
  rw [hf]
  simp only [bne_self_eq_false, Bool.false_eq_true, if_false]
  refine wpAny_pure (H _ _ (stay_same (stay_same (stays_trans k k') nk s1) na s2) ((a'.listUpd s1 nk2).listUpd s2 na1) ⟨_, hc2⟩)
end
end Mine
end
section
open PySem PySem.W PySem.Calls PyProof.Rows Builtin Builtin.ObjectAttr Builtin.Getset_descriptor
set_option maxRecDepth 100000
set_option maxHeartbeats 1000000
namespace Mine
variable [Bd]
section
variable {w : World} {n : Nat} {h : Heap} {C N2 m f0 f1 lam a kS : Addr} {qual : Str} {l : List (Str × Value)} {vs : List Value} {ltf : Nat → Nat → Bool} {p : Array Nat} {A : Around} {E : Value → Shared → Prop} {s : Shared} {P : PySem.Fin → Shared → Prop}
theorem sk_rest {e1 : Nat} (ao : AOk (n + 4) A s.heap) (k : Stay h s.heap) (X : KAt h C N2 m f0 f1 qual l) (IO : InitOk w h C f0) (LO : LtOk w h C f1 (.ref lam)) (h2 : 2 ≤ vs.length) (h64 : vs.length < 64)
    (nk : h.get? kS = none) (na : h.get? a = none) (hka : kS ≠ a) (ek : s.heap.get? kS = some (seqObj "list" #[] 0)) (ea : s.heap.get? a = some (seqObj "list" #[] e1))
    (hr : ∀ v ∈ vs, ∃ b, v = .ref b)
    (hcmp : ∀ i j u v, vs[i]? = some u → vs[j]? = some v → ∃ k : Int, ltf i j = decide (k < 0) ∧ Ex w (n + 2) h (PySem.call (.ref lam) [u, v] []) (fun r _ => ∃ t, r = .int k t))
    (hrun : runB vs.length ltf (kas_sort vs.length) = some p)
    (H : ∀ h' tk, Stay h h' → AOk (n + 4) A h' → h'.PlainList a (p.toList.map fun i => vs.getD i Value.none).toArray → P (.done (.ret .none)) { s with heap := h', toks := tk }) :
    wpAny (model Mine.prog w) A (ksk_rest a (.ref C) false vs.toArray e1 (.ref kS)) P E s := by
  unfold ksk_rest
  refine wpAny_bind (wpAny_rule ?_)
  first
    | rw [List.forIn_toArray]
    | (rw [← Array.forIn_toList]; simp only [List.toList_toArray])
    | rw [← Array.forIn_toList]
  refine wpAny_bind (ksk_fold (fun i s' => ∃ h' tk kA e, s' = { s with heap := h', toks := tk } ∧ Stay h h' ∧ AOk (n + 4) A h' ∧ h'.get? kS = some (seqObj "list" kA e) ∧ h'.get? a = some (seqObj "list" #[] e1) ∧ KeysAt h' C vs kA i) vs 0 s
    ⟨s.heap, s.toks, #[], 0, rfl, k, ao, ek, ea, rfl, fun j v hj => by omega⟩ ?step ?done)
  case step =>
    rintro j x s' hx ⟨h', tk, kA, e, rfl, k', a', ek', ea', KA⟩
    simp only [Nat.zero_add] at KA ⊢
    have hj : j < vs.length := (List.getElem?_eq_some_iff.mp hx).1
    refine wpAny_bind (wpAny_attempt ((ex_make (n := n + 1) (v := x) (X.stays k') (IO.stays k')).run (s := { s with heap := h', toks := tk }) a' (stays_refl _) fun u h1 t1 k1 a1 q => ?_))
    obtain ⟨y, rfl, I⟩ := q
    dsimp only
    have ek1 := (k1 _ _ ek').get (.inl rfl)
    have ea1 := (k1 _ _ ea').get (.inl rfl)
    have s1 := Heap.SameBut.update h1 kS (Obj.mapSeq (·.push (.ref y)))
    obtain ⟨c2, hc2⟩ : ∃ c2, (h1.update kS (Obj.mapSeq (·.push (.ref y)))).get? kS = some (seqObj "list" (kA.push (.ref y)) c2) := ⟨_, get?_update_seq ek1 (·.push (.ref y))⟩
    have hz : kA.size = j := KA.1
    refine wpAny_bind (listUpdate_at ek1 rfl ?_ (by rw [sizeLine_eq]; omega) (Nat.le_trans (Nat.le_of_eq (Array.size_push ..)) (by rw [sizeLine_eq]; omega)))
    refine wpAny_pure ⟨rfl, _, _, kA.push (.ref y), c2, rfl, stay_same (stays_trans k' k1) nk s1, a1.listUpd s1 ek1, hc2, (s1.2 a hka.symm).trans ea1, ?_, fun i v hi hv => ?_⟩
    · rw [Array.size_push, hz]
    · have K2 := (KA.stays k1).same s1 ek1 hc2
      by_cases q : i < j
      · obtain ⟨z, e2, I2⟩ := K2.2 i v q hv
        refine ⟨z, ?_, I2⟩
        rw [Array.getElem?_push_lt (by omega)]
        rw [Array.getElem?_eq_getElem (by omega)] at e2
        exact e2
      · have : i = j := by omega
        subst this
        rw [hx] at hv; cases hv
        refine ⟨y, ?_, I.same s1 ek1 hc2⟩
        rw [← hz]; simp
  case done =>
    rintro s' ⟨h', tk, kA, e, rfl, k', a', ek', ea', KA⟩
    simp only [Nat.zero_add] at KA
    refine wpAny_bind (listItems_at ek' rfl ?_)
    exact sk_end (n := n + 2) (s := { s with heap := h', toks := tk }) a' k' X LO h2 h64 nk na hka ek' ea' KA hr hcmp hrun H

theorem sk_tree {k0 : Nat} (ao : AOk (n + 4) A s.heap) (k : Stay h s.heap) (X : KAt h C N2 m f0 f1 qual l) (IO : InitOk w h C f0) (LO : LtOk w h C f1 (.ref lam)) (h2 : 2 ≤ vs.length) (h64 : vs.length < 64)
    (na : h.get? a = none) (ea : s.heap.get? a = some (seqObj "list" vs.toArray k0))
    (hr : ∀ v ∈ vs, ∃ b, v = .ref b)
    (hcmp : ∀ i j u v, vs[i]? = some u → vs[j]? = some v → ∃ k : Int, ltf i j = decide (k < 0) ∧ Ex w (n + 2) h (PySem.call (.ref lam) [u, v] []) (fun r _ => ∃ t, r = .int k t))
    (hrun : runB vs.length ltf (kas_sort vs.length) = some p)
    (H : ∀ h' tk, Stay h h' → AOk (n + 4) A h' → h'.PlainList a (p.toList.map fun i => vs.getD i Value.none).toArray → P (.done (.ret .none)) { s with heap := h', toks := tk }) :
    wpAny (model Mine.prog w) A (ksk_tree a (.ref C) false) P E s := by
  have ha : a < s.heap.objs.size := Heap.lt_size ea
  have s1 := Heap.SameBut.update s.heap a (Obj.mapSeq fun _ => (#[] : Array Value))
  obtain ⟨e1, ho1⟩ : ∃ e1, (s.heap.update a (Obj.mapSeq fun _ => (#[] : Array Value))).get? a = some (seqObj "list" #[] e1) := ⟨_, get?_update_seq ea fun _ => #[]⟩
  have hkS : ((s.heap.update a (Obj.mapSeq fun _ => (#[] : Array Value))).push (seqObj "tuple" vs.toArray 0)).objs.size = s.heap.objs.size + 1 := by rw [size_push', Heap.size_update]
  have kp : Stay (s.heap.update a (Obj.mapSeq fun _ => (#[] : Array Value))) (((s.heap.update a (Obj.mapSeq fun _ => (#[] : Array Value))).push (seqObj "tuple" vs.toArray 0)).push (seqObj "list" #[] 0)) := .of fun b o e => Heap.get?_push_of_some _ (Heap.get?_push_of_some _ e)
  unfold ksk_tree
  refine wpAny_bind (listItems_at ea rfl ?_)
  refine wpAny_bind (listUpdate_at ea rfl ?_ (by rw [List.size_toArray, sizeLine_eq]; omega) (Nat.zero_le _))
  refine wpAny_bind (seqEpoch_at ho1 rfl ?_)
  refine wpAny_bind (wpAny_newTuple ?_ (by show vs.length ≤ _; rw [sizeLine_eq]; omega))
  refine wpAny_bind (wpAny_newList ?_ (Nat.zero_le _))
  refine wpAny_holding ?_
  have nk : h.get? (s.heap.objs.size + 1) = none := none_of_stays k (none_of_le (Nat.le_succ _))
  have kS := stay_same k na s1
  have hS : ((s.heap.update a (Obj.mapSeq fun _ => (#[] : Array Value))).push (seqObj "tuple" vs.toArray 0)).objs.size = s.heap.objs.size + 1 := hkS
  have ek : (((s.heap.update a (Obj.mapSeq fun _ => (#[] : Array Value))).push (seqObj "tuple" vs.toArray 0)).push (seqObj "list" #[] 0)).get? (s.heap.objs.size + 1) = some (seqObj "list" #[] 0) := by rw [← hS]; exact Heap.get?_push_size _ rfl
  have fin := sk_rest (n := n) (E := E) (P := P) (kS := s.heap.objs.size + 1) (a := a) (e1 := e1) (s := { s with heap := ((s.heap.update a (Obj.mapSeq fun _ => (#[] : Array Value))).push (seqObj "tuple" vs.toArray 0)).push (seqObj "list" #[] 0) })
    ((ao.listUpd s1 ea).up kp) (stays_trans kS kp) X IO LO h2 h64 nk na (Nat.ne_of_gt (Nat.lt_succ_of_lt ha)) ek (Heap.get?_push_of_some _ (Heap.get?_push_of_some _ ho1)) hr hcmp hrun H
  show wpAny _ _ (ksk_rest a (.ref C) false vs.toArray e1 (.ref ((s.heap.update a (Obj.mapSeq fun _ => (#[] : Array Value))).push (seqObj "tuple" vs.toArray 0)).objs.size)) _ _ _
  rw [hS]
  exact fin

theorem sk_sorted {Q : Value → Shared → Prop} {r : Addr} (ao : AOk (n + 6) A s.heap) (X : KAt s.heap C N2 m f0 f1 qual l) (IO : InitOk w s.heap C f0) (LO : LtOk w s.heap C f1 (.ref lam)) (hl : s.heap.IsList r vs.toArray) (h2 : 2 ≤ vs.length) (h64 : vs.length < 64)
    (hr : ∀ v ∈ vs, ∃ b, v = .ref b)
    (hcmp : ∀ i j u v, vs[i]? = some u → vs[j]? = some v → ∃ k : Int, ltf i j = decide (k < 0) ∧ Ex w (n + 2) s.heap (PySem.call (.ref lam) [u, v] []) (fun r _ => ∃ t, r = .int k t))
    (hrun : runB vs.length ltf (kas_sort vs.length) = some p)
    (H : ∀ D h' tk, Stay s.heap h' → s.heap.get? D = none → h'.PlainList D (p.toList.map fun i => vs.getD i Value.none).toArray → Q (.ref D) { s with heap := h', toks := tk }) :
    wpAny (model Mine.prog w) A (call (.builtin "sorted") [.ref r] [(Str.ofString "key", .ref C)]) Q E s := by
  refine call_function_entry_kw kind_sorted plain_sorted entry_sorted (ksk_s1 _ _) ?_
  unfold Builtin.«sorted»
  refine wpAny_bind (m := checkCount "sorted" 1 1 _) (wpAny_pure ?_)
  refine wpAny_bind (collect_list hl ?_ (by rw [sizeLine_eq]; omega))
  refine wpAny_bind (wpAny_newList ?_ (by rw [sizeLine_eq]; omega))
  have hsz : ((s.heap.push (seqObj "list" #[] 0)).update s.heap.objs.size (Obj.mapSeq (· ++ vs.toArray))).objs.size = s.heap.objs.size + 1 := by
    rw [Heap.size_update, size_push']
  have hoL : (((s.heap.push (seqObj "list" #[] 0)).update s.heap.objs.size (Obj.mapSeq (· ++ vs.toArray))).push (seqObj "list" vs.toArray 0)).get? (s.heap.objs.size + 1) = some (seqObj "list" vs.toArray 0) := by
    rw [← hsz]; exact Heap.get?_push_size _ rfl
  have keep : ∀ b o, s.heap.get? b = some o → (((s.heap.push (seqObj "list" #[] 0)).update s.heap.objs.size (Obj.mapSeq (· ++ vs.toArray))).push (seqObj "list" vs.toArray 0)).get? b = some o := fun b o q => by
    have hlt : b < s.heap.objs.size := Heap.lt_size q
    rw [Heap.get?_push_ne _ _ _ (by rw [hsz]; exact Nat.ne_of_lt (Nat.lt_succ_of_lt hlt)), Heap.get?_update_ne _ _ _ _ (Nat.ne_of_lt hlt), Heap.get?_push_ne _ _ _ (Nat.ne_of_lt hlt)]
    exact q
  show wpAny _ _ _ _ _ { s with heap := ((s.heap.push (seqObj "list" #[] 0)).update s.heap.objs.size (Obj.mapSeq (· ++ vs.toArray))).push (seqObj "list" vs.toArray 0) }
  rw [hsz]
  refine wpAny_bind (wpAny_holding (wpAny_call_entry_kw slot_list_sort ⟨_, hoL, rfl⟩ entry_list_sort ?body (ksk_l1 _ _)))
  case body =>
    have ht' := ksk_t1 C (s.heap.objs.size + 1)
    show wpAny (model Mine.prog w) A.in1.in1 (Builtin.«list.sort» ⟨[.ref (s.heap.objs.size + 1)], [(Str.ofString "key", .ref C)]⟩) _ _ _
    rw [ht']
    have a2 : AOk (n + 4) A.in1.in1 s.heap := AOk.in1 (n := n + 4) (AOk.in1 (n := n + 5) ao)
    refine sk_tree (n := n) (h := s.heap) (s := { s with heap := ((s.heap.push (seqObj "list" #[] 0)).update s.heap.objs.size (Obj.mapSeq (· ++ vs.toArray))).push (seqObj "list" vs.toArray 0) })
      (a2.up (.of keep)) (.of keep) X IO LO h2 h64 (none_of_le (Nat.le_succ _)) hoL hr hcmp hrun fun h' tk k' a' pl => ⟨_, rfl, ?_⟩
    exact wpAny_pure ⟨_, rfl, H _ h' tk k' (none_of_le (Nat.le_succ _)) pl⟩
end
end Mine
end
section
open PySem PySem.W PySem.Calls PyProof.Rows Builtin
set_option maxRecDepth 100000
set_option maxHeartbeats 1000000
namespace Mine
variable [Bd]
/-- all stays but the objects at Z -/
noncomputable def Leap (Z : List Addr) (h h' : Heap) : Prop := ∀ b o, b ∉ Z → h.get? b = some o → Same h' b o
theorem Leap.of {Z : List Addr} {h h' : Heap} (k : Stay h h') : Leap Z h h' := fun b o _ e => k b o e
theorem Leap.trans {Z : List Addr} {h h' h'' : Heap} (x : Leap Z h h') (y : Leap Z h' h'') : Leap Z h h'' := fun b o n e => (x b o n e).trans fun o' e' => y b o' n e'
theorem Leap.more {Z Z' : List Addr} {h h' : Heap} (x : Leap Z h h') (m : ∀ a ∈ Z, a ∈ Z') : Leap Z' h h' := fun b o n e => x b o (fun q => n (m b q)) e
/-- the objects at Z are tables of code objects -/
noncomputable def Tabs (Z : List Addr) (h : Heap) : Prop := ∀ z ∈ Z, ∃ ps, h.get? z = some (tabObj ps)
theorem ns_no {Z : List Addr} {h : Heap} {a : Addr} {m} (T : Tabs Z h) (x : h.Ns a m) : a ∉ Z := fun q => by
  obtain ⟨ps, e⟩ := T a q
  exact ns_ne_tab x e rfl
theorem no_tab {Z : List Addr} {h : Heap} {a : Addr} {o : Obj} (T : Tabs Z h) (e : h.get? a = some o) (n : o.cls ≠ .none) : a ∉ Z := fun q => by
  obtain ⟨ps, e'⟩ := T a q
  rw [e] at e'; cases e'; exact n rfl
/-- what the text's top gives, with its builtins module -/
structure TRB (w : World) (h : Heap) : Prop where
  tr : TR w h
  B : ∃ mg mb, TopRead VW LO mg mb h ∧ (∃ v, mg "__name__" = some v) ∧ ∃ bm ob, mg "__builtins__" = some (.ref bm) ∧ bm ≠ builtinsNs ∧ bm ≠ mainGlobals ∧ h.get? bm = some ob ∧ ob.cls = .type "module" ∧ ob.dict = some builtinsNs ∧ ob.data = .plain
section
variable {w : World} {h h' : Heap} {Z : List Addr}
theorem TopRead.stays' {mg mb} {h h' : Heap} (t : TopRead VW LO mg mb h) (k : Leap Z h h') (T : Tabs Z h) : TopRead VW LO mg mb h' :=
  ⟨ns_same t.g fun o e => k _ o (ns_no T t.g) e, ns_same t.b fun o e => k _ o (ns_no T t.b) e, let ⟨mc, a, b⟩ := t.nolimit; ⟨mc, ns_same a fun o e => k _ o (ns_no T a) e, b⟩, t.builtins, t.free⟩
theorem TR.leap (x : TR w h) (k : Leap Z h h') (T : Tabs Z h) (hZ : ∀ z ∈ Z, (K39 w.params).lookup z = none) : TR w h' := by
  refine ⟨fun a o e => (k a o (fun q => by rw [hZ a q] at e; cases e) (x.K a o e)).get (.inr ?_), let ⟨mg, mb, t⟩ := x.T; ⟨mg, mb, TopRead.stays' t k T⟩⟩
  have mem : ∀ {l : Frag}, l.lookup a = some o → (a, o) ∈ l := by
    intro l
    induction l with
    | nil => intro e; cases e
    | cons q l ih =>
      intro e
      obtain ⟨n, p⟩ := q
      rw [List.lookup_cons] at e
      by_cases hn : (a == n) = true
      · rw [hn] at e; have := beq_iff_eq.mp hn; subst this; cases e; exact .head _
      · simp only [Bool.not_eq_true] at hn; rw [hn] at e; exact .tail _ (ih e)
  exact Nat.lt_of_lt_of_le (lt_of_blt (List.all_eq_true.mp (plain_frag w) _ (mem e))) Bd.le
theorem TRB.leap (x : TRB w h) (k : Leap Z h h') (T : Tabs Z h) (hZ : ∀ z ∈ Z, (K39 w.params).lookup z = none) : TRB w h' := by
  refine ⟨x.tr.leap k T hZ, ?_⟩
  obtain ⟨mg, mb, t, hn, bm, ob, b1, b2, b3, b4, b5, b6, b7⟩ := x.B
  refine ⟨mg, mb, TopRead.stays' t k T, hn, bm, ob, b1, b2, b3, (k bm ob (no_tab T b4 (by rw [b5]; exact fun q => nomatch q)) b4).get (.inl (by unfold nd; rw [b7])), b5, b6, b7⟩
theorem Tabs.nil : Tabs [] h := fun _ m => nomatch m
theorem TRB.stays (x : TRB w h) (k : Stay h h') : TRB w h' := x.leap (Z := []) (.of k) Tabs.nil fun _ m => nomatch m
theorem AOk.leap {n : Nat} {A : Around} (x : AOk n A h) (k : Leap Z h h') (T : Tabs Z h) : AOk n A h' := by
  refine ⟨x.depth, x.units, x.handled, ?_, x.ne⟩
  obtain ⟨l, e, f⟩ := x.frames
  refine ⟨l, e, fun env m => ?_⟩
  obtain ⟨hk, L, o, e1, e2, e3, e4⟩ := f env m
  have hL : L ∉ Z := fun q => by
    obtain ⟨ps, e'⟩ := T L q
    rw [e2] at e'; cases e'; cases e3
  obtain ⟨sl, e5, _⟩ := k L o hL e2
  exact ⟨hk, L, _, e1, e5, e3, e4⟩
end

/-- enter a def of the text, with any end -/
theorem run_def {w : World} {n : Nat} {M : List Addr} {A : Around} {s : Shared} {R : Result → Shared → Prop} {f : Addr} {vs : List Value}
    {name qual : Str} {params : Arguments} {body : List Stmt} {scope : Scope} {dV kV doc pm cdv ct oc : Value} {an od : Option Addr} {osl : Array (Option Value)} {ρ : List (Str × D)} {bs : List (Str × Value)}
    (a : AOk (n + 1) A s.heap) (XS : TR w s.heap) (hM : MOk M s.heap)
    (ho : (K39 w.params).lookup f = some ⟨oc, od, .func (fnOf name qual params body scope dV kV doc pm an cdv ct), osl⟩) (hcd : codeIn (K39 w.params) cdv qual = true)
    (hbind : ∀ s' : Shared, Stay s.heap s'.heap → BindsTo s' (fnOf name qual params body scope dV kV doc pm an cdv ct) ⟨vs, []⟩ bs) (hb : Binds M s.heap ρ bs) (ok : defOk scope (bs.map (·.1)) = true)
    (H : ∀ L Y h' tk, FS (envOfC qual scope L f cdv) M Y s.heap h' ρ [] → (∀ b o, s.heap.get? b = some o → h'.get? b = some o) → AOk n (A.deeper (envOfC qual scope L f cdv)) h' → headFrame (A.deeper (envOfC qual scope L f cdv)) = some L →
      wpAny (model Mine.prog w) (A.deeper (envOfC qual scope L f cdv)) (execs body (envOfC qual scope L f cdv)) (fun fl s' => R (.ok (.ret (match fl with | .ret v => v | _ => .none))) s') (fun _ _ => False) { s with heap := h', toks := tk }) :
    codeAny (model Mine.prog w) A (.call (.ref f) ⟨vs, []⟩) R s := by
  simp only [defOk, Bool.and_eq_true, decide_eq_true_eq, Bool.not_eq_true', beq_iff_eq] at ok
  obtain ⟨⟨⟨⟨⟨ok1, ok2⟩, ok3⟩, ok4⟩, ok5⟩, ok6⟩ := ok
  obtain ⟨K, mg, mb, T⟩ := XS
  refine codeAny_call_function (fd := fnOf name qual params body scope dV kV doc pm an cdv ct) (by have := a.depth; omega) (K _ _ ho) rfl ok3 ok4 rfl (codeRec_of K hcd) (hbind s (stays_refl _) _ _ _ _ ?_)
  have hkind : ∀ x ∈ bs, scope.names.lookup x.1 = some .local ∨ (scope.names.lookup x.1 = some .cell ∧ ((cellsFrom (s.heap.objs.size + 1) scope.names []).lookup x.1).isSome = true) := fun x hx => by
    have := List.all_eq_true.mp ok1 x.1 (List.mem_map_of_mem hx)
    simp only [Bool.or_eq_true, beq_iff_eq, Bool.and_eq_true] at this
    rcases this with e | ⟨e, e'⟩
    · exact .inl e
    · exact .inr ⟨e, (cellsFrom_isSome scope.names (s.heap.objs.size + 1) 0 [] [] rfl).trans e'⟩
  refine wpAny_newFunctionEnv_cells ok5 hkind fun env' he s' x => ?_
  subst he
  have hk₁' := x.toInCall.keep
  refine ⟨T.nolimit.keeps hk₁', codeAny_func ?_⟩
  obtain ⟨h₁, tk, rfl, _⟩ := x.done
  have hk₁ : Stay s.heap h₁ := .of hk₁'
  have hns := x.toInCall.ns
  have hnd : ((cellsFrom (s.heap.objs.size + 1) scope.names []).map (·.1)).Nodup := by rw [cellsFrom_names scope.names (s.heap.objs.size + 1) 0 [] [] rfl]; exact ok6
  let Y : List Addr := s.heap.objs.size :: (cellsFrom (s.heap.objs.size + 1) scope.names []).map (·.2)
  have hYn : ∀ q ∈ Y, s.heap.get? q = none := fun q m => by
    rcases List.mem_cons.mp m with rfl | m
    · exact none_of_le (Nat.le_refl _)
    · obtain ⟨p, hp, rfl⟩ := List.mem_map.mp m
      exact none_of_le (Nat.le_of_lt (x.above p.1 p.2 hp))
  have F : FS (envOfC qual scope s.heap.objs.size f cdv) M Y s.heap h₁ ρ [] := by
    refine ⟨⟨fun q m => ?_, ok5, fun z e hz => ?_⟩, hk₁, ⟨_, hns⟩, hYn, .head _, fun z c e => ?_, fun z y c e1 e2 => ?_, (fun _ _ m => nomatch m), List.Pairwise.nil⟩
    · rcases List.mem_append.mp m with m | m
      · rcases List.mem_cons.mp m with rfl | m
        · obtain ⟨o, _, _, ho, _⟩ := hns; exact ⟨o, ho⟩
        · obtain ⟨p, hp, rfl⟩ := List.mem_map.mp m
          obtain ⟨o, ho, _⟩ := x.cell p.1 p.2 (lookup_of_mem_nodup hnd hp); exact ⟨o, ho⟩
      · exact hk₁.some (hM q m)
    · obtain ⟨v, e1, e2⟩ := hb.get hz
      refine ⟨v, ?_, e2.kept (M := M) (.of hk₁) fun q m => ?_⟩
      · rcases hkind _ (lookup_mem e1) with e3 | ⟨e3, e4⟩
        · have : (envOfC qual scope s.heap.objs.size f cdv).kindOf z = some .local := e3
          simp only [VarAt, this]
          exact ⟨_, hns, bindL_get bs _ ok2 e1 e3⟩
        · have e5 : (envOfC qual scope s.heap.objs.size f cdv).kindOf z = some .cell := e3
          simp only [VarAt, e5]
          obtain ⟨c, hc⟩ := Option.isSome_iff_exists.mp e4
          refine ⟨c, hc, ?_⟩
          have := x.cell z c hc
          rwa [bindC_get bs _ ok2 e1 (by show scope.names.lookup z ≠ _; simp only at e3; rw [e3]; simp)] at this
      · rcases List.mem_append.mp m with m | m
        · exact .inr (hYn q m)
        · exact .inl m
    · have hm := lookup_mem e
      exact ⟨.tail _ (List.mem_map_of_mem (f := (·.2)) hm), Nat.ne_of_gt (x.above z c hm), _, x.cell z c e⟩
    · exact name_of_addr x.apart (lookup_mem e1) (lookup_mem e2)
  obtain ⟨oL, hoL, hoL2⟩ := ns_nd hns
  have h142 : Bd.b ≤ s.heap.objs.size := a.big
  exact wpAny_mono (H _ Y h₁ _ F hk₁' ((a.up hk₁).deeper (L := s.heap.objs.size) (by show scope.kind ≠ _; rw [ok5]; decide) rfl hoL hoL2 h142) (by obtain ⟨l, e, _⟩ := a.frames; unfold headFrame; rw [Around.frames_deeper e]; rfl)) (fun _ _ q => q) fun _ _ q => q.elim
end Mine
end
section
open PySem PySem.W PySem.Calls PyProof.Rows Builtin
set_option maxRecDepth 100000
set_option maxHeartbeats 1000000
namespace Mine
variable [Bd]
theorem evalArgs_lone {M : Model} {A : Around} {E : Value → Shared → Prop} {s : Shared} {f : Value} {x : Sem Value} {Q : Args → Shared → Prop}
    (h : wpAny M A (spliced [(false, x)]) (fun vs s' => Q ⟨vs, []⟩ s') E s) : wpAny M A (evalArgs f false [(false, x)] []) Q E s := by
  unfold evalArgs
  show wpAny M A (spliced [(false, x)] >>= _) Q E s
  refine wpAny_bind (wpAny_mono h (fun vs s' h' => ?_) fun _ _ x => x)
  refine wpAny_holding ?_
  exact wpAny_bind (wpAny_pure (wpAny_bind (wpAny_pure (wpAny_pure h'))))
theorem exec_class {M : Model} {A : Around} {E : Value → Shared → Prop} {s : Shared} {env : Env} {name bind on : Str} {op pos : Pos} {body : List Stmt} {scope : Scope} {x1 : Option Scope} {statics : List Str} {Q : Flow → Shared → Prop} {mb : Str → Option Value}
    (hb : s.heap.Ns env.builtins mb) (hbc : mb "__build_class__" = some (.builtin "__build_class__"))
    (h : wpAny M A (eval (.Name on op) env) (fun v s1 => v = .type "object" ∧ wpAny M A (buildClass name (qualnameIn env name bind) [.type "object"] [] body scope statics (firstLineOf [] pos) env pos none)
      (fun c s2 => wpAny M A (storeName env bind c) (fun _ s3 => Q .next s3) E s2) E s1) E s) :
    wpAny M A (exec (.ClassDef name [.Name on op] [] body [] [] scope x1 bind statics pos) env) Q E s := by
  rw [arm_exec_ClassDef]
  refine wpAny_bind (wpAny_of_eq (a := []) rfl ?_)
  refine wpAny_bind (wpAny_standAt ?_)
  refine wpAny_bind ?_
  unfold buildClassGuard
  refine wpAny_bind (wpAny_nsGet hb ?_)
  rw [hbc]
  refine wpAny_pure ?_
  refine wpAny_bind (wpAny_holding (wpAny_bind ?_))
  have e1 : starEach [Expr.Name on op] env = [(false, eval (.Name on op) env)] := by rfl
  have e2 : backToKw pos (keywordEach [] env) = [] := by rfl
  have e3 : backTo pos [(false, eval (.Name on op) env)] = [(false, eval (.Name on op) env)] := by rfl
  rw [e1, e2, e3]
  refine evalArgs_lone (spliced_cons (wpAny_mono h (fun v s1 h1 => ?_) fun _ _ x => x))
  obtain ⟨rfl, h1⟩ := h1
  refine spliced_nil (wpAny_bind (wpAny_standAt (wpAny_holding (wpAny_mono h1 (fun c s2 h2 => ?_) fun _ _ x => x))))
  refine wpAny_bind (wpAny_of_eq (a := c) rfl ?_)
  refine wpAny_bind (wpAny_standAt ?_)
  unfold bindName
  exact wpAny_bind (wpAny_bind (wpAny_holding (wpAny_point (wpAny_bind (wpAny_mono h2 (fun _ s3 h3 => wpAny_point (wpAny_pure h3)) fun _ _ x => x)))))
end Mine
end
section
open PySem PySem.W PySem.Calls PyProof.Rows Builtin
set_option maxRecDepth 100000
set_option maxHeartbeats 1000000
namespace Mine
variable [Bd]
/-- a function object made at run time -/
noncomputable def FnAt (h : Heap) (f : Addr) (fd : FuncData) : Prop := h.get? f = some { cls := .type "function", data := .func fd } ∧ h.CodeRec fd.code fd.qualname
theorem FnAt.keep {h h' : Heap} {f fd} (x : FnAt h f fd) (k : ∀ o, h.get? f = some o → h'.get? f = some o) (kc : ∀ c o vs, h.get? c = some o → o.data = .fields vs → (∃ t, vs[1]? = some (.str fd.qualname t)) → h'.get? c = some o) : FnAt h' f fd := by
  refine ⟨k _ x.1, ?_⟩
  obtain ⟨c, o, vs, t, e1, e2, e3, e4⟩ := x.2
  exact ⟨c, o, vs, t, e1, kc c o vs e2 e3 ⟨t, e4⟩, e3, e4⟩
/-- the pure look of K.__init__ -/
inductive InitFd (fd : FuncData) : Prop
  | mk (name fq : Str) (params : Arguments) (body : List Stmt) (scope : Scope) (cl : List (Str × Addr)) (dV kV doc pm cdv ct : Value) (an : Option Addr) (p1 p2 p3 p4 : Pos) (sn on : Str)
    (q0 : fd = fnX name fq params body scope cl dV kV doc pm an cdv ct)
    (q1 : body = [.Assign [.Attribute (.Name sn p1) (Str.ofString "obj") p2] (.Name on p3) p4])
    (q2 : (∀ s x v, BindsTo s (fnX name fq params body scope cl dV kV doc pm an cdv ct) ⟨[.ref x, v], []⟩ [(sn, .ref x), (on, v)]))
    (q3 : (sn == on) = false)
    (q4 : scope.isCoroutine = false)
    (q5 : scope.isGenerator = false)
    (q6 : scope.kind = .function)
    (q7 : (∀ x ∈ scope.names, x.2 ≠ .cell))
    (q8 : scope.names.lookup sn = some .local)
    (q9 : scope.names.lookup on = some .local)
    (q10 : (sn == ("__debug__" : Str)) = false)
    (q11 : (on == ("__debug__" : Str)) = false)
    (q12 : (∀ env, swapsWith (.Name on p3) (some (.Attribute (.Name sn p1) (Str.ofString "obj") p2)) p4.line env = pure false)) : InitFd fd
/-- the pure look of K.__lt__ with mycmp in the cell cc -/
inductive LtFd (fd : FuncData) (cc : Addr) : Prop
  | mk (name fq : Str) (params : Arguments) (body : List Stmt) (scope : Scope) (cl : List (Str × Addr)) (dV kV doc pm cdv ct : Value) (an : Option Addr) (p1 p2 p3 p4 p5 p6 p7 p8 p9 : Pos) (sn on mn : Str) (kk : Nat)
    (q0 : fd = fnX name fq params body scope cl dV kV doc pm an cdv ct)
    (q1 : body = [.Return (some (.Compare (.Call (.Name mn p1) [.Attribute (.Name sn p2) (Str.ofString "obj") p3, .Attribute (.Name on p4) (Str.ofString "obj") p5] [] p6) [.Lt] [.Constant (.int 0) kk p7] p8)) p9])
    (q2 : (∀ s x v, BindsTo s (fnX name fq params body scope cl dV kV doc pm an cdv ct) ⟨[.ref x, .ref v], []⟩ [(sn, .ref x), (on, .ref v)]))
    (q3 : (sn == on) = false)
    (q4 : (mn == on) = false)
    (q5 : (mn == sn) = false)
    (q6 : scope.isCoroutine = false)
    (q7 : scope.isGenerator = false)
    (q8 : scope.kind = .function)
    (q9 : (∀ x ∈ scope.names, x.2 ≠ .cell))
    (q10 : scope.names.lookup sn = some .local)
    (q11 : scope.names.lookup on = some .local)
    (q12 : scope.names.lookup mn = some .free)
    (q13 : (sn == ("__debug__" : Str)) = false)
    (q14 : (on == ("__debug__" : Str)) = false)
    (q15 : (mn == ("__debug__" : Str)) = false)
    (q16 : (mn == ("__classdict__" : Str)) = false)
    (q17 : cl.lookup mn = some cc) : LtFd fd cc
section
variable {w : World} {h : Heap} {C N2 m bT tup sl f0 f1 f2 f3 f4 f5 cc lam : Addr} {qual md : Str} {l : List (Str × Value)} {fl : Int} {tt tn tq tm tf : Tok} {fd : FuncData}
theorem initOk_of (X : KAt h C N2 m f0 f1 qual l) (e : FnAt h f0 fd) (XT : TR w h) (I : InitFd fd) : InitOk w h C f0 := by
  obtain ⟨name, fq, params, body, scope, cl, dV, kV, doc, pm, cdv, ct, an, p1, p2, p3, p4, sn, on, rfl, hb, h1, h2, h3, h4, h5, h6, h7, h8, h9, h10, h11⟩ := I
  exact init_ok X e.1 e.2 XT hb h1 h2 h3 h4 h5 h6 h7 h8 h9 h10 h11
theorem ltOk_of (X : KAt h C N2 m f0 f1 qual l) (e : FnAt h f1 fd) (XT : TR w h) (I : LtFd fd cc) (hcc : h.IsCell cc (some (.ref lam))) (hlam : ∃ oc od fd sl, h.get? lam = some ⟨oc, od, .func fd, sl⟩) : LtOk w h C f1 (.ref lam) := by
  obtain ⟨name, fq, params, body, scope, cl, dV, kV, doc, pm, cdv, ct, an, p1, p2, p3, p4, p5, p6, p7, p8, p9, sn, on, mn, kk, rfl, hb, h1, h2, h3, h4, h5, h6, h7, h8, h9, h10, h11, h12, h13, h14, h15, h16⟩ := I
  exact lt_ok (p10 := p9) X e.1 e.2 XT hb h1 h2 h3 h4 h5 h6 h7 h8 h9 h10 h11 h12 h13 h14 h15 h16 hcc hlam
theorem kAt_of (X : KClsAt h C N2 m tt bT qual tn tq md tm fl tf sl f0 f1 f2 f3 f4 f5 tup) (e0 : ∃ fd, FnAt h f0 fd) (e1 : ∃ fd, FnAt h f1 fd) :
    KAt h C N2 m f0 f1 qual (kEnt2 (.str md tm) (.int fl tf) (.ref sl) (.ref f0) (.ref f1) (.ref f2) (.ref f3) (.ref f4) (.ref f5) (.ref tup) ++ [(Str.ofString "obj", .ref m)] ++ [(Str.ofString "__doc__", .none)]) := by
  obtain ⟨es, n, en, r⟩ := X.ns
  obtain ⟨fd0, g0, _⟩ := e0
  obtain ⟨fd1, g1, _⟩ := e1
  refine ⟨⟨_, X.cls, ?_⟩, ⟨es, n, _, en, r⟩, ⟨tt, X.md⟩, ⟨_, _, _, _, g0, rfl⟩, ⟨_, _, _, _, g1, rfl⟩, ?_, ?_, ?_, ?_, ?_, ?_⟩
  · kernel_rfl
  · kernel_rfl
  · kernel_rfl
  · kernel_rfl
  · kernel_rfl
  · kernel_rfl
  · kernel_rfl
end
end Mine
end
section
open PySem PySem.W PySem.Calls PyProof.Rows Builtin
set_option maxRecDepth 100000
set_option maxHeartbeats 4000000
namespace Mine
variable [Bd]
/-- what the class's body leaves -/
inductive KBody (h : Heap) (cc : Addr) (mg : Str → Option Value) (env : Env) (c P N : Addr) (qual : Str) (fl : Int) (h' : Heap) : Prop
  | mk (ps' md tm tq tf sl ts f0 f1 f2 f3 f4 f5 fd0 fd1 fd2 fd3 fd4 fd5 : _)
    (q0 : CB env c P mg [(Str.ofString "__module__", .str md tm), (Str.ofString "__qualname__", .str qual tq), (Str.ofString "__firstlineno__", .int fl tf), (Str.ofString "__slots__", .ref sl),
      (Str.ofString "__init__", .ref f0), (Str.ofString "__lt__", .ref f1), (Str.ofString "__gt__", .ref f2), (Str.ofString "__eq__", .ref f3), (Str.ofString "__le__", .ref f4), (Str.ofString "__ge__", .ref f5), (Str.ofString "__hash__", .none)] ps' h')
    (q1 : h'.get? sl = some { cls := .type "list", data := .seq #[.str (Str.ofString "obj") ts] })
    (q2 : FnAt h' f0 fd0)
    (q3 : FnAt h' f1 fd1)
    (q4 : FnAt h' f2 fd2)
    (q5 : FnAt h' f3 fd3)
    (q6 : FnAt h' f4 fd4)
    (q7 : FnAt h' f5 fd5)
    (q8 : InitFd fd0)
    (q9 : LtFd fd1 cc)
    (q10 : (∀ b o, b ≠ 85 → h.get? b = some o → h'.get? b = some o))
    (q11 : h'.get? h.objs.size = some { cls := Value.type "tuple", data := Data.seq #[Value.type "object"] })
    (q12 : (∃ ps, h'.get? 85 = some (tabObj ps)))
    (q13 : h.objs.size < N)
    (q14 : h.objs.size < P) : KBody h cc mg env c P N qual fl h'
section
variable {N P : Addr} {h h' : Heap}
theorem ext2_at {a : Addr} {o : Obj} {l} {ps} (D : DictAt h N l) (T : h.get? P = some (tabObj ps)) (k : Ext2 N P h h') (e : h.get? a = some o) (n1 : o.cls ≠ .type "dict") (n2 : o.cls ≠ .none) : h'.get? a = some o := by
  refine k a o (fun q => ?_) (fun q => ?_) e
  · obtain ⟨es, n, e', _⟩ := D
    rw [q, e'] at e; cases e; exact n1 rfl
  · rw [q, T] at e; cases e; exact n2 rfl
theorem triples_str {q : Str} {t : Tok} : ∀ {l : List Value}, TriplesOk l → l[1]? ≠ some (.str q t)
  | [], _, e => by cases e
  | [_], _, e => by cases e
  | a :: b :: l, h, e => by
    have e' : b = .str q t := Option.some.inj e
    subst e'
    unfold TriplesOk at h
    split at h <;> simp_all
theorem FnAt.ext2 {f : Addr} {fd : FuncData} {l} {ps} (x : FnAt h f fd) (D : DictAt h N l) (T : h.get? P = some (tabObj ps)) (ok : TriplesOk ps.toList) (k : Ext2 N P h h') : FnAt h' f fd := by
  refine x.keep (fun o e => ?_) (fun c o vs e1 e2 e3 => ?_)
  · have := x.1; rw [e] at this; cases this
    exact ext2_at D T k e (ty_ne (by decide)) (fun q => nomatch q)
  · refine k c o (fun q => ?_) (fun q => ?_) e1
    · obtain ⟨es, n, e', _⟩ := D
      rw [q, e'] at e1; cases e1; cases e2
    · rw [q, T] at e1; cases e1; cases e2
      obtain ⟨t, e3⟩ := e3
      exact triples_str ok (by simpa using e3)
end
section
variable {w : World} {A : Around} {E : Value → Shared → Prop} {h : Heap} {g : Array GenState} {d : Drawn} {t : Nat} {os : OsState}
theorem bc_K {qual : Str} {body : List Stmt} {scope : Scope} {fl : Nat} {env : Env} {pos : Pos} {Q : Value → Shared → Prop} {c₀ cc : Addr} {mg : Str → Option Value} {clos : List (Str × Addr)}
    (hc : env.code = .ref c₀) (C : CodeHd h c₀ 85) (hP : h.get? 85 = some (tabObj #[]))
    (hgl : env.globals = mainGlobals) (G : h.Ns mainGlobals mg) (hnm : ∃ v, mg "__name__" = some v)
    (B : ∃ bm ob, mg "__builtins__" = some (.ref bm) ∧ bm ≠ builtinsNs ∧ bm ≠ mainGlobals ∧ h.get? bm = some ob ∧ ob.cls = .type "module" ∧ ob.dict = some builtinsNs ∧ ob.data = .plain)
    (nl : h.NoLimit) (hdp : A.depth < recursionLimit) (hcl : closureFor scope env = pure clos) (h142 : 142 ≤ h.objs.size)
    (hst : ∀ N c fr, ∀ x ∈ [Str.ofString "__module__", Str.ofString "__qualname__", Str.ofString "__firstlineno__", Str.ofString "__static_attributes__"], ∀ v, storeName (kEnv scope qual clos N c fr) x v = localSet (kEnv scope qual clos N c fr) x v)
    (hld : ∀ N c fr, loadName (kEnv scope qual clos N c fr) (Str.ofString "__name__") = (localGet (kEnv scope qual clos N c fr) (Str.ofString "__name__") >>= fun o => match o with
      | some v => pure v
      | none => loadGlobal (kEnv scope qual clos N c fr) (Str.ofString "__name__")))
    (hann : hasAnns body = false) (hdoc : docOf body = none) (KX : Frag.In (K39 w.params) h) (h85 : (K39 w.params).lookup 85 = none)
    (hqn : ((toString qual.toString ++ toString "." ++ toString (Bind.lastOf "object.__init_subclass__")) != "*") = true)
    (H : ∀ N c P fr h8 tk v t1 t2, CB (kEnv scope qual clos N c fr) c P mg [(Str.ofString "__module__", v), (Str.ofString "__qualname__", .str qual t1), (Str.ofString "__firstlineno__", .int fl t2)] #[] h8 →
      (∀ b o, b ≠ 85 → h.get? b = some o → h8.get? b = some o) → h8.get? h.objs.size = some { cls := Value.type "tuple", data := Data.seq #[Value.type "object"] } → (∃ ps', h8.get? 85 = some (tabObj ps')) →
      h.objs.size < N → h.objs.size < P → 85 ≠ P →
      wpAny (model Mine.prog w) (A.deeper (kEnv scope qual clos N c fr)) (execs body (kEnv scope qual clos N c fr)) (fun _ s' => ∃ h' tk', s' = ⟨h', g, d, tk', os⟩ ∧ KBody h cc mg (kEnv scope qual clos N c fr) c P N qual fl h') (fun _ _ => False) ⟨h8, g, d, tk, os⟩)
    (s1 : (scope.names.lookup (Str.ofString "__class__") == some NameKind.cell) = false) (s2 : (scope.names.lookup (Str.ofString "__classdict__") == some NameKind.cell) = false)
    (hq : ∀ h' tk C N2 m f0 f1 l fd0 fd1, KAt h' C N2 m f0 f1 qual l → FnAt h' f0 fd0 → FnAt h' f1 fd1 → InitFd fd0 → LtFd fd1 cc → (∀ b o, b ≠ 85 → h.get? b = some o → h'.get? b = some o) → (∃ ps, h'.get? 85 = some (tabObj ps)) → h.get? N2 = none →
      Q (.ref C) ⟨h', g, d, tk, os⟩) :
    wpAny (model Mine.prog w) A (buildClass (Str.ofString "K") qual [.type "object"] [] body scope [Str.ofString "obj"] fl env pos none) Q E ⟨h, g, d, t, os⟩ := by
  refine bc_body (KK := fun N c P fr h9 => KBody h cc mg (kEnv scope qual clos N c fr) c P N qual fl h9) hc C hP trivial (by rfl) hgl G hnm B nl hdp hcl h142 hst hld hann hdoc H ?_ s1 s2
  intro N c P fr h9 t1 K9
  obtain ⟨ps', md, tm, tq, tf, sl, ts, f0, f1, f2, f3, f4, f5, fd0, fd1, fd2, fd3, fd4, fd5, CBk, hsl, e0, e1, e2, e3, e4, e5, I0, I1, kk, htup, h85', hN, hPn⟩ := K9
  refine ⟨_, _, CBk, by kernel_rfl, fun h10 tk tup CB10 k10 ht => ?_⟩
  have D9 := CBk.dict
  have T9 := CBk.tab
  have F0 := e0.ext2 D9 T9 CBk.ok k10
  have F1 := e1.ext2 D9 T9 CBk.ok k10
  have F2 := e2.ext2 D9 T9 CBk.ok k10
  have F3 := e3.ext2 D9 T9 CBk.ok k10
  have F4 := e4.ext2 D9 T9 CBk.ok k10
  have F5 := e5.ext2 D9 T9 CBk.ok k10
  have htup10 := ext2_at D9 T9 k10 htup (ty_ne (by decide)) (fun q => nomatch q)
  have hsl10 := ext2_at D9 T9 k10 hsl (ty_ne (by decide)) (fun q => nomatch q)
  have k0 : ∀ b o, b ≠ 85 → h.get? b = some o → h10.get? b = some o := fun b o n e => k10 b o (Nat.ne_of_lt (Nat.lt_trans (Heap.lt_size e) hN)) (Nat.ne_of_lt (Nat.lt_trans (Heap.lt_size e) hPn)) (kk b o n e)
  have h85k : ∃ ps, h10.get? 85 = some (tabObj ps) := by
    obtain ⟨ps, e⟩ := h85'
    have lt : 85 < h.objs.size := Heap.lt_size hP
    exact ⟨ps, k10 _ _ (Nat.ne_of_lt (Nat.lt_trans lt hN)) (Nat.ne_of_lt (Nat.lt_trans lt hPn)) e⟩
  have KX10 : Frag.In (K39 w.params) h10 := fun a o e => k0 a o (fun q => by rw [q, h85] at e; cases e) (KX a o e)
  refine type_call htup10 (by exact CB10.dict) hsl10 (by rw [beq_eq_false_iff_ne]; exact Nat.ne_of_gt (Nat.lt_trans (by decide) (Nat.lt_of_le_of_lt h142 hN))) KX10 ?_ ht hqn fun h' t' C N2 m tt HK hN2 hk => ?_
  · intro f hf
    simp only [List.mem_cons, List.not_mem_nil, or_false] at hf
    rcases hf with rfl | rfl | rfl | rfl | rfl | rfl
    · exact ⟨_, F0.1, rfl⟩
    · exact ⟨_, F1.1, rfl⟩
    · exact ⟨_, F2.1, rfl⟩
    · exact ⟨_, F3.1, rfl⟩
    · exact ⟨_, F4.1, rfl⟩
    · exact ⟨_, F5.1, rfl⟩
  · have G0 : FnAt h' f0 fd0 := F0.keep (fun o e => hk _ _ e) fun c o vs e _ _ => hk _ _ e
    have G1 : FnAt h' f1 fd1 := F1.keep (fun o e => hk _ _ e) fun c o vs e _ _ => hk _ _ e
    obtain ⟨ps, e85⟩ := h85k
    refine hq h' t' C N2 m f0 f1 _ fd0 fd1 (kAt_of HK ⟨_, G0⟩ ⟨_, G1⟩) G0 G1 I0 I1 (fun b o n e => hk _ _ (k0 b o n e)) ⟨ps, hk _ _ e85⟩ ?_
    cases q : h.get? N2 with
    | none => rfl
    | some o =>
      by_cases q85 : N2 = 85
      · rw [q85, e85] at hN2; cases hN2
      · rw [k0 _ _ q85 q] at hN2; cases hN2
end
end Mine
end
section
open PySem PySem.W PySem.Calls PyProof.Rows Builtin
set_option maxRecDepth 100000
set_option maxHeartbeats 4000000
namespace Mine
variable [Bd]
theorem CB.push {env : Env} {c P : Addr} {mg l ps} {h : Heap} {o : Obj} (C : CB env c P mg l ps h) : CB env c P mg l ps (h.push o) :=
  C.ext (.of fun b x e => Heap.get?_push_of_some _ e) (C.dict.at fun x e => Heap.get?_push_of_some _ e) (Heap.get?_push_of_some _ C.tab) C.ok
theorem CB.same {env : Env} {c P : Addr} {mg l l' ps} {h h' : Heap} (C : CB env c P mg l ps h) (s : Heap.SameBut env.locals h h') (D : DictAt h' env.locals l') : CB env c P mg l' ps h' :=
  C.ext (.same s) D ((s.2 _ (Ne.symm C.np)).trans C.tab) C.ok
theorem CB.fn {env : Env} {c P : Addr} {mg l ps} {h h' : Heap} {f : Addr} {fd : FuncData} (C : CB env c P mg l ps h) (x : FnAt h f fd) (k : Ext2 env.locals P h h') : FnAt h' f fd := x.ext2 C.dict C.tab C.ok k
/-- the code objects of the table stand at other places -/
noncomputable def NoCode (ps : Array Value) (ls : List (Nat × Nat)) : Prop := ∀ pos : Pos, (pos.line, pos.col) ∉ ls → codeAmong pos ps.toList = none
theorem codeAmong_other {pos p : Pos} {c : Value} (l : List Value) (h : TriplesOk l) (hn : codeAmong pos l = none) (ne : (pos.line, pos.col) ≠ (p.line, p.col)) : codeAmong pos (l ++ [rawInt p.line, rawInt p.col, c]) = none := by
  fun_induction TriplesOk l with
  | case1 =>
    simp only [List.nil_append, rawInt, codeAmong]
    rw [if_neg]
    intro q
    simp only [Bool.and_eq_true, beq_iff_eq] at q
    exact ne (by rw [show p.line = pos.line by omega, show p.col = pos.col by omega])
  | case2 a t b u x rest ih =>
    simp only [List.cons_append, codeAmong] at hn ⊢
    split at hn
    · cases hn
    · rename_i hc; rw [if_neg hc]; exact ih h hn
  | case3 => exact h.elim
theorem NoCode.snoc {ps : Array Value} {ls : List (Nat × Nat)} {p : Pos} {c : Value} (n : NoCode ps ls) (ok : TriplesOk ps.toList) : NoCode (ps ++ #[rawInt p.line, rawInt p.col, c]) ((p.line, p.col) :: ls) := fun pos hp => by
  have e : (ps ++ #[rawInt p.line, rawInt p.col, c]).toList = ps.toList ++ [rawInt p.line, rawInt p.col, c] := by simp
  rw [e]
  exact codeAmong_other _ ok (n pos fun q => hp (.tail _ q)) fun q => hp (q ▸ .head _)
theorem NoCode.nil : NoCode #[] [] := fun _ _ => rfl
theorem cb_def' {M : Model} {A : Around} {E : Value → Shared → Prop} {s : Shared} {l : List (Str × Value)} {x : Str} {env : Env} {c P : Addr} {mg : Str → Option Value} {ps : Array Value} {clos : List (Str × Addr)}
    {params : Arguments} {body : List Stmt} {scope : Scope} {pos : Pos} {Q : Flow → Shared → Prop} {ls : List (Nat × Nat)} (C : CB env c P mg l ps s.heap) (nc : NoCode ps ls) (hcl : closureFor scope env = pure clos) (hg : env.globals = mainGlobals) (hcode : env.code = .ref c) (hnf : (pos.line, pos.col) ∉ ls)
    (hd0 : params.defaults = []) (hk0 : params.kw_defaults = []) (ha : annTrees params none env = []) (he : ∀ v, storeName env x v = localSet env x v) (hx : l.lookup x = none)
    (h : ∀ f c' ctv doc ps' h' tk, CB env c P mg (l ++ [(x, .ref f)]) ps' h' → NoCode ps' ((pos.line, pos.col) :: ls) → Ext2 env.locals P s.heap h' →
      FnAt h' f (fnX x (qualnameIn env x x) params body scope clos .none .none doc ((mg "__name__").getD .none) none (.ref c') ctv) → Q .next { s with heap := h', toks := tk }) :
    wpAny M A (exec (.FunctionDef x params body [] none [] scope none x pos) env) Q E s :=
  cb_def C hcl hg hcode (nc pos hnf) hd0 hk0 ha he hx fun f c' ctv doc h' tk CB' x' n1 n2 n3 e r => h f c' ctv doc _ h' tk CB' (nc.snoc C.ok) x' ⟨e, r⟩
theorem wpAny_List1 {M : Model} {A : Around} {E : Value → Shared → Prop} {s : Shared} {env : Env} {e : Expr} {pos : Pos} {Q : Value → Shared → Prop}
    (h : wpAny M A (eval e env) (fun v s₁ => Q (.ref s₁.heap.objs.size) { s₁ with heap := s₁.heap.push { cls := .type "list", data := .seq #[v] } }) E s) (he : starEach [e] env = [(false, eval e env)] := by rfl) : wpAny M A (eval (.List [e] pos) env) Q E s := by
  refine wpAny_List ?_
  rw [he]
  show wpAny _ _ (spliced [(false, eval e env)]) _ _ _
  refine spliced_cons (wpAny_mono h (fun v s1 h1 => spliced_nil ⟨?_, h1⟩) fun _ _ x => x)
  rw [sizeLine_eq]; exact Nat.le_of_ble_eq_true rfl
theorem KAt.keep {h h' : Heap} {C N2 m f0 f1 qual l} (X : KAt h C N2 m f0 f1 qual l) (k : ∀ a ∈ [C, N2, m, f0, f1], ∀ o, h.get? a = some o → h'.get? a = some o) : KAt h' C N2 m f0 f1 qual l := by
  obtain ⟨sl, c1, c2⟩ := X.hc
  obtain ⟨es, kk, sl2, n1, n2⟩ := X.hn
  obtain ⟨tt, m1⟩ := X.hm
  obtain ⟨oc, od, fd, sl3, p1, p2⟩ := X.h0
  obtain ⟨oc', od', fd', sl4, q1, q2⟩ := X.h1
  exact ⟨⟨sl, k _ (by simp) _ c1, c2⟩, ⟨es, kk, sl2, k _ (by simp) _ n1, n2⟩, ⟨tt, k _ (by simp) _ m1⟩, ⟨oc, od, fd, sl3, k _ (by simp) _ p1, p2⟩, ⟨oc', od', fd', sl4, k _ (by simp) _ q1, q2⟩, X.l0, X.l1, X.lo, X.ls, X.lg, X.lh⟩
/-- the frame's dict changes -/
theorem KAt.same {h h' : Heap} {C N2 m f0 f1 L qual l} {mL} (X : KAt h C N2 m f0 f1 qual l) (s : Heap.SameBut L h h') (n : h.Ns L mL) (hN : N2 ≠ L) : KAt h' C N2 m f0 f1 qual l := by
  obtain ⟨oL, es, ep, eL, dL, _⟩ := n
  have ne : ∀ a o, h.get? a = some o → (∀ es ep, o.data ≠ .dict es ep) → a ≠ L := fun a o e hd q => by rw [q, eL] at e; cases e; exact hd _ _ dL
  refine X.keep fun a ha o e => (s.2 a ?_).trans e
  simp only [List.mem_cons, List.not_mem_nil, or_false] at ha
  rcases ha with rfl | rfl | rfl | rfl | rfl
  · obtain ⟨sl, c1, _⟩ := X.hc; exact ne _ _ c1 fun _ _ q => by cases q
  · exact hN
  · obtain ⟨tt, c1⟩ := X.hm; exact ne _ _ c1 fun _ _ q => by cases q
  · obtain ⟨_, _, _, _, c1, _⟩ := X.h0; exact ne _ _ c1 fun _ _ q => by cases q
  · obtain ⟨_, _, _, _, c1, _⟩ := X.h1; exact ne _ _ c1 fun _ _ q => by cases q
theorem FnAt.same {h h' : Heap} {f L : Addr} {fd : FuncData} {mL} (X : FnAt h f fd) (s : Heap.SameBut L h h') (n : h.Ns L mL) : FnAt h' f fd := by
  obtain ⟨oL, es, ep, eL, dL, _⟩ := n
  refine X.keep (fun o e => (s.2 f (fun q => ?_)).trans e) (fun c o vs e1 e2 _ => (s.2 c (fun q => ?_)).trans e1)
  · have := X.1; rw [q, eL] at this; cases this; cases dL
  · rw [q, eL] at e1; cases e1; rw [e2] at dL; cases dL
theorem load_class {env : Env} {x : Str} (h0 : env.scope.kind = .class) (hb : env.blockKind = .class) (hk : env.kindOf x = none) (hc : compilersOwnNames.contains x = true) : loadName env x = (localGet env x >>= fun o => match o with | some v => pure v | none => loadGlobal env x) := by
  unfold loadName
  rw [h0, hb, hk]
  simp only [ScopeKind.isAnnotationScope, Bool.false_and, Bool.false_eq_true, if_false, hc, Bool.not_true]
  congr 1
  funext o
  cases o <;> rfl
theorem spec_key {w : World} {n : Nat} {A : Around} {s : Shared} {R : Result → Shared → Prop} {lam : Addr} (a : AOk (n + 3) A s.heap) (X : TRB w s.heap) (T85 : s.heap.get? 85 = some (tabObj #[])) (C89 : CodeHd s.heap 89 85)
    (hlam : ∃ oc od fd sl, s.heap.get? lam = some ⟨oc, od, .func fd, sl⟩)
    (H : ∀ C N2 m f0 f1 qual l h' tk, Leap [85] s.heap h' → (∃ ps, h'.get? 85 = some (tabObj ps)) → KAt h' C N2 m f0 f1 qual l → InitOk w h' C f0 → LtOk w h' C f1 (.ref lam) → R (.ok (.ret (.ref C))) { s with heap := h', toks := tk }) :
    codeAny (model Mine.prog w) A (.call (.ref 90) ⟨[.ref lam], []⟩) R s := by
  obtain ⟨hs, g, d, t, os⟩ := s
  obtain ⟨mg, mb, T, hnm, B⟩ := X.B
  have KX := X.tr.K
  refine run_def (n := n + 2) (M := []) (ρ := [(Str.ofString "mycmp", .ref lam)]) a X.tr MOk.nil (by with_unfolding_all rfl) (by with_unfolding_all rfl) (fun s k => .of_eq rfl) (.cons Den.ref' .nil) (by rfl) fun L Y h' tk F k1 a1 hf => ?_
  have T' := (⟨T.g.keeps k1, T.b.keeps k1, T.nolimit.keeps k1, T.builtins, T.free⟩ : TopRead VW LO mg mb h')
  have K' := KX.keeps k1
  refine wpAny_execs_cons (exec_class (mb := mb) T'.b ((T.builtins _ (by decide)).trans (by kernel_rfl)) ?_)
  refine Name_function_global rfl rfl (loadGlobal_builtin T'.g (mg_none_of K' T'.g (by with_unfolding_all rfl)) T'.b ((T.builtins _ (by decide)).trans (by kernel_rfl)) ⟨rfl, ?_⟩) (by decide)
  obtain ⟨bm, ob, b1, b2, b3, b4, b5, b6, b7⟩ := B
  obtain ⟨mv, hmv, hcell⟩ := F.fd.var (Str.ofString "mycmp") _ rfl
  simp only [Den] at hcell
  subst hcell
  have h142 : 142 ≤ h'.objs.size := by
    obtain ⟨o, ho'⟩ := Option.isSome_iff_exists.mp (show ((K39 w.params).lookup 141).isSome = true by with_unfolding_all rfl)
    exact Heap.lt_size (K' 141 o ho')
  refine bc_K (cc := L + 1) (mg := mg) (c₀ := 89) rfl (C89.keeps k1) (k1 _ _ T85) rfl T'.g hnm ⟨bm, ob, b1, b2, b3, k1 _ _ b4, b5, b6, b7⟩ T'.nolimit (by have := a1.depth; omega) (closureFor_clOf (by rfl)) h142 ?hst ?hld (by rfl) (by rfl) K' (by with_unfolding_all rfl) (by kernel_rfl) ?H (by rfl) (by rfl) ?hq
  case hst =>
    intro N c fr x hx v
    simp only [List.mem_cons, List.not_mem_nil, or_false] at hx
    rcases hx with rfl | rfl | rfl | rfl <;> rfl
  case hld => intro N c fr; exact load_class rfl rfl rfl (by kernel_rfl)
  case H =>
    intro N c P fr h8 tk8 v t1 t2 CB8 k8 tup8 tab8 hN hP hne
    refine wpAny_execs_cons (wpAny_Assign_Name (Calls.Constant_str ?_) (by rfl))
    refine class_store0 CB8.dict (by rfl) fun h9 tk9 D9 s9 => ?_
    have CB9 := CB8.same s9 D9
    have x9 : Ext2 N P h8 h9 := .same s9
    refine wpAny_execs_cons (wpAny_Assign_Name (wpAny_List1 (Calls.Constant_str ?_)) (by rfl))
    refine class_store CB9.push.dict (by rfl) (by kernel_rfl) fun h10 tk10 D10 s10 => ?_
    have CB10 := CB9.push.same s10 D10
    have x10 : Ext2 N P h9 h10 := (Ext2.of fun b o e => Heap.get?_push_of_some _ e).trans (.same s10)
    refine wpAny_execs_cons (cb_def' CB10 NoCode.nil (closureFor_clOf (by rfl)) rfl rfl (by decide) (by rfl) (by rfl) (by rfl) (fun _ => rfl) (by kernel_rfl) fun f0 c0 ctv0 doc0 ps11 h11 tk11 CB11 nc11 x11 e0 => ?_)
    refine wpAny_execs_cons (cb_def' CB11 nc11 (closureFor_clOf (by rfl)) rfl rfl (by decide) (by rfl) (by rfl) (by rfl) (fun _ => rfl) (by kernel_rfl) fun f1 c1 ctv1 doc1 ps12 h12 tk12 CB12 nc12 x12 e1 => ?_)
    refine wpAny_execs_cons (cb_def' CB12 nc12 (closureFor_clOf (by rfl)) rfl rfl (by decide) (by rfl) (by rfl) (by rfl) (fun _ => rfl) (by kernel_rfl) fun f2 c2 ctv2 doc2 ps13 h13 tk13 CB13 nc13 x13 e2 => ?_)
    refine wpAny_execs_cons (cb_def' CB13 nc13 (closureFor_clOf (by rfl)) rfl rfl (by decide) (by rfl) (by rfl) (by rfl) (fun _ => rfl) (by kernel_rfl) fun f3 c3 ctv3 doc3 ps14 h14 tk14 CB14 nc14 x14 e3 => ?_)
    refine wpAny_execs_cons (cb_def' CB14 nc14 (closureFor_clOf (by rfl)) rfl rfl (by decide) (by rfl) (by rfl) (by rfl) (fun _ => rfl) (by kernel_rfl) fun f4 c4 ctv4 doc4 ps15 h15 tk15 CB15 nc15 x15 e4 => ?_)
    refine wpAny_execs_cons (cb_def' CB15 nc15 (closureFor_clOf (by rfl)) rfl rfl (by decide) (by rfl) (by rfl) (by rfl) (fun _ => rfl) (by kernel_rfl) fun f5 c5 ctv5 doc5 ps16 h16 tk16 CB16 nc16 x16 e5 => ?_)
    refine wpAny_execs_cons (wpAny_Assign_Name (wpAny_Constant_none ?_) (by rfl))
    refine class_store CB16.dict (by rfl) (by kernel_rfl) fun h17 tk17 D17 s17 => ?_
    have CB17 := CB16.same s17 D17
    have x17 : Ext2 N P h16 h17 := .same s17
    refine wpAny_execs_nil ?_
    have y11 : Ext2 N P h11 h17 := x12.trans (x13.trans (x14.trans (x15.trans (x16.trans x17))))
    have y12 : Ext2 N P h12 h17 := x13.trans (x14.trans (x15.trans (x16.trans x17)))
    have y13 : Ext2 N P h13 h17 := x14.trans (x15.trans (x16.trans x17))
    have y14 : Ext2 N P h14 h17 := x15.trans (x16.trans x17)
    have y15 : Ext2 N P h15 h17 := x16.trans x17
    have y8 : Ext2 N P h8 h17 := x9.trans (x10.trans (x11.trans y11))
    have ysl := ext2_at CB9.push.dict CB9.push.tab ((Ext2.same s10).trans (x11.trans y11)) (Heap.get?_push_size _ rfl) (ty_ne (by decide)) (fun q => nomatch q)
    have G0 := CB11.fn e0 y11
    have G1 := CB12.fn e1 y12
    have G2 := CB13.fn e2 y13
    have G3 := CB14.fn e3 y14
    have G4 := CB15.fn e4 y15
    have G5 := CB16.fn e5 x17
    refine ⟨h17, _, rfl, _, _, _, _, _, _, _, f0, f1, f2, f3, f4, f5, _, _, _, _, _, _, CB17, ysl, G0, G1, G2, G3, G4, G5, ?_, ?_, fun b o n e => ?_, ?_, ?_, hN, hP⟩
    · exact ⟨_, _, _, _, _, _, _, _, _, _, _, _, _, _, _, _, _, _, _, rfl, rfl, fun s x v => .of_eq rfl, by decide, rfl, rfl, rfl, by decide, rfl, rfl, by decide, by decide, fun env => rfl⟩
    · exact ⟨_, _, _, _, _, _, _, _, _, _, _, _, _, _, _, _, _, _, _, _, _, _, _, _, _, _, rfl, rfl, fun s x v => .of_eq rfl, by decide, by decide, by decide, rfl, rfl, rfl, by decide, rfl, rfl, rfl, by decide, by decide, by decide, by decide, by kernel_rfl⟩
    · exact y8 b o (Nat.ne_of_lt (Nat.lt_trans (Heap.lt_size e) hN)) (Nat.ne_of_lt (Nat.lt_trans (Heap.lt_size e) hP)) (k8 b o n e)
    · exact y8 _ _ (Nat.ne_of_lt hN) (Nat.ne_of_lt hP) tup8
    · obtain ⟨ps, e⟩ := tab8
      have lt : 85 < h'.objs.size := Nat.lt_of_lt_of_le (by decide) h142
      exact ⟨ps, y8 _ _ (Nat.ne_of_lt (Nat.lt_trans lt hN)) (Nat.ne_of_lt (Nat.lt_trans lt hP)) e⟩
  case hq =>
    intro h2 tk2 C N2 m f0 f1 l fd0 fd1 KA F0 F1 I0 I1 k2 h85 hN2
    have kh : ∀ b o, b ≠ 85 → hs.get? b = some o → h2.get? b = some o := fun b o n e => k2 b o n (k1 b o e)
    obtain ⟨mL, hnsL⟩ := F.ns
    have hL0 : hs.get? L = none := F.new L F.lm
    have hL85 : L ≠ 85 := fun q => by rw [q, T85] at hL0; cases hL0
    have hns2 : h2.Ns L mL := by obtain ⟨o, es, ep, e, r⟩ := hnsL; exact ⟨o, es, ep, k2 _ _ hL85 e, r⟩
    have hN2L : N2 ≠ L := fun q => by obtain ⟨o, es, ep, e, r⟩ := hnsL; rw [q] at hN2; rw [show h'.get? L = some o from e] at hN2; cases hN2
    refine wpAny_storeName_local (by rfl) hns2 (fun h3 hn3 s3' => ?_) (by rfl)
    have s3 : Heap.SameBut L h2 h3 := s3'
    refine wpAny_execs_cons (wpAny_Return_some (wpAny_Name (wpAny_loadName_local (by rfl) (by rfl) hn3 (v := .ref C) (by rfl) ?_) (by decide)))
    have k3 : ∀ b o, b ≠ 85 → hs.get? b = some o → h3.get? b = some o := fun b o n e => (s3.2 b (fun q => by rw [q, hL0] at e; cases e)).trans (kh b o n e)
    have lp : Leap [85] hs h3 := fun b o n e => .of (k3 b o (fun q => n (q ▸ .head _)) e)
    have T3 : TR w h3 := X.tr.leap lp (fun z m => ⟨#[], by rw [List.mem_singleton.mp m]; exact T85⟩) (fun z m => by rw [List.mem_singleton.mp m]; with_unfolding_all rfl)
    have KA3 := KA.same s3 hns2 hN2L
    have G0 := F0.same s3 hns2
    have G1 := F1.same s3 hns2
    obtain ⟨fo, fod, ffd, fsl, elam⟩ := hlam
    have hcell3 : h3.IsCell (L + 1) (some (.ref lam)) := by
      have hmv' : ∃ c, (cellsFrom (L + 1) [(Str.ofString "mycmp", NameKind.cell), (Str.ofString "K", NameKind.local), (Str.ofString "object", NameKind.globalImplicit)] []).lookup (Str.ofString "mycmp") = some c ∧ h'.IsCell c (some (.ref lam)) := by
        exact hmv
      obtain ⟨c, ec, oc, e1, e2⟩ := hmv'
      have : c = L + 1 := (Option.some.inj ec).symm
      subst this
      refine ⟨oc, (s3.2 (L + 1) (Nat.succ_ne_self L)).trans (k2 (L + 1) oc (fun q => ?_) e1), e2⟩
      rw [q, k1 _ _ T85] at e1; cases e1; cases e2
    refine H C N2 m f0 f1 _ l h3 _ lp ?_ KA3 (initOk_of KA3 G0 T3 I0) (ltOk_of KA3 G1 T3 I1 hcell3 ⟨fo, fod, ffd, fsl, k3 _ _ (fun q => ?_) elam⟩)
    · obtain ⟨ps, e⟩ := h85
      exact ⟨ps, (s3.2 _ (Ne.symm hL85)).trans e⟩
    · rw [q] at elam
      exact absurd (elam.symm.trans T85) (fun q => by cases q)
end Mine
end
section
open PySem PySem.W PySem.Calls PyProof.Rows Builtin
set_option maxRecDepth 100000
set_option maxHeartbeats 1000000
namespace Mine
variable [Bd]
/-- a lambda `len(one) - len(other)` -/
noncomputable def LamFd (fd : FuncData) : Prop := ∃ (name fq : Str) (params : Arguments) (body : Expr) (scope : Scope) (pm cdv ct : Value) (on tn : Str) (p1 p2 p3 p4 p5 p6 p7 : Pos),
  fd = kla_fn name fq params body scope [] pm cdv ct ∧ body = .BinOp (.Call (.Name (Str.ofString "len") p1) [.Name on p2] [] p3) .Sub (.Call (.Name (Str.ofString "len") p4) [.Name tn p5] [] p6) p7 ∧
  (∀ u v, bindArgs (kla_fn name fq params body scope [] pm cdv ct) ⟨[u, v], []⟩ = pure [(on, u), (tn, v)]) ∧ (on == tn) = false ∧
  scope.isCoroutine = false ∧ scope.isGenerator = false ∧ scope.kind = .function ∧ (∀ x ∈ scope.names, x.2 ≠ .cell) ∧ scope.names.lookup on = some .local ∧ scope.names.lookup tn = some .local ∧ scope.names.lookup (Str.ofString "len") = some .globalImplicit ∧
  (on == ("__debug__" : Str)) = false ∧ (tn == ("__debug__" : Str)) = false
section
variable {w : World} {n : Nat} {h : Heap} {f : Addr} {fd : FuncData} {M : List Addr}
theorem lam_call {la lb : List D} {u v : Value} (XT : TR w h) (e : FnAt h f fd) (L : LamFd fd) (hM : MOk M h) (hu : Den M h (.list la) u) (hv : Den M h (.list lb) v) (h1 : la.length < 2 ^ 24) (h2 : lb.length < 2 ^ 24) :
    Ex w (n + 1) h (PySem.call (.ref f) [u, v] []) (fun r _ => ∃ t, r = .int ((la.length : Int) - lb.length) t) := fun A s a k => by
  obtain ⟨name, fq, params, body, scope, pm, cdv, ct, on, tn, p1, p2, p3, p4, p5, p6, p7, rfl, hb, hbind, hne, hco, hgen, hk, hcell, ho, ht, hl, hd1, hd2⟩ := L
  have XT' := XT.stays k
  obtain ⟨KT, mg, mb, T⟩ := XT'
  have hsz : Bd.b ≤ s.heap.objs.size := a.big
  have ho' := (k _ _ e.1).get (.inl rfl)
  refine wpAny_call (kla_callFunE (by have := a.depth; omega) ho' rfl hco hgen rfl ?_ ?_)
  · obtain ⟨c, o, vs, t, c1, c2, c3, c4⟩ := e.2
    exact ⟨c, o, vs, t, c1, (k _ _ c2).get (.inl (by unfold nd; rw [c3])), c3, c4⟩
  rw [hbind]
  have hloc : ∀ y ∈ [(on, u), (tn, v)], scope.names.lookup y.1 = some .local := by
    intro y hy
    simp only [List.mem_cons, List.not_mem_nil, or_false] at hy
    rcases hy with rfl | rfl
    · exact ho
    · exact ht
  refine wpAny_pure (wpAny_newFunctionEnv hcell hloc (fun h₁ hns hs => ?_) hk)
  have k1 : ∀ b o, s.heap.get? b = some o → h₁.get? b = some o := fun b o e => (hs.2 b (Nat.ne_of_lt (Heap.lt_size e))).trans (Heap.get?_push_of_some _ e)
  refine ⟨T.nolimit.keeps k1, ?_⟩
  obtain ⟨oL, hoL, hoL2⟩ := ns_nd hns
  have aa := (a.up (.of k1)).deeper (env := envX fq scope s.heap.objs.size f cdv []) (L := s.heap.objs.size) (by show scope.kind ≠ _; rw [hk]; decide) rfl hoL hoL2 hsz
  show codeAny _ _ (.expr body (envX fq scope s.heap.objs.size f cdv [])) _ _
  refine kla_codeExpr ?_
  have ks : Stay h h₁ := stays_trans k (.of k1)
  have F : FD (envX fq scope s.heap.objs.size f cdv []) M h₁ [(on, .list la), (tn, .list lb)] := by
    refine ⟨hM.stays ks, hk, fun z e hz => ?_⟩
    rw [List.lookup_cons] at hz
    by_cases q : (z == on) = true
    · have := beq_iff_eq.mp q; subst this; rw [q] at hz; cases hz
      refine ⟨u, ?_, hu.stays ks⟩
      have : (envX fq scope s.heap.objs.size f cdv []).kindOf z = some .local := ho
      simp only [VarAt, this]
      refine ⟨_, hns, ?_⟩
      show (([(tn, v)] ++ [(z, u)]).lookup z) = _
      simp [List.lookup_cons, hne]
    · simp only [Bool.not_eq_true] at q; rw [q, List.lookup_cons] at hz
      by_cases q2 : (z == tn) = true
      · have := beq_iff_eq.mp q2; subst this; rw [q2] at hz; cases hz
        refine ⟨v, ?_, hv.stays ks⟩
        have : (envX fq scope s.heap.objs.size f cdv []).kindOf z = some .local := ht
        simp only [VarAt, this]
        refine ⟨_, hns, ?_⟩
        show (([(z, v)] ++ [(on, u)]).lookup z) = _
        simp
      · simp only [Bool.not_eq_true] at q2; rw [q2] at hz; cases hz
  subst hb
  have X1 := XT.stays ks
  have e1 : Ev w n (envX fq scope s.heap.objs.size f cdv []) M h₁ (.Name on p2) (.list la) := ev_local F (by simp) ho hd1
  have e2 : Ev w n (envX fq scope s.heap.objs.size f cdv []) M h₁ (.Name tn p5) (.list lb) := ev_local F (by rw [List.lookup_cons, beq_eq_false_iff_ne.mpr (Ne.symm (beq_eq_false_iff_ne.mp hne))]; simp) ht hd2
  have b := ev_bin (pos := p7) F.mok (ev_len_list (p' := p1) (pos := p3) X1 e1 h1 hk hl) (ev_len_list (p' := p4) (pos := p6) X1 e2 h2 hk hl) (bin_sub (n := n))
  refine b.run aa (stays_refl _) fun r h3 t3 k3 a3 q => ?_
  simp only [Den] at q
  exact Then.mk (stays_trans (.of k1) k3) q

/-- making the lambda -/
theorem lam_make {A : Around} {E : Value → Shared → Prop} {s : Shared} {Q : Value → Shared → Prop} {params : Arguments} {body : Expr} {scope : Scope} {pos : Pos} {env : Env} (X : TRB w s.heap) (C : CodeHd s.heap 140 138) (T138 : s.heap.get? 138 = some (tabObj #[]))
    (hdef : defaultsOf params env = ([], [])) (hcl : closureFor scope env = pure []) (hg : env.globals = mainGlobals) (hcode : env.code = .ref 140)
    (h : ∀ f fd c' ct pm h' tk, fd = kla_fn "<lambda>" (env.qual ++ "<lambda>") params body scope [] pm (.ref c') ct → FnAt h' f fd → (∀ b o, b ≠ 138 → s.heap.get? b = some o → h'.get? b = some o) → (∃ ps, h'.get? 138 = some (tabObj ps)) → Q (.ref f) { s with heap := h', toks := tk }) :
    wpAny (model Mine.prog w) A (eval (.Lambda params body scope pos) env) Q E s := by
  obtain ⟨mg, mb, T, hnm, bm, ob, b1, b2, b3, b4, b5, b6, b7⟩ := X.B
  refine kla_eval hdef (kla_makeFunction (mg := mg) hcl hg T.g hcode C T138 trivial (by rfl) (ns_ne_tab T.g T138) ⟨bm, ob, b1, b2, b3, fun q => ?_, b4, b5, b6, b7⟩ fun c' ctv h' tk hx hge hlt hrec htb => ?_)
  · rw [q, T138] at b4; cases b4; cases b5
  · refine h h'.objs.size _ c' ctv _ _ tk rfl ⟨Heap.get?_push_size _ rfl, ?_⟩ (fun b o n e => Heap.get?_push_of_some _ (hx b o n e)) ⟨_, Heap.get?_push_of_some _ htb⟩
    obtain ⟨c, o, vs, t, c1, c2, c3, c4⟩ := hrec
    exact ⟨c, o, vs, t, c1, Heap.get?_push_of_some _ c2, c3, c4⟩
end
end Mine
end
section
open PySem PySem.W PySem.Calls PyProof.Rows Builtin
set_option maxRecDepth 100000
set_option maxHeartbeats 1000000
namespace Mine
variable [Bd]
section
variable {Z : List Addr} {h h' : Heap} (T : Tabs Z h) (k : Leap Z h h')
include T k
theorem isList_leap {a vs} (x : Heap.IsList h a vs) : h'.IsList a vs :=
  let ⟨o, e, c, m, d⟩ := x; ⟨o, (k a o (no_tab T e (by rw [c]; exact fun q => nomatch q)) e).get (.inl (by unfold nd; rw [d])), c, m, d⟩
theorem plain_leap {a vs} (x : h.PlainList a vs) : h'.PlainList a vs := let ⟨n, e⟩ := x; ⟨n, (k a _ (no_tab T e (fun q => nomatch q)) e).get (.inl rfl)⟩
mutual
theorem Den.leap {M} : ∀ {d v}, Den M h d v → Den M h' d v
  | .int _, _, x => x
  | .str _, _, x => x
  | .bool _, _, x => x
  | .none, _, x => x
  | .ref _, _, x => x
  | .list l, v, x => by
    simp only [Den] at x ⊢
    obtain ⟨a, vs, e, n, hl, hd⟩ := x
    exact ⟨a, vs, e, n, isList_leap T k hl, Dens.leap hd⟩
theorem Dens.leap {M} : ∀ {l vs}, Dens M h l vs → Dens M h' l vs
  | [], _, x => by simp only [Dens] at x ⊢; exact x
  | d :: l, vs, x => by
    simp only [Dens] at x ⊢
    obtain ⟨v, r, e, hv, hr⟩ := x
    exact ⟨v, r, e, Den.leap hv, Dens.leap hr⟩
end
theorem cell_leap {c : Addr} {v : Option Value} (x : h.IsCell c v) : h'.IsCell c v :=
  cell_same x fun o e => k c o (fun q => by
    obtain ⟨ps, e'⟩ := T c q
    obtain ⟨o', e2, d2⟩ := x
    rw [e'] at e2; cases e2; cases d2) e
theorem VarAt.leap {env : Env} {x : Str} {v : Value} (y : VarAt env h x v) : VarAt env h' x v := by
  unfold VarAt at y ⊢
  split at y
  · obtain ⟨mL, a, b⟩ := y; exact ⟨mL, ns_same a fun o e => k _ o (ns_no T a) e, b⟩
  · obtain ⟨c, a, b⟩ := y; exact ⟨c, a, cell_leap T k b⟩
  · obtain ⟨c, a, b⟩ := y; exact ⟨c, a, cell_leap T k b⟩
  · trivial
theorem MOk.leap {M : List Addr} (x : MOk M h) (T' : Tabs Z h') : MOk M h' := fun a m => by
  obtain ⟨o, e⟩ := x a m
  by_cases q : a ∈ Z
  · obtain ⟨ps, e'⟩ := T' a q; exact ⟨_, e'⟩
  · obtain ⟨sl, e', _⟩ := k a o q e; exact ⟨_, e'⟩
theorem FS.leap {env : Env} {M₀ X : List Addr} {h₀ : Heap} {ρ σ} (F : FS env M₀ X h₀ h ρ σ) (T' : Tabs Z h') : FS env M₀ X (hideAll h' X) h' ρ σ := by
  refine ⟨⟨MOk.leap T k F.fd.mok T', F.fd.kind, fun x d e => let ⟨v, e1, e2⟩ := F.fd.var x d e; ⟨v, VarAt.leap T k e1, Den.leap T k e2⟩⟩, .of fun b o e => of_hideAll X e,
    let ⟨m, a⟩ := F.ns; ⟨m, ns_same a fun o e => k _ o (ns_no T a) e⟩, fun a m => hideAll_none X m, F.lm, fun x c e => let ⟨a, b, v, y⟩ := F.cm x c e; ⟨a, b, v, cell_leap T k y⟩, F.cd,
    fun r ds m => let ⟨⟨vs, p, q⟩, b⟩ := F.own r ds m; ⟨⟨vs, plain_leap T k p, Dens.leap T k q⟩, b⟩, F.od⟩
theorem leap_base {X : List Addr} {h₀ : Heap} (b : Stay h₀ h) (n : ∀ a ∈ X, h₀.get? a = none) : Leap Z h₀ (hideAll h' X) := fun a o hz e => by
  obtain ⟨sl, e1, f1⟩ := (b a o e).trans fun o' e' => k a o' hz e'
  exact ⟨sl, hideAll_get X e1 (fun m => by rw [n a m] at e; cases e), f1⟩
end
end Mine
end
section
open PySem PySem.W PySem.Calls PyProof.Rows Builtin
set_option maxRecDepth 100000
set_option maxHeartbeats 1000000
namespace Mine
variable [Bd]
theorem CodeHd.leap {Z : List Addr} {h h' : Heap} {c P : Addr} (x : CodeHd h c P) (T : Tabs Z h) (k : Leap Z h h') : CodeHd h' c P := by
  obtain ⟨o, vs, file, tf, flags, tg, inF, text, tt, e, r1, r2, r⟩ := x
  exact ⟨o, vs, file, tf, flags, tg, inF, text, tt, (k c o (no_tab T e (by rw [r1]; exact fun q => nomatch q)) e).get (.inl (by unfold nd; rw [r2])), r1, r2, r⟩
theorem tab_stays {h h' : Heap} {z : Addr} {ps} (e : h.get? z = some (tabObj ps)) (k : Stay h h') : h'.get? z = some (tabObj ps) := (k _ _ e).get (.inl rfl)
theorem FnAt.leap' {Z : List Addr} {h h' : Heap} {f fd} (x : FnAt h f fd) (T : Tabs Z h) (k : Leap Z h h') (hT : ∀ z ∈ Z, ∃ ps, h.get? z = some (tabObj ps) ∧ TriplesOk ps.toList) : FnAt h' f fd := by
  refine x.keep (fun o e => ?_) (fun c o vs e1 e2 e3 => ?_)
  · have := x.1; rw [e] at this; cases this
    exact (k _ _ (no_tab T e (fun q => nomatch q)) e).get (.inl rfl)
  · refine (k c o (fun q => ?_) e1).get (.inl (by unfold nd; rw [e2]))
    obtain ⟨ps, e4, ok⟩ := hT c q
    rw [e1] at e4; cases e4; cases e2
    obtain ⟨t, e3⟩ := e3
    exact triples_str ok (by simpa using e3)
section
variable {w : World} {n : Nat} {fr : Option Addr} {env : Env} {M₀ X : List Addr} {h₀ h : Heap} {ρ : List (Str × D)} {σ : List (Addr × List D)} {Q : Flow → Heap → Prop} {x y : Str} {px p0 p1 p2 p3 p4 lp kp pos : Pos} {params : Arguments} {body : Expr} {scope : Scope} {rows : List D} {ltf : Nat → Nat → Bool} {p : Array Nat}
theorem sx_ordered (F : FS env M₀ X h₀ h ρ σ) (hx : ρ.lookup x = some (.list rows)) (hkx : env.kindOf x = some .cell) (hdx : (x == ("__debug__" : Str)) = false)
    (XB₀ : TRB w h₀) (C89₀ : CodeHd h₀ 89 85) (T85₀ : h₀.get? 85 = some (tabObj #[])) (C140₀ : CodeHd h₀ 140 138) (T138₀ : h₀.get? 138 = some (tabObj #[]))
    (hcode : env.code = .ref 140) (hg : env.globals = mainGlobals) (hbn : env.builtins = builtinsNs) (hkind : env.scope.kind = .function)
    (hks : env.kindOf (Str.ofString "sorted") = some .globalImplicit) (hkc : env.kindOf (Str.ofString "cmp_to_key") = some .globalImplicit)
    (hdef : defaultsOf params env = ([], [])) (hcl : closureFor scope env = pure [])
    (hlam : ∀ pm c' ct, LamFd (kla_fn "<lambda>" (env.qual ++ "<lambda>") params body scope [] pm (.ref c') ct))
    (hrows : ∀ d ∈ rows, ∃ l, d = .list l ∧ l.length < 2 ^ 24) (h2 : 2 ≤ rows.length) (h64 : rows.length < 64)
    (hrun : runB rows.length ltf (kas_sort rows.length) = some p) (hp : p.size ≤ 2 ^ 20)
    (hltf : ∀ i j la lb, rows[i]? = some (.list la) → rows[j]? = some (.list lb) → ltf i j = decide ((la.length : Int) - lb.length < 0))
    
    (H : ∀ h₁ h', Leap [85, 138] h₀ h₁ → TRB w h₁ → Tabs [85, 138] h₁ → FS env M₀ X h₁ h' ((y, .list (p.toList.map fun i => rows.getD i .none)) :: ρ) σ → Q .next h')
    (hky : env.kindOf y = some .local ∨ (env.kindOf y = some .cell ∧ (env.cells.lookup y).isSome = true))
    (hsw : swapsWith (.Call (.Name (Str.ofString "sorted") p0) [.Name x p1] [⟨some (Str.ofString "key"), .Call (.Name (Str.ofString "cmp_to_key") p2) [.Lambda params body scope lp] [] p3, kp⟩] p4) (some (.Name y px)) pos.line env = pure false) :
    Sx w (n + 10) fr (exec (.Assign [.Name y px] (.Call (.Name (Str.ofString "sorted") p0) [.Name x p1] [⟨some (Str.ofString "key"), .Call (.Name (Str.ofString "cmp_to_key") p2) [.Lambda params body scope lp] [] p3, kp⟩] p4) pos) env) h Q := fun A s a hf eh => by
  subst eh
  have XB := XB₀.stays F.base
  have C89 := CodeHd.leap C89₀ Tabs.nil (.of F.base)
  have C140 := CodeHd.leap C140₀ Tabs.nil (.of F.base)
  have T85 := tab_stays T85₀ F.base
  have T138 := tab_stays T138₀ F.base
  refine wpAny_Assign_Name ?_ hsw
  show wpAny _ _ (eval (.Name (Str.ofString "sorted") p0) env >>= fun f => callWith p4 f [] (backTo p4 (starEach [.Name x p1] env)) (backToKw p4 (keywordEach [⟨some (Str.ofString "key"), .Call (.Name (Str.ofString "cmp_to_key") p2) [.Lambda params body scope lp] [] p3, kp⟩] env))) _ _ _
  refine wpAny_bind ((ex_builtin (w := w) (n := n + 10) (pos := p0) XB.tr (by with_unfolding_all rfl) rfl (by decide) hkind hks hg hbn).run a (stays_refl _) fun u h1 t1 k1 a1 q1 => ?_)
  subst q1
  have F1 := F.grow k1
  refine callWith_kw (pos := p4) (e := .Name x p1) (rest := []) (kws := [⟨some (Str.ofString "key"), .Call (.Name (Str.ofString "cmp_to_key") p2) [.Lambda params body scope lp] [] p3, kp⟩]) ?_
  refine (exl_cons (pos := p4) (ev_cell (w := w) (n := n + 10) (pos := p1) F1.fd hx hkx hdx) exl_nil).run a1 (stays_refl _) fun vs h2' t2 k2 a2 q2 => ?_
  simp only [Dens] at q2
  obtain ⟨v, rr, rfl, hv, rfl⟩ := q2
  have kA := stays_trans k1 k2
  refine kwAll_cons ?_
  have XB2 := XB.stays kA
  refine Call_Name rfl ((ex_global (w := w) (n := n + 10) (pos := p2) (v := .ref 90) XB2.tr (by with_unfolding_all rfl) hkind hkc hg).run a2 (stays_refl _) fun u h3 t3 k3 a3 q3 => ?_)
  subst q3
  have kB := stays_trans kA k3
  have XB3 := XB.stays kB
  have he : starEach [Expr.Lambda params body scope lp] env = [(false, eval (.Lambda params body scope lp) env)] := by rfl
  refine callWith_of (P := fun h' => Frag.In (K39 w.params) h') (by rw [he]; rfl) (keep_def (w := w) (by with_unfolding_all rfl)) ?_
  rw [he]
  refine evalArgs_plain (spliced_cons (lam_make (s := { s with heap := h3, toks := t3 }) XB3 (CodeHd.leap C140 Tabs.nil (.of kB)) (tab_stays T138 kB) hdef hcl hg hcode fun lam fd c' ct pm h4 t4 hfd hlam4 k4 T138' => ?_))
  have l4 : Leap [138] h3 h4 := fun b o nb e => .of (k4 b o (fun q => nb (q ▸ .head _)) e)
  have T3 : Tabs [138] h3 := fun z m => by rw [List.mem_singleton.mp m]; exact ⟨_, tab_stays T138 kB⟩
  have XB4 := XB3.leap l4 T3 (fun z m => by rw [List.mem_singleton.mp m]; with_unfolding_all rfl)
  have a4 := a3.leap l4 T3
  refine spliced_nil ⟨XB4.tr.K, ?_⟩
  refine wpAny_call (spec_key (n := n + 7) (s := { s with heap := h4, toks := t4 }) a4 XB4 (k4 _ _ (by decide) (tab_stays T85 kB)) (CodeHd.leap (CodeHd.leap C89 Tabs.nil (.of kB)) T3 l4) ⟨_, _, _, _, hlam4.1⟩ fun C N2 m f0 f1 qual l h5 t5 l5 T85' KA IO LO' => ?_)
  have T4 : Tabs [85] h4 := fun z m => by rw [List.mem_singleton.mp m]; exact ⟨_, k4 _ _ (by decide) (tab_stays T85 kB)⟩
  have T4' : ∀ z ∈ [85], ∃ ps, h4.get? z = some (tabObj ps) ∧ TriplesOk ps.toList := fun z m => by rw [List.mem_singleton.mp m]; exact ⟨_, k4 _ _ (by decide) (tab_stays T85 kB), trivial⟩
  have lamAt := hlam4.leap' T4 l5 T4'
  have XB5 := XB4.leap l5 T4 (fun z m => by rw [List.mem_singleton.mp m]; with_unfolding_all rfl)
  have a5 := a4.leap l5 T4
  have L35 : Leap [85, 138] h3 h5 := (l4.more fun a m => .tail _ m).trans (l5.more fun a m => by rw [List.mem_singleton.mp m]; exact .head _)
  have T35 : Tabs [85, 138] h3 := fun z m => by
    simp only [List.mem_cons, List.not_mem_nil, or_false] at m
    rcases m with rfl | rfl
    · exact ⟨_, tab_stays T85 kB⟩
    · exact ⟨_, tab_stays T138 kB⟩
  have T5 : Tabs [85, 138] h5 := fun z m => by
    simp only [List.mem_cons, List.not_mem_nil, or_false] at m
    rcases m with rfl | rfl
    · exact T85'
    · obtain ⟨ps, e⟩ := T138'
      exact ⟨ps, (l5 138 _ (by decide) e).get (.inl rfl)⟩
  have F3 := F.grow kB
  have F5 := FS.leap T35 L35 F3 T5
  have hb5 : Leap [85, 138] h₀ (hideAll h5 X) := leap_base T35 L35 F3.base F3.new
  have hv5 := Den.leap T35 L35 (hv.stays k3)
  refine kwAll_nil ?_
  simp only [Den] at hv5
  obtain ⟨r, vs, rfl, hr, hl, hd⟩ := hv5
  have hlen := hd.length
  have hM5 : MOk (X ++ M₀) h5 := F5.fd.mok
  have hrefs : ∀ v ∈ vs, ∃ b, v = .ref b := by
    intro v hvv
    obtain ⟨i, hi, rfl⟩ := List.getElem_of_mem hvv
    have hi' : i < rows.length := by omega
    obtain ⟨u, e1, e2⟩ := hd.get (List.getElem?_eq_getElem hi')
    obtain ⟨l', el, _⟩ := hrows _ (List.getElem_mem hi')
    rw [el] at e2
    simp only [Den] at e2
    obtain ⟨b, _, rfl, _⟩ := e2
    rw [List.getElem?_eq_getElem hi] at e1
    exact ⟨b, Option.some.inj e1⟩
  refine sk_sorted (n := n + 4) (C := C) (ltf := ltf) (p := p) (s := { s with heap := h5, toks := t5 }) a5 KA IO LO' hl (by omega) (by omega) hrefs (fun i j u v hu hv => ?_) (by rw [hlen]; exact hrun) fun D h6 t6 k6 hD pl => ?_
  · have hi : i < rows.length := by have := (List.getElem?_eq_some_iff.mp hu).1; omega
    have hj : j < rows.length := by have := (List.getElem?_eq_some_iff.mp hv).1; omega
    obtain ⟨u', e1, e2⟩ := hd.get (List.getElem?_eq_getElem hi)
    obtain ⟨v', e3, e4⟩ := hd.get (List.getElem?_eq_getElem hj)
    rw [hu] at e1; cases e1
    rw [hv] at e3; cases e3
    obtain ⟨la, ea, la2⟩ := hrows _ (List.getElem_mem hi)
    obtain ⟨lb, eb, lb2⟩ := hrows _ (List.getElem_mem hj)
    rw [ea] at e2
    rw [eb] at e4
    refine ⟨(la.length : Int) - lb.length, hltf i j la lb (by rw [List.getElem?_eq_getElem hi, ea]) (by rw [List.getElem?_eq_getElem hj, eb]), ?_⟩
    exact lam_call (n := n + 4 + 1) XB5.tr lamAt (hfd ▸ hlam pm c' ct) hM5 e2 e4 la2 lb2
  · have F6 := F5.grow k6
    have hDn : D ∉ X ++ M₀ := fun q => by obtain ⟨o, e⟩ := hM5 D q; rw [show h5.get? D = none from hD] at e; cases e
    have hd6 : Dens (X ++ M₀) h6 (p.toList.map fun i => rows.getD i .none) (p.toList.map fun i => vs.getD i Value.none) := by
      have hd6 := hd.stays k6
      clear hrun pl
      induction p.toList with
      | nil => exact Dens.nil
      | cons i r ih =>
        refine Dens.cons ?_ ih
        by_cases hi : i < rows.length
        · obtain ⟨u, e1, e2⟩ := hd6.get (List.getElem?_eq_getElem hi)
          have g1 : rows.getD i .none = rows[i] := by simp [List.getD, hi]
          have g2 : vs.getD i Value.none = u := by simp [List.getD, e1]
          show Den _ _ (rows.getD i .none) (vs.getD i Value.none)
          rw [g1, g2]; exact e2
        · have g1 : rows.getD i .none = .none := by simp [List.getD, Nat.le_of_not_lt hi]
          have g2 : vs.getD i Value.none = Value.none := by simp [List.getD, show vs.length ≤ i by omega]
          show Den _ _ (rows.getD i .none) (vs.getD i Value.none)
          rw [g1, g2]; exact Den.none'
    have dv : Den (X ++ M₀) h6 (.list (p.toList.map fun i => rows.getD i .none)) (.ref D) := .of_list hDn pl.isList hd6
    have nX : ∀ z ∈ [85, 138], z ∉ X := fun z m q => by
      simp only [List.mem_cons, List.not_mem_nil, or_false] at m
      rcases m with rfl | rfl
      · have e := T85₀; rw [F.new _ q] at e; cases e
      · have e := T138₀; rw [F.new _ q] at e; cases e
    refine F6.store (s := { s with heap := h6, toks := t6 }) (a5.up k6) dv hky fun h7 tk a7 F7 kX => ⟨h7, tk, rfl, a7, ?_⟩
    have T7 : Tabs [85, 138] (hideAll h5 X) := fun z m => by
      obtain ⟨ps, e⟩ := T5 z m
      exact ⟨ps, hideAll_get X e (nX z m)⟩
    have T0 : Tabs [85, 138] h₀ := fun z m => by
      simp only [List.mem_cons, List.not_mem_nil, or_false] at m
      rcases m with rfl | rfl
      · exact ⟨_, T85₀⟩
      · exact ⟨_, T138₀⟩
    refine H _ h7 hb5 (XB₀.leap hb5 T0 fun z m => ?_) T7 F7
    simp only [List.mem_cons, List.not_mem_nil, or_false] at m
    rcases m with rfl | rfl <;> with_unfolding_all rfl
end
end Mine
end
section
open PySem PySem.W PySem.Calls PyProof.Rows
set_option maxRecDepth 100000
set_option maxHeartbeats 4000000
namespace Mine
variable [Bd]
noncomputable abbrev cEnvX (scope : Scope) (env : Env) (x : Str) (C X : Addr) : Env := compEnvC scope ((x, X) :: clOf scope env) C env
/-- the looks that a comprehension's block with a cell target asks -/
noncomputable def compOkC (scope : Scope) (env : Env) (x : Str) (ρ : List (Str × D)) : Bool :=
  closes scope env && scope.names.all (fun y => y.2 != .cell || y.1 == x) && scope.names.all (fun y => y.2 != .local || scope.names.lookup y.1 == some .local) &&
  (scope.kind == .function) && (scope.names.lookup x == some .cell) && (ρ.all fun q => q.1 == x || scope.names.lookup q.1 != some .local)
theorem lookup_memK {z : Str} {k : NameKind} : ∀ {l : List (Str × NameKind)}, l.lookup z = some k → (z, k) ∈ l := by
  intro l
  induction l with
  | nil => intro e; cases e
  | cons q l ih =>
    intro e
    obtain ⟨n, k'⟩ := q
    rw [List.lookup_cons] at e
    by_cases hn : (z == n) = true
    · rw [hn] at e; have := beq_iff_eq.mp hn; subst this; cases e; exact .head _
    · simp only [Bool.not_eq_true] at hn; rw [hn] at e; exact .tail _ (ih e)
theorem fd_compC {scope : Scope} {env : Env} {x : Str} {ρ : List (Str × D)} {M M' : List Addr} {h h' : Heap} {C X : Addr} {v : Value} {d : D} (ok : compOkC scope env x ρ = true)
    (F : FD env M h ρ) (hM : MOk M' h') (hx : h'.IsCell X (some v)) (hd : Den M' h' d v) (hden : ∀ d v, Den M h d v → Den M' h' d v)
    (hkc : ∀ c v, h.IsCell c v → h'.IsCell c v) : FD (cEnvX scope env x C X) M' h' ((x, d) :: ρ) := by
  simp only [compOkC, Bool.and_eq_true, beq_iff_eq] at ok
  obtain ⟨⟨⟨⟨⟨ok1, ok2⟩, ok3⟩, ok4⟩, ok5⟩, ok6⟩ := ok
  have kx : (cEnvX scope env x C X).kindOf x = some .cell := by show (relabel scope env).names.lookup x = _; rw [kind_relabel, ok5]
  refine ⟨hM, ok4, fun z e hz => ?_⟩
  rw [List.lookup_cons] at hz
  by_cases hzx : (z == x) = true
  · have := beq_iff_eq.mp hzx; subst this
    rw [hzx] at hz; cases hz
    refine ⟨v, ?_, hd⟩
    simp only [VarAt, kx]
    exact ⟨X, by show ((z, X) :: clOf scope env).lookup z = _; simp [List.lookup_cons], hx⟩
  · simp only [Bool.not_eq_true] at hzx
    rw [hzx] at hz
    obtain ⟨u, hu, du⟩ := F.var z e hz
    refine ⟨u, ?_, hden _ _ du⟩
    have hnl : scope.names.lookup z ≠ some .local := by
      have := List.all_eq_true.mp ok6 _ (lookup_mem hz)
      simp only [hzx, Bool.false_or, bne_iff_ne] at this
      exact this
    have hk : (cEnvX scope env x C X).kindOf z = match scope.names.lookup z with
        | some .free => if env.scope.kind == .function && env.kindOf z == some .cell then some .cell else some .free
        | k => k := kind_relabel
    have hcl : (cEnvX scope env x C X).cells.lookup z = (clOf scope env).lookup z := by
      show ((x, X) :: clOf scope env).lookup z = _
      rw [List.lookup_cons, hzx]
    unfold VarAt
    rw [hk]
    cases hq : scope.names.lookup z with
    | none => trivial
    | some k =>
      cases k with
      | «local» => exact absurd hq hnl
      | cell =>
        exfalso
        have := List.all_eq_true.mp ok2 _ (lookup_memK hq)
        simp [hzx] at this
      | free =>
        obtain ⟨e1, e2⟩ := clOf_lookup ok1 hq
        have cellv : ∃ c, (cEnvX scope env x C X).cells.lookup z = some c ∧ h'.IsCell c (some u) := by
          rw [hcl]
          unfold VarAt at hu
          rcases e2 with e2 | e2 <;> rw [e2] at hu <;> obtain ⟨c, hc, hv⟩ := hu <;> exact ⟨c, e1.trans hc, hkc _ _ hv⟩
        show (match (if env.scope.kind == .function && env.kindOf z == some .cell then some NameKind.cell else some NameKind.free) with
          | some .local => _ | some .cell => _ | some .free => _ | _ => True)
        by_cases hb : (env.scope.kind == .function && env.kindOf z == some .cell) = true
        · rw [if_pos hb]; exact cellv
        · rw [if_neg hb]; exact cellv
      | _ => trivial
noncomputable abbrev cellObj : Obj := { cls := .type "cell", data := .cell none }
theorem wpAny_newEnv1 {M : Model} {A : Around} {E : Value → Shared → Prop} {s : Shared} {scope : Scope} {globals : Addr} {cl : List (Str × Addr)} {qual : Str} {env : Env} {x : Str} {Q : Env → Shared → Prop}
    (hc : ∀ n cl, cellsFrom n scope.names cl = (x, n) :: cl) (hp : ∀ h, pushCells h scope.names = h.push cellObj)
    (hQ : Q { scope, locals := s.heap.objs.size, globals, cells := (x, s.heap.objs.size + 1) :: cl, qual, func := none, code := env.code, frame := env.frame, builtins := env.builtins } { s with heap := (s.heap.push { cls := .type "dict", data := .dict #[] }).push cellObj }) :
    wpAny M A (newFunctionEnv scope globals cl [] qual none .none (some env)) Q E s := by
  simp only [newFunctionEnv, Option.isSome_some, if_true]
  refine wpAny_bind (wpAny_alloc ?_)
  refine wpAny_bind (wpAny_layCells _ (fun name kind cells => by cases hkc : kind == NameKind.cell <;> simp [hkc]) _ _ _ _ ?_)
  rw [hc, hp]
  have hsz : ({ s with heap := s.heap.push { cls := .type "dict", data := .dict #[] } } : Shared).heap.objs.size = s.heap.objs.size + 1 := Heap.size_push ..
  rw [hsz]
  refine wpAny_bind ?_
  rw [List.forIn_nil]
  exact wpAny_pure (wpAny_pure hQ)
theorem ev_compC {w : World} {n : Nat} {env : Env} {M : List Addr} {h : Heap} {ρ : List (Str × D)} {elt iter : Expr} {x : Str} {px pos : Pos} {ifs : List Expr} {scope : Scope} {N : Nat} {it : Nat → D} {p : Nat → Bool} {f : Nat → D}
    (F : FD env M h ρ) (ok : compOkC scope env x ρ = true) (hcf : ∀ n cl, cellsFrom n scope.names cl = (x, n) :: cl) (hpc : ∀ h, pushCells h scope.names = h.push cellObj)
    (hiter : Ex w n h (eval iter env) (fun v h' => Itr w n M h' v N it))
    (htests : ∀ i M' C X h', i < N → Stay h h' → FD (cEnvX scope env x C X) M' h' ((x, it i) :: ρ) → Ex w n h' (testsT ifs (cEnvX scope env x C X)) (fun ok _ => ok = p i))
    (helt : ∀ i M' C X h', i < N → p i = true → Stay h h' → FD (cEnvX scope env x C X) M' h' ((x, it i) :: ρ) → Ev w n (cEnvX scope env x C X) M' h' elt (f i))
    (hN : N ≤ 2 ^ 20) (hs : ∀ x, foldedSetIterable iter env x = pure x := by intro _; rfl) :
    Ev w n env M h (.ListComp elt [⟨.Name x px, iter, ifs, 0⟩] scope pos) (.list (((List.range N).filter p).map f)) := fun A s a k => by
  have ok' := ok
  simp only [compOkC, Bool.and_eq_true, beq_iff_eq] at ok'
  obtain ⟨⟨⟨⟨⟨ok1, ok2⟩, ok3⟩, ok4⟩, ok5⟩, ok6⟩ := ok'
  have hnames : ∀ y ∈ scope.names, y.2 = .local → scope.names.lookup y.1 = some .local := fun y hy hl => by
    have := List.all_eq_true.mp ok3 y hy
    simpa [hl] using this
  rw [eval_ListComp]
  refine wpAny_comprehension_free (use := none) rfl hs (closureFor_clOf ok1) ok4 hnames (hiter.run a k fun xv hb tb kb a hit => ?_)
  have khb : Stay h hb := stays_trans k kb
  refine hit A _ _ _ a (stays_refl _) fun I fp wr P St h₂ t₂ W hst hfp hlive hwr _ hnf k₂ hP => ?_
  refine wpAny_newObj_type (wpAny_newEnv1 hcf hpc ?_)
  dsimp only at hwr k₂ hP ⊢
  generalize hH2 : h₂.push { cls := .type "list", dict := none, data := .seq ([] : List Value).toArray } = H2
  have hC : H2.objs.size = h₂.objs.size + 1 := by rw [← hH2, Heap.size_push]
  have hCn : h₂.get? H2.objs.size = none := none_of_le (by rw [hC]; exact Nat.le_succ _)
  have hDn : h₂.get? h₂.objs.size = none := none_of_le (Nat.le_refl _)
  have hDC : h₂.objs.size ≠ H2.objs.size := by rw [hC]; exact Nat.ne_of_lt (Nat.lt_succ_self _)
  have hDg : H2.get? h₂.objs.size = some { cls := .type "list", dict := none, data := .seq ([] : List Value).toArray } := hH2 ▸ Heap.get?_push_size _ rfl
  have k2 : ∀ b o, h₂.get? b = some o → H2.get? b = some o := fun b o e => hH2 ▸ Heap.get?_push_of_some _ e
  have hDf : h₂.objs.size ∉ fp := fun hm => Nat.lt_irrefl _ (hfp _ hm)
  have hCf : H2.objs.size ∉ fp := fun hm => by have := hfp _ hm; rw [hC] at this; exact absurd this (Nat.not_lt.mpr (Nat.le_succ _))
  obtain ⟨Xa, hX⟩ : ∃ Xa, Xa = H2.objs.size + 1 := ⟨_, rfl⟩
  rw [← hX]
  have hXn : h₂.get? Xa = none := none_of_le (by rw [hX, hC]; omega)
  have eX : Xa = h₂.objs.size + 1 + 1 := by rw [hX, hC]
  have hXf : Xa ∉ fp := fun hm => absurd (hfp _ hm) (by rw [eX]; exact Nat.not_lt.mpr (Nat.le_succ_of_le (Nat.le_succ _)))
  have hXC : Xa ≠ H2.objs.size := by rw [hX]; omega
  have hXD : Xa ≠ h₂.objs.size := by rw [hX, hC]; omega
  obtain ⟨h₁, hh1⟩ : ∃ h₁, h₁ = (H2.push { cls := .type "dict", data := .dict #[] }).push cellObj := ⟨_, rfl⟩
  have hns₁ : h₁.Ns H2.objs.size (fun _ => none) := by rw [hh1]; exact (Heap.Ns.new H2 (.type "dict")).keeps fun b o e => Heap.get?_push_of_some _ e
  have hce₁ : h₁.IsCell Xa none := ⟨cellObj, by rw [hh1, hX, show H2.objs.size + 1 = (H2.push { cls := .type "dict", data := .dict #[] }).objs.size from (Heap.size_push ..).symm]; exact Heap.get?_push_size _ rfl, rfl⟩
  have up1 : ∀ b o, H2.get? b = some o → h₁.get? b = some o := fun b o e => by rw [hh1]; exact Heap.get?_push_of_some _ (Heap.get?_push_of_some _ e)
  rw [← hh1]
  clear hh1 hX eX
  generalize H2.objs.size = C at *
  generalize h₂.objs.size = Da at *
  have hbD : hb.get? Da = none := none_of_stays k₂ hDn
  have hbC : hb.get? C = none := none_of_stays k₂ hCn
  have old : ∀ b o, h₂.get? b = some o → h₁.get? b = some o := fun b o e => up1 b o (k2 _ _ e)
  have hbX : hb.get? Xa = none := none_of_stays k₂ hXn
  have hacc₁ : h₁.PlainList Da (([] : List Value).toArray) := ⟨_, up1 _ _ hDg⟩
  have hst₁ : St 0 h₁ := W.frame _ _ _ hst fun b _ o e => old b o e
  have hDw : Da ∉ wr := fun hm => hDf (W.sub _ hm)
  have hCw : C ∉ wr := fun hm => hCf (W.sub _ hm)
  have hXw : Xa ∉ wr := fun hm => hXf (W.sub _ hm)
  have FD0 := F.stays khb
  let M' : List Addr := (C :: Da :: Xa :: wr) ++ M
  have hMnew : ∀ q ∈ M', q ∈ M ∨ hb.get? q = none := fun q hq => by
    rcases List.mem_append.mp hq with hq | hq
    · rcases List.mem_cons.mp hq with rfl | hq
      · exact .inr hbC
      · rcases List.mem_cons.mp hq with rfl | hq
        · exact .inr hbD
        · rcases List.mem_cons.mp hq with rfl | hq
          · exact .inr hbX
          · exact .inr (hwr _ hq)
    · exact .inl hq
  -- what every state of the loop bears
  have kM' : ∀ {H : Heap}, (∀ b o, b ∉ C :: Da :: Xa :: wr → hb.get? b = some o → Same H b o) → Stay hb H := fun kH b o e => kH b o (fun q => by
    rcases hMnew b (List.mem_append_left _ q) with q' | q'
    · rcases List.mem_cons.mp q with rfl | q
      · rw [hbC] at e; cases e
      · rcases List.mem_cons.mp q with rfl | q
        · rw [hbD] at e; cases e
        · rcases List.mem_cons.mp q with rfl | q
          · rw [hbX] at e; cases e
          · rw [hwr _ q] at e; cases e
    · rw [q'] at e; cases e) e
  have fdOf : ∀ i H m v, i < N → (∀ b o, b ∉ C :: Da :: Xa :: wr → hb.get? b = some o → Same H b o) → St (i + 1) H → (∃ ys, H.PlainList Da ys) → H.Ns C m → H.IsCell Xa (some v) → P i v →
      FD (cEnvX scope env x C Xa) M' H ((x, it i) :: ρ) := fun i H m v hi kH hstH hacc hns hcx hPv => by
    have kS := kM' kH
    refine fd_compC ok FD0 (fun q hq => ?_) hcx ((hP i v hi hPv).kept (.of kS) hMnew) (fun d v hd => hd.kept (.of kS) hMnew) (fun c v hv => cell_same hv (kS _))
    rcases List.mem_append.mp hq with hq | hq
    · rcases List.mem_cons.mp hq with rfl | hq
      · obtain ⟨o, _, _, ho, _⟩ := hns; exact ⟨o, ho⟩
      · rcases List.mem_cons.mp hq with rfl | hq
        · obtain ⟨ys, n, ho⟩ := hacc; exact ⟨_, ho⟩
        · rcases List.mem_cons.mp hq with rfl | hq
          · obtain ⟨o, ho, _⟩ := hcx; exact ⟨o, ho⟩
          · exact hlive _ _ hstH _ hq
    · exact kS.some (FD0.mok q hq)
  -- the loop
  have loop : ∀ s₃ : Shared, s₃ = { s with heap := h₁, toks := t₂ } →
      codeAny (model prog w) A (.compLoop (.ListComp elt [⟨.Name x px, iter, ifs, 0⟩] scope pos) 0 (.ref I) (.ref Da) (cEnvX scope env x C Xa))
        (compPost (model prog w) A NoE none (fun v s' => Then s (fun h' => Den M h' (.list (((List.range N).filter p).map f)) v) s') (.ref Da) C) s₃ := by
    rintro s₃ rfl
    refine codeAny_compLoop_tests
      (fun k s' => ∃ (i : Nat) (H : Heap) (tk : Nat) (m : Str → Option Value) (ys : List Value), s' = { s with heap := H, toks := tk } ∧ St i H ∧ H.PlainList Da ys.toArray ∧ H.Ns C m ∧ (∃ cv, H.IsCell Xa cv) ∧ Dens M' H (((List.range i).filter p).map f) ys ∧ i ≤ N ∧ k = N + 1 - i ∧
        (∀ b o, b ∉ C :: Da :: Xa :: wr → hb.get? b = some o → Same H b o)) ?_ (N + 1) ⟨0, h₁, _, _, [], rfl, hst₁, hacc₁, hns₁, ⟨_, hce₁⟩, by simp [Dens], Nat.zero_le _, rfl, fun b o _ e => (k₂ _ _ e).trans fun o e => .of (old _ _ e)⟩
    rintro kk s' ⟨i, H, tk, m, ys, rfl, hstH, haccH, hnsH, hceH, hdens, hi, rfl, kH⟩
    by_cases hlt : i < N
    · refine W.item i _ _ _ hlt hstH fun v H₁ tk₁ hPv hst₁ hk₁ => ?_
      have hxk : (cEnvX scope env x C Xa).kindOf x = some .cell := by show (relabel scope env).names.lookup x = _; rw [kind_relabel, ok5]
      obtain ⟨cv, oc, hco, hcd⟩ := hceH
      refine wpAny_assign_Name (wpAny_storeName_cell (env := cEnvX scope env x C Xa) (c := Xa) ok4 hxk (by show ((x, Xa) :: clOf scope env).lookup x = _; simp) ⟨oc, hk₁ _ _ hXw hco, hcd⟩ fun H₂ hv₂ hs₂ => ?_)
      have hn₂ : H₂.Ns C m := (hnsH.at' fun o e => hk₁ _ o hCw e).sameBut hs₂ (Ne.symm hXC)
      have hst₂ : St (i + 1) H₂ := W.frame _ _ _ hst₁ fun b hb' o e => hs₂.extBut b o (fun q => hXf ((show b = Xa from q) ▸ hb')) e
      have up : ∀ b o, b ∉ C :: Da :: Xa :: wr → H.get? b = some o → H₂.get? b = some o := fun b o hbn e => hs₂.extBut b o (fun q => hbn ((show b = Xa from q) ▸ .tail _ (.tail _ (.head _)))) (hk₁ b o (fun q => hbn (.tail _ (.tail _ (.tail _ q)))) e)
      have kH₂ : ∀ b o, b ∉ C :: Da :: Xa :: wr → hb.get? b = some o → Same H₂ b o := fun b o hbn e => (kH b o hbn e).trans fun o e => .of (up b o hbn e)
      have haccH₂ : H₂.PlainList Da ys.toArray := haccH.at fun o e => hs₂.extBut _ _ (Ne.symm hXD) (hk₁ _ _ hDw e)
      have hdens₂ : Dens M' H₂ (((List.range i).filter p).map f) ys := hdens.keep fun b o hbn e => .of (up b o (fun q => hbn (List.mem_append_left _ q)) e)
      have G := fdOf i H₂ _ v hlt kH₂ hst₂ ⟨_, haccH₂⟩ hn₂ hv₂ hPv
      have kh₂ : Stay h H₂ := stays_trans khb (kM' kH₂)
      refine (htests i M' C Xa H₂ hlt kh₂ G).run (a.up (kM' kH₂)) (stays_refl _) fun okb H₃ tk₃ k₃ a hokb => ?_
      subst hokb
      have hst₃ : St (i + 1) H₃ := W.frame _ _ _ hst₂ fun b hb o e => (k₃ b o e).get (.inl (hnf _ _ hst₂ b hb o e))
      have kH₃ : ∀ b o, b ∉ C :: Da :: Xa :: wr → hb.get? b = some o → Same H₃ b o := fun b o hbn e => (kH₂ b o hbn e).trans fun o e => k₃ _ _ e
      have hout := outs_succ (p := p) (f := f) i
      cases hpi : p i with
      | false =>
        simp only [Bool.false_eq_true, if_false]
        rw [hpi] at hout
        exact ⟨N + 1 - (i + 1), by omega, i + 1, H₃, tk₃, _, ys, rfl, hst₃, plain_same haccH₂ (k₃ _), ns_same hn₂ (k₃ _), ⟨_, cell_same hv₂ (k₃ _)⟩, by rw [hout]; simpa using hdens₂.stays k₃, hlt, rfl, kH₃⟩
      | true =>
        simp only [if_true]
        rw [hpi] at hout
        refine (helt i M' C Xa H₃ hlt hpi (stays_trans kh₂ k₃) (G.stays k₃)).run a (stays_refl _) fun y H₄ tk₄ k₄ a hy => ?_
        have hys : ys.length ≤ i := by
          have e1 := hdens.length
          have e2 := List.length_filter_le p (List.range i)
          simp at e1 e2; omega
        refine wpAny_list_append_plain (hsz := by show ys.toArray.size ≤ 2 ^ 24; simp; omega) (plain_same (plain_same haccH₂ (k₃ _)) (k₄ _)) fun H₅ hl₅ hs₅ => ?_
        have k5 : Kept M' H₄ H₅ := .same hs₅ (.tail _ (.head _))
        refine ⟨N + 1 - (i + 1), by omega, i + 1, H₅, tk₄, _, ys ++ [y], rfl, ?_, by simpa using hl₅, (ns_same (ns_same hn₂ (k₃ _)) (k₄ _)).sameBut hs₅ (Ne.symm hDC), ⟨_, (cell_same (cell_same hv₂ (k₃ _)) (k₄ _)).sameBut hs₅ hXD⟩, ?_, hlt, rfl, fun b o hbn e => ?_⟩
        · exact W.frame _ _ _ hst₃ fun b hb' o e => hs₅.extBut b o (fun q => hDf (q ▸ hb')) ((k₄ _ _ e).get (.inl (hnf _ _ hst₃ b hb' o e)))
        · rw [hout]
          exact (((hdens₂.stays k₃).stays k₄).keep k5).append (.cons (hy.keep k5) .nil)
        · exact (kH₃ b o hbn e).trans fun o e => (k₄ _ _ e).trans fun o e => .of (hs₅.extBut b o (fun q => hbn (q ▸ .tail _ (.head _))) e)
    · have hin : i = N := by omega
      subst hin
      refine W.done _ _ _ hstH fun H₁ tk₁ hk₁ => ?_
      refine ⟨m, hnsH.at' fun o e => hk₁ _ o hCw e, fun H' hs' => ?_⟩
      have up : ∀ b o, b ∉ C :: Da :: Xa :: wr → H.get? b = some o → H'.get? b = some o := fun b o hbn e => hs'.extBut b o (fun q => hbn (q ▸ .head _)) (hk₁ b o (fun q => hbn (.tail _ (.tail _ (.tail _ q)))) e)
      have kH' : ∀ b o, b ∉ C :: Da :: Xa :: wr → hb.get? b = some o → Same H' b o := fun b o hbn e => (kH b o hbn e).trans fun o e => .of (up b o hbn e)
      have hl : H'.PlainList Da ys.toArray := haccH.at fun o e => hs'.extBut _ _ hDC (hk₁ _ _ hDw e)
      refine Then.mk (stays_trans kb (kM' kH')) (.of_list (fun q => ?_) hl.isList ?_)
      · obtain ⟨o, ho⟩ := FD0.mok _ q; rw [hbD] at ho; cases ho
      · exact Dens.kept (M := M') (M' := M) (fun b o hbn e => .of (up b o (fun q => hbn (List.mem_append_left _ q)) e)) (fun q hq => .inl (List.mem_append_right _ hq)) hdens
  exact codeAny_compStart_list (loop _ rfl) (W.self 0 _ _ _ hst₁ (loop _ rfl))
end Mine
end
section
open PySem PySem.W PySem.Calls PyProof.Rows
set_option maxRecDepth 100000
set_option maxHeartbeats 4000000
namespace Mine
variable [Bd]
theorem sx_compC {w : World} {n : Nat} {fr : Option Addr} {env : Env} {M₀ X : List Addr} {h₀ h : Heap} {ρ : List (Str × D)} {σ : List (Addr × List D)} {Q : Flow → Heap → Prop} {elt iter : Expr} {x y : Str} {px py pos spos : Pos} {ifs : List Expr} {scope : Scope} {N : Nat} {it : Nat → D} {p : Nat → Bool} {f : Nat → D} {out : List D}
    (F : FS env M₀ X h₀ h ρ σ) (hout : ((List.range N).filter p).map f = out) (ok : compOkC scope env x ρ = true) (hcf : ∀ n cl, cellsFrom n scope.names cl = (x, n) :: cl) (hpc : ∀ h, pushCells h scope.names = h.push cellObj)
    (hiter : Ex w n h (eval iter env) (fun v h' => Itr w n (X ++ M₀) h' v N it))
    (htests : ∀ i M' C Xa h', i < N → Stay h h' → FD (cEnvX scope env x C Xa) M' h' ((x, it i) :: ρ) → Ex w n h' (testsT ifs (cEnvX scope env x C Xa)) (fun ok _ => ok = p i))
    (helt : ∀ i M' C Xa h', i < N → p i = true → Stay h h' → FD (cEnvX scope env x C Xa) M' h' ((x, it i) :: ρ) → Ev w n (cEnvX scope env x C Xa) M' h' elt (f i))
    (hN : N ≤ 2 ^ 20) (HQ : ∀ h', FS env M₀ X h₀ h' ((y, .list out) :: ρ) σ → Q .next h') (hk : env.kindOf y = some .local := by rfl)
    (hsw : swapsWith (.ListComp elt [⟨.Name x px, iter, ifs, 0⟩] scope pos) (some (.Name y py)) spos.line env = pure true := by rfl) (hs : ∀ x, foldedSetIterable iter env x = pure x := by intro _; rfl) :
    Sx w n fr (exec (.Assign [.Name y py] (.ListComp elt [⟨.Name x px, iter, ifs, 0⟩] scope pos) spos) env) h Q := fun A s a hf eh => by
  subst hout
  have k : Stay h s.heap := eh ▸ stays_refl _
  have FF := F
  have F := F.fd
  have ok' := ok
  simp only [compOkC, Bool.and_eq_true, beq_iff_eq] at ok'
  obtain ⟨⟨⟨⟨⟨ok1, ok2⟩, ok3⟩, ok4⟩, ok5⟩, ok6⟩ := ok'
  have hnames : ∀ y ∈ scope.names, y.2 = .local → scope.names.lookup y.1 = some .local := fun y hy hl => by
    have := List.all_eq_true.mp ok3 y hy
    simpa [hl] using this
  rw [exec_Assign_Name_used _ _ _ _ hsw]
  refine wpAny_bind (wpAny_standAt (wpAny_bind ?_))
  show wpAny _ A (do let _ ← comprehension (.ListComp elt [⟨.Name x px, iter, ifs, 0⟩] scope pos) scope env _ (newList []) false (eval iter env) (some (assign (.Name y py) env))) _ _ s
  refine wpAny_bind (wpAny_mono (?_ : wpAny (model prog w) A _ (fun _ s' => ∃ h' tk, s' = { s with heap := h', toks := tk } ∧ AOk n A h' ∧ Q .next h') NoE s) (fun _ s' hq => wpAny_pure (wpAny_pure hq)) fun _ _ e => e)
  refine wpAny_comprehension_free (use := some (assign (.Name y py) env)) (Q := fun _ s' => ∃ h' tk, s' = { s with heap := h', toks := tk } ∧ AOk n A h' ∧ Q .next h') rfl hs (closureFor_clOf ok1) ok4 hnames (hiter.run a k fun xv hb tb kb a hit => ?_)
  have khb : Stay h hb := stays_trans k kb
  refine hit A _ _ _ a (stays_refl _) fun I fp wr P St h₂ t₂ W hst hfp hlive hwr _ hnf k₂ hP => ?_
  refine wpAny_newObj_type (wpAny_newEnv1 hcf hpc ?_)
  dsimp only at hwr k₂ hP ⊢
  generalize hH2 : h₂.push { cls := .type "list", dict := none, data := .seq ([] : List Value).toArray } = H2
  have hC : H2.objs.size = h₂.objs.size + 1 := by rw [← hH2, Heap.size_push]
  have hCn : h₂.get? H2.objs.size = none := none_of_le (by rw [hC]; exact Nat.le_succ _)
  have hDn : h₂.get? h₂.objs.size = none := none_of_le (Nat.le_refl _)
  have hDC : h₂.objs.size ≠ H2.objs.size := by rw [hC]; exact Nat.ne_of_lt (Nat.lt_succ_self _)
  have hDg : H2.get? h₂.objs.size = some { cls := .type "list", dict := none, data := .seq ([] : List Value).toArray } := hH2 ▸ Heap.get?_push_size _ rfl
  have k2 : ∀ b o, h₂.get? b = some o → H2.get? b = some o := fun b o e => hH2 ▸ Heap.get?_push_of_some _ e
  have hDf : h₂.objs.size ∉ fp := fun hm => Nat.lt_irrefl _ (hfp _ hm)
  have hCf : H2.objs.size ∉ fp := fun hm => by have := hfp _ hm; rw [hC] at this; exact absurd this (Nat.not_lt.mpr (Nat.le_succ _))
  obtain ⟨Xa, hX⟩ : ∃ Xa, Xa = H2.objs.size + 1 := ⟨_, rfl⟩
  rw [← hX]
  have hXn : h₂.get? Xa = none := none_of_le (by rw [hX, hC]; omega)
  have eX : Xa = h₂.objs.size + 1 + 1 := by rw [hX, hC]
  have hXf : Xa ∉ fp := fun hm => absurd (hfp _ hm) (by rw [eX]; exact Nat.not_lt.mpr (Nat.le_succ_of_le (Nat.le_succ _)))
  have hXC : Xa ≠ H2.objs.size := by rw [hX]; omega
  have hXD : Xa ≠ h₂.objs.size := by rw [hX, hC]; omega
  obtain ⟨h₁, hh1⟩ : ∃ h₁, h₁ = (H2.push { cls := .type "dict", data := .dict #[] }).push cellObj := ⟨_, rfl⟩
  have hns₁ : h₁.Ns H2.objs.size (fun _ => none) := by rw [hh1]; exact (Heap.Ns.new H2 (.type "dict")).keeps fun b o e => Heap.get?_push_of_some _ e
  have hce₁ : h₁.IsCell Xa none := ⟨cellObj, by rw [hh1, hX, show H2.objs.size + 1 = (H2.push { cls := .type "dict", data := .dict #[] }).objs.size from (Heap.size_push ..).symm]; exact Heap.get?_push_size _ rfl, rfl⟩
  have up1 : ∀ b o, H2.get? b = some o → h₁.get? b = some o := fun b o e => by rw [hh1]; exact Heap.get?_push_of_some _ (Heap.get?_push_of_some _ e)
  rw [← hh1]
  clear hh1 hX eX
  generalize H2.objs.size = C at *
  generalize h₂.objs.size = Da at *
  have hbD : hb.get? Da = none := none_of_stays k₂ hDn
  have hbC : hb.get? C = none := none_of_stays k₂ hCn
  have old : ∀ b o, h₂.get? b = some o → h₁.get? b = some o := fun b o e => up1 b o (k2 _ _ e)
  have hbX : hb.get? Xa = none := none_of_stays k₂ hXn
  have hacc₁ : h₁.PlainList Da (([] : List Value).toArray) := ⟨_, up1 _ _ hDg⟩
  have hst₁ : St 0 h₁ := W.frame _ _ _ hst fun b _ o e => old b o e
  have hDw : Da ∉ wr := fun hm => hDf (W.sub _ hm)
  have hCw : C ∉ wr := fun hm => hCf (W.sub _ hm)
  have hXw : Xa ∉ wr := fun hm => hXf (W.sub _ hm)
  have FD0 := F.stays khb
  let M' : List Addr := (C :: Da :: Xa :: wr) ++ (X ++ M₀)
  have hMnew : ∀ q ∈ M', q ∈ (X ++ M₀) ∨ hb.get? q = none := fun q hq => by
    rcases List.mem_append.mp hq with hq | hq
    · rcases List.mem_cons.mp hq with rfl | hq
      · exact .inr hbC
      · rcases List.mem_cons.mp hq with rfl | hq
        · exact .inr hbD
        · rcases List.mem_cons.mp hq with rfl | hq
          · exact .inr hbX
          · exact .inr (hwr _ hq)
    · exact .inl hq
  -- what every state of the loop bears
  have kM' : ∀ {H : Heap}, (∀ b o, b ∉ C :: Da :: Xa :: wr → hb.get? b = some o → Same H b o) → Stay hb H := fun kH b o e => kH b o (fun q => by
    rcases hMnew b (List.mem_append_left _ q) with q' | q'
    · rcases List.mem_cons.mp q with rfl | q
      · rw [hbC] at e; cases e
      · rcases List.mem_cons.mp q with rfl | q
        · rw [hbD] at e; cases e
        · rcases List.mem_cons.mp q with rfl | q
          · rw [hbX] at e; cases e
          · rw [hwr _ q] at e; cases e
    · rw [q'] at e; cases e) e
  have fdOf : ∀ i H m v, i < N → (∀ b o, b ∉ C :: Da :: Xa :: wr → hb.get? b = some o → Same H b o) → St (i + 1) H → (∃ ys, H.PlainList Da ys) → H.Ns C m → H.IsCell Xa (some v) → P i v →
      FD (cEnvX scope env x C Xa) M' H ((x, it i) :: ρ) := fun i H m v hi kH hstH hacc hns hcx hPv => by
    have kS := kM' kH
    refine fd_compC ok FD0 (fun q hq => ?_) hcx ((hP i v hi hPv).kept (.of kS) hMnew) (fun d v hd => hd.kept (.of kS) hMnew) (fun c v hv => cell_same hv (kS _))
    rcases List.mem_append.mp hq with hq | hq
    · rcases List.mem_cons.mp hq with rfl | hq
      · obtain ⟨o, _, _, ho, _⟩ := hns; exact ⟨o, ho⟩
      · rcases List.mem_cons.mp hq with rfl | hq
        · obtain ⟨ys, n, ho⟩ := hacc; exact ⟨_, ho⟩
        · rcases List.mem_cons.mp hq with rfl | hq
          · obtain ⟨o, ho, _⟩ := hcx; exact ⟨o, ho⟩
          · exact hlive _ _ hstH _ hq
    · exact kS.some (FD0.mok q hq)
  -- the loop
  have loop : ∀ s₃ : Shared, s₃ = { s with heap := h₁, toks := t₂ } →
      codeAny (model prog w) A (.compLoop (.ListComp elt [⟨.Name x px, iter, ifs, 0⟩] scope pos) 0 (.ref I) (.ref Da) (cEnvX scope env x C Xa))
        (compPost (model prog w) A NoE (some (assign (.Name y py) env)) (fun _ s' => ∃ h' tk, s' = { s with heap := h', toks := tk } ∧ AOk n A h' ∧ Q .next h') (.ref Da) C) s₃ := by
    rintro s₃ rfl
    refine codeAny_compLoop_tests
      (fun k s' => ∃ (i : Nat) (H : Heap) (tk : Nat) (m : Str → Option Value) (ys : List Value), s' = { s with heap := H, toks := tk } ∧ St i H ∧ H.PlainList Da ys.toArray ∧ H.Ns C m ∧ (∃ cv, H.IsCell Xa cv) ∧ Dens M' H (((List.range i).filter p).map f) ys ∧ i ≤ N ∧ k = N + 1 - i ∧
        (∀ b o, b ∉ C :: Da :: Xa :: wr → hb.get? b = some o → Same H b o)) ?_ (N + 1) ⟨0, h₁, _, _, [], rfl, hst₁, hacc₁, hns₁, ⟨_, hce₁⟩, by simp [Dens], Nat.zero_le _, rfl, fun b o _ e => (k₂ _ _ e).trans fun o e => .of (old _ _ e)⟩
    rintro kk s' ⟨i, H, tk, m, ys, rfl, hstH, haccH, hnsH, hceH, hdens, hi, rfl, kH⟩
    by_cases hlt : i < N
    · refine W.item i _ _ _ hlt hstH fun v H₁ tk₁ hPv hst₁ hk₁ => ?_
      have hxk : (cEnvX scope env x C Xa).kindOf x = some .cell := by show (relabel scope env).names.lookup x = _; rw [kind_relabel, ok5]
      obtain ⟨cv, oc, hco, hcd⟩ := hceH
      refine wpAny_assign_Name (wpAny_storeName_cell (env := cEnvX scope env x C Xa) (c := Xa) ok4 hxk (by show ((x, Xa) :: clOf scope env).lookup x = _; simp) ⟨oc, hk₁ _ _ hXw hco, hcd⟩ fun H₂ hv₂ hs₂ => ?_)
      have hn₂ : H₂.Ns C m := (hnsH.at' fun o e => hk₁ _ o hCw e).sameBut hs₂ (Ne.symm hXC)
      have hst₂ : St (i + 1) H₂ := W.frame _ _ _ hst₁ fun b hb' o e => hs₂.extBut b o (fun q => hXf ((show b = Xa from q) ▸ hb')) e
      have up : ∀ b o, b ∉ C :: Da :: Xa :: wr → H.get? b = some o → H₂.get? b = some o := fun b o hbn e => hs₂.extBut b o (fun q => hbn ((show b = Xa from q) ▸ .tail _ (.tail _ (.head _)))) (hk₁ b o (fun q => hbn (.tail _ (.tail _ (.tail _ q)))) e)
      have kH₂ : ∀ b o, b ∉ C :: Da :: Xa :: wr → hb.get? b = some o → Same H₂ b o := fun b o hbn e => (kH b o hbn e).trans fun o e => .of (up b o hbn e)
      have haccH₂ : H₂.PlainList Da ys.toArray := haccH.at fun o e => hs₂.extBut _ _ (Ne.symm hXD) (hk₁ _ _ hDw e)
      have hdens₂ : Dens M' H₂ (((List.range i).filter p).map f) ys := hdens.keep fun b o hbn e => .of (up b o (fun q => hbn (List.mem_append_left _ q)) e)
      have G := fdOf i H₂ _ v hlt kH₂ hst₂ ⟨_, haccH₂⟩ hn₂ hv₂ hPv
      have kh₂ : Stay h H₂ := stays_trans khb (kM' kH₂)
      refine (htests i M' C Xa H₂ hlt kh₂ G).run (a.up (kM' kH₂)) (stays_refl _) fun okb H₃ tk₃ k₃ a hokb => ?_
      subst hokb
      have hst₃ : St (i + 1) H₃ := W.frame _ _ _ hst₂ fun b hb o e => (k₃ b o e).get (.inl (hnf _ _ hst₂ b hb o e))
      have kH₃ : ∀ b o, b ∉ C :: Da :: Xa :: wr → hb.get? b = some o → Same H₃ b o := fun b o hbn e => (kH₂ b o hbn e).trans fun o e => k₃ _ _ e
      have hout := outs_succ (p := p) (f := f) i
      cases hpi : p i with
      | false =>
        simp only [Bool.false_eq_true, if_false]
        rw [hpi] at hout
        exact ⟨N + 1 - (i + 1), by omega, i + 1, H₃, tk₃, _, ys, rfl, hst₃, plain_same haccH₂ (k₃ _), ns_same hn₂ (k₃ _), ⟨_, cell_same hv₂ (k₃ _)⟩, by rw [hout]; simpa using hdens₂.stays k₃, hlt, rfl, kH₃⟩
      | true =>
        simp only [if_true]
        rw [hpi] at hout
        refine (helt i M' C Xa H₃ hlt hpi (stays_trans kh₂ k₃) (G.stays k₃)).run a (stays_refl _) fun y H₄ tk₄ k₄ a hy => ?_
        have hys : ys.length ≤ i := by
          have e1 := hdens.length
          have e2 := List.length_filter_le p (List.range i)
          simp at e1 e2; omega
        refine wpAny_list_append_plain (hsz := by show ys.toArray.size ≤ 2 ^ 24; simp; omega) (plain_same (plain_same haccH₂ (k₃ _)) (k₄ _)) fun H₅ hl₅ hs₅ => ?_
        have k5 : Kept M' H₄ H₅ := .same hs₅ (.tail _ (.head _))
        refine ⟨N + 1 - (i + 1), by omega, i + 1, H₅, tk₄, _, ys ++ [y], rfl, ?_, by simpa using hl₅, (ns_same (ns_same hn₂ (k₃ _)) (k₄ _)).sameBut hs₅ (Ne.symm hDC), ⟨_, (cell_same (cell_same hv₂ (k₃ _)) (k₄ _)).sameBut hs₅ hXD⟩, ?_, hlt, rfl, fun b o hbn e => ?_⟩
        · exact W.frame _ _ _ hst₃ fun b hb' o e => hs₅.extBut b o (fun q => hDf (q ▸ hb')) ((k₄ _ _ e).get (.inl (hnf _ _ hst₃ b hb' o e)))
        · rw [hout]
          exact (((hdens₂.stays k₃).stays k₄).keep k5).append (.cons (hy.keep k5) .nil)
        · exact (kH₃ b o hbn e).trans fun o e => (k₄ _ _ e).trans fun o e => .of (hs₅.extBut b o (fun q => hbn (q ▸ .tail _ (.head _))) e)
    · have hin : i = N := by omega
      subst hin
      refine W.done _ _ _ hstH fun H₁ tk₁ hk₁ => ?_
      have up : ∀ b o, b ∉ C :: Da :: Xa :: wr → H.get? b = some o → H₁.get? b = some o := fun b o hbn e => hk₁ b o (fun q => hbn (.tail _ (.tail _ (.tail _ q)))) e
      have kH' : ∀ b o, b ∉ C :: Da :: Xa :: wr → hb.get? b = some o → Same H₁ b o := fun b o hbn e => (kH b o hbn e).trans fun o e => .of (up b o hbn e)
      have hns₁ := hnsH.at' fun o e => hk₁ _ o hCw e
      have hl : H₁.PlainList Da ys.toArray := haccH.at fun o e => hk₁ _ _ hDw e
      have GG := (FF.grow khb).addM (h' := H₁) (wr := [C]) (kM' kH') (fun q m => by rw [List.mem_singleton.mp m]; exact hbC) (fun q m => by rw [List.mem_singleton.mp m]; obtain ⟨o, _, _, ho, _⟩ := hns₁; exact ⟨o, ho⟩)
      have hCX : C ∉ X := fun q => by obtain ⟨o, ho⟩ := FD0.mok C (List.mem_append_left _ q); rw [hbC] at ho; cases ho
      have hCM : C ∉ M₀ := fun q => by obtain ⟨o, ho⟩ := FD0.mok C (List.mem_append_right _ q); rw [hbC] at ho; cases ho
      have hDX : Da ∉ X ++ ([C] ++ M₀) := fun q => by
        rcases List.mem_append.mp q with q | q
        · obtain ⟨o, ho⟩ := FD0.mok Da (List.mem_append_left _ q); rw [hbD] at ho; cases ho
        · rcases List.mem_append.mp q with q | q
          · exact hDC (List.mem_singleton.mp q)
          · obtain ⟨o, ho⟩ := FD0.mok Da (List.mem_append_right _ q); rw [hbD] at ho; cases ho
      have hden : Den (X ++ ([C] ++ M₀)) H₁ (.list (((List.range i).filter p).map f)) (.ref Da) := .of_list hDX hl.isList (Dens.kept (M := M') (fun b o hbn e => .of (up b o (fun q => hbn (List.mem_append_left _ q)) e)) (fun q hq => .inl (by
        rcases List.mem_append.mp hq with q | q
        · exact List.mem_append_right _ (List.mem_append_left _ q)
        · rcases List.mem_append.mp q with q | q
          · rw [List.mem_singleton.mp q]; exact .head _
          · exact List.mem_append_right _ (List.mem_append_right _ q))) hdens)
      refine wpAny_assign_Name (FS.store (s := { s with heap := H₁, toks := tk₁ }) (x := y) (a.up (kM' kH')) GG hden (.inl hk) fun H₂ tk₂ a₂ G2 kX => ?_)
      refine ⟨m, hns₁.at' fun o e => kX _ o hCX e, fun H₃ hs₃ => ?_⟩
      have k3 : ∀ b o, b ∉ [C] → H₂.get? b = some o → H₃.get? b = some o := fun b o n e => (hs₃.2 b fun q => n (q ▸ .head _)).trans e
      refine ⟨H₃, tk₂, rfl, a.beside (wr := [C]) (fun q m => by rw [List.mem_singleton.mp m]; exact hbC) a₂ k3, HQ H₃ (G2.besideOut k3 (fun q m => by rw [List.mem_singleton.mp m]; exact hCX) (fun q m => by rw [List.mem_singleton.mp m]; exact hCM) (fun q m => by rw [List.mem_singleton.mp m]; exact none_of_stays FF.base (none_of_stays khb hbC)))⟩
  exact codeAny_compStart_list (loop _ rfl) (W.self 0 _ _ _ hst₁ (loop _ rfl))

section
variable {w : World} {n : Nat} {env : Env} {M : List Addr} {h : Heap} {ρ : List (Str × D)}
end
end Mine
end
section
open PySem PySem.W PySem.Calls PyProof.Rows
set_option maxRecDepth 100000
set_option maxHeartbeats 4000000
namespace Mine
variable [Bd]
section
variable {α : Type}
theorem range_opt {p : α → Bool} {f : α → D} : ∀ (L : List α), ((List.range L.length).filter fun i => (L[i]?.map p).getD false).map (fun i => (L[i]?.map f).getD .none) = (L.filter p).map f := by
  intro L
  induction L with
  | nil => rfl
  | cons a L ih =>
    rw [List.length_cons, List.range_succ_eq_map, List.filter_cons, List.filter_map]
    have e : ((fun i => (((a :: L) : List α)[i]?.map p).getD false) ∘ Nat.succ) = fun i => (L[i]?.map p).getD false := by funext i; simp
    have e2 : (fun i => (((a :: L) : List α)[i]?.map f).getD .none) ∘ Nat.succ = fun i => (L[i]?.map f).getD .none := by funext i; simp
    rw [e]
    cases hp : p a with
    | true => simp [hp, List.filter_cons]; rw [← ih]; simp
    | false => simp [hp, List.filter_cons]; rw [← ih]; simp
theorem getD_map {g : α → D} {L : List α} {i : Nat} {a : α} (h : L[i]? = some a) : (L.map g).getD i .none = g a := by simp [List.getD, h]
end
section
variable {α : Type} {w : World} {n : Nat} {env : Env} {M : List Addr} {h : Heap} {ρ : List (Str × D)} {elt iter : Expr} {x : Str} {px pos : Pos} {ifs : List Expr} {scope : Scope} {L : List α} {p : α → Bool} {g f : α → D}
theorem ev_compM (F : FD env M h ρ) (ok : compOk scope env x ρ = true) (hiter : Ev w n env M h iter (.list (L.map g)))
    (htests : ∀ a ∈ L, ∀ M' C h', Stay h h' → FD (cEnv scope env C) M' h' ((x, g a) :: ρ) → Ex w n h' (testsT ifs (cEnv scope env C)) (fun ok _ => ok = p a))
    (helt : ∀ a ∈ L, ∀ M' C h', p a = true → Stay h h' → FD (cEnv scope env C) M' h' ((x, g a) :: ρ) → Ev w n (cEnv scope env C) M' h' elt (f a))
    (hN : L.length ≤ 2 ^ 20) (hs : ∀ x, foldedSetIterable iter env x = pure x := by intro _; rfl) :
    Ev w n env M h (.ListComp elt [⟨.Name x px, iter, ifs, 0⟩] scope pos) (.list ((L.filter p).map f)) := by
  rw [← range_opt]
  refine ev_comp (N := L.length) (it := fun i => (L.map g).getD i .none) F ok (hiter.post fun v h' _ q => by simpa using itr_list q) (fun i M' C h' hi k G => ?_) (fun i M' C h' hi hp k G => ?_) hN hs
  · have e : L[i]? = some L[i] := List.getElem?_eq_getElem hi
    rw [getD_map e] at G
    rw [e]; exact htests _ (List.getElem_mem hi) M' C h' k G
  · have e : L[i]? = some L[i] := List.getElem?_eq_getElem hi
    rw [getD_map e] at G
    rw [e] at hp ⊢
    exact helt _ (List.getElem_mem hi) M' C h' hp k G
theorem ev_compCM (F : FD env M h ρ) (ok : compOkC scope env x ρ = true) (hcf : ∀ n cl, cellsFrom n scope.names cl = (x, n) :: cl) (hpc : ∀ h, pushCells h scope.names = h.push cellObj) (hiter : Ev w n env M h iter (.list (L.map g)))
    (htests : ∀ a ∈ L, ∀ M' C Xa h', Stay h h' → FD (cEnvX scope env x C Xa) M' h' ((x, g a) :: ρ) → Ex w n h' (testsT ifs (cEnvX scope env x C Xa)) (fun ok _ => ok = p a))
    (helt : ∀ a ∈ L, ∀ M' C Xa h', p a = true → Stay h h' → FD (cEnvX scope env x C Xa) M' h' ((x, g a) :: ρ) → Ev w n (cEnvX scope env x C Xa) M' h' elt (f a))
    (hN : L.length ≤ 2 ^ 20) (hs : ∀ x, foldedSetIterable iter env x = pure x := by intro _; rfl) :
    Ev w n env M h (.ListComp elt [⟨.Name x px, iter, ifs, 0⟩] scope pos) (.list ((L.filter p).map f)) := by
  rw [← range_opt]
  refine ev_compC (N := L.length) (it := fun i => (L.map g).getD i .none) F ok hcf hpc (hiter.post fun v h' _ q => by simpa using itr_list q) (fun i M' C Xa h' hi k G => ?_) (fun i M' C Xa h' hi hp k G => ?_) hN hs
  · have e : L[i]? = some L[i] := List.getElem?_eq_getElem hi
    rw [getD_map e] at G
    rw [e]; exact htests _ (List.getElem_mem hi) M' C Xa h' k G
  · have e : L[i]? = some L[i] := List.getElem?_eq_getElem hi
    rw [getD_map e] at G
    rw [e] at hp ⊢
    exact helt _ (List.getElem_mem hi) M' C Xa h' hp k G
variable {fr : Option Addr} {M₀ X : List Addr} {h₀ : Heap} {σ : List (Addr × List D)} {Q : Flow → Heap → Prop} {y : Str} {py spos : Pos} {out : List D}
theorem sx_compM (F : FS env M₀ X h₀ h ρ σ) (ok : compOk scope env x ρ = true) (hiter : Ev w n env (X ++ M₀) h iter (.list (L.map g))) (hout : (L.filter p).map f = out)
    (htests : ∀ a ∈ L, ∀ M' C h', Stay h h' → FD (cEnv scope env C) M' h' ((x, g a) :: ρ) → Ex w n h' (testsT ifs (cEnv scope env C)) (fun ok _ => ok = p a))
    (helt : ∀ a ∈ L, ∀ M' C h', p a = true → Stay h h' → FD (cEnv scope env C) M' h' ((x, g a) :: ρ) → Ev w n (cEnv scope env C) M' h' elt (f a))
    (hN : L.length ≤ 2 ^ 20) (HQ : ∀ h', FS env M₀ X h₀ h' ((y, .list out) :: ρ) σ → Q .next h') (hk : env.kindOf y = some .local := by rfl)
    (hsw : swapsWith (.ListComp elt [⟨.Name x px, iter, ifs, 0⟩] scope pos) (some (.Name y py)) spos.line env = pure true := by rfl) (hs : ∀ x, foldedSetIterable iter env x = pure x := by intro _; rfl) :
    Sx w n fr (exec (.Assign [.Name y py] (.ListComp elt [⟨.Name x px, iter, ifs, 0⟩] scope pos) spos) env) h Q := by
  refine sx_comp (N := L.length) (p := fun i => (L[i]?.map p).getD false) (f := fun i => (L[i]?.map f).getD .none) (it := fun i => (L.map g).getD i .none) F ok ((range_opt L).trans hout) (hiter.post fun v h' _ q => by simpa using itr_list q) (fun i M' C h' hi k G => ?_) (fun i M' C h' hi hp k G => ?_) hN HQ hk hsw hs
  · have e : L[i]? = some L[i] := List.getElem?_eq_getElem hi
    rw [getD_map e] at G
    rw [e]; exact htests _ (List.getElem_mem hi) M' C h' k G
  · have e : L[i]? = some L[i] := List.getElem?_eq_getElem hi
    rw [getD_map e] at G
    rw [e] at hp ⊢
    exact helt _ (List.getElem_mem hi) M' C h' hp k G
theorem sx_compCM (F : FS env M₀ X h₀ h ρ σ) (ok : compOkC scope env x ρ = true) (hcf : ∀ n cl, cellsFrom n scope.names cl = (x, n) :: cl) (hpc : ∀ h, pushCells h scope.names = h.push cellObj) (hiter : Ev w n env (X ++ M₀) h iter (.list (L.map g))) (hout : (L.filter p).map f = out)
    (htests : ∀ a ∈ L, ∀ M' C Xa h', Stay h h' → FD (cEnvX scope env x C Xa) M' h' ((x, g a) :: ρ) → Ex w n h' (testsT ifs (cEnvX scope env x C Xa)) (fun ok _ => ok = p a))
    (helt : ∀ a ∈ L, ∀ M' C Xa h', p a = true → Stay h h' → FD (cEnvX scope env x C Xa) M' h' ((x, g a) :: ρ) → Ev w n (cEnvX scope env x C Xa) M' h' elt (f a))
    (hN : L.length ≤ 2 ^ 20) (HQ : ∀ h', FS env M₀ X h₀ h' ((y, .list out) :: ρ) σ → Q .next h') (hk : env.kindOf y = some .local := by rfl)
    (hsw : swapsWith (.ListComp elt [⟨.Name x px, iter, ifs, 0⟩] scope pos) (some (.Name y py)) spos.line env = pure true := by rfl) (hs : ∀ x, foldedSetIterable iter env x = pure x := by intro _; rfl) :
    Sx w n fr (exec (.Assign [.Name y py] (.ListComp elt [⟨.Name x px, iter, ifs, 0⟩] scope pos) spos) env) h Q := by
  refine sx_compC (N := L.length) (p := fun i => (L[i]?.map p).getD false) (f := fun i => (L[i]?.map f).getD .none) (it := fun i => (L.map g).getD i .none) F ((range_opt L).trans hout) ok hcf hpc (hiter.post fun v h' _ q => by simpa using itr_list q) (fun i M' C Xa h' hi k G => ?_) (fun i M' C Xa h' hi hp k G => ?_) hN HQ hk hsw hs
  · have e : L[i]? = some L[i] := List.getElem?_eq_getElem hi
    rw [getD_map e] at G
    rw [e]; exact htests _ (List.getElem_mem hi) M' C Xa h' k G
  · have e : L[i]? = some L[i] := List.getElem?_eq_getElem hi
    rw [getD_map e] at G
    rw [e] at hp ⊢
    exact helt _ (List.getElem_mem hi) M' C Xa h' hp k G
end
end Mine
end
section
open PySem PySem.W PySem.Calls PyProof.Rows
set_option maxRecDepth 100000
set_option maxHeartbeats 4000000
namespace Mine
variable [Bd]
noncomputable def sA : Str := Str.ofString "a"
noncomputable def sDot : Str := Str.ofString "."
noncomputable def wds : List (List Str) := [[], [sA], [sDot], [sA, sA], [sA, sDot], [sDot, sA], [sDot, sDot], [sA, sA, sDot]]
noncomputable def wdD (l : List Str) : D := .list (l.map .str)
noncomputable def lawXs (sc : List Int) : List Int := sc.take 3 ++ [1, 66, 147, 10, 18, 6, 35, 50]
noncomputable def lawPats (sc : List Int) : List Str := (lawXs sc).map patS
noncomputable def wordOf (l : List Str) : Str := Txt.join (Str.ofString "") l
noncomputable def takesRow (t : Str) : D := .list ((wds.filter fun l => takes t (wordOf l)).map wdD)
noncomputable def fitsRow (p : Str) : D := .list ((wds.filter fun l => fits p (wordOf l)).map wdD)
noncomputable def dueD (sc : List Int) : List D := (lawPats sc).map fitsRow
noncomputable def laidF (rows : List D) : List D := rows.foldl (fun acc r => dedup (acc ++ asL r)) []
noncomputable def keptF (rows : List D) : List D := rows.foldl keptD []
/-- the plain facts -/
structure LawF (sc : List Int) : Prop where
  okp : ∀ p ∈ lawPats sc, (∀ i : Nat, i < p.length → okSign (Txt.item p i)) ∧ p.length ≤ 8 ∧ (transS p).length ≤ 2 ^ 10
  same : ∀ p ∈ lawPats sc, takesRow (transS p) = fitsRow p
  cmp : ∀ a ∈ dueD sc, ∀ b ∈ dueD sc, cmpD (asL a) (asL b ++ (asL b).reverse) = D.eqb a b
  sort : ∃ (ltf : Nat → Nat → Bool) (p : Array Nat), runB (dueD sc).length ltf (kas_sort (dueD sc).length) = some p ∧ p.size ≤ 2 ^ 20 ∧
    (∀ i j la lb, (dueD sc)[i]? = some (.list la) → (dueD sc)[j]? = some (.list lb) → ltf i j = decide ((la.length : Int) - lb.length < 0)) ∧ (p.toList.map fun i => (dueD sc).getD i .none) = ordered (dueD sc)
  laid : ∀ R ∈ [dueD sc, ordered (dueD sc), (ordered (dueD sc)).reverse], laidF R = dedup (R.flatMap asL)
  l01 : cmpD (dedup ((dueD sc).flatMap asL)) (dedup ((ordered (dueD sc)).flatMap asL)) = true
  l12 : cmpD (dedup ((ordered (dueD sc)).flatMap asL)) (dedup ((ordered (dueD sc)).reverse.flatMap asL)) = true
  kept : keptF (dueD sc) = dedup (dueD sc)
  ordMem : ∀ d ∈ ordered (dueD sc), d ∈ dueD sc

noncomputable def bodyAt (K : Frag) (f : Addr) : List Stmt := match K.lookup f with
  | some ⟨_, _, .func fd, _⟩ => (match fd.body with | .stmts b => b | _ => [])
  | _ => []
noncomputable def scopeAt (K : Frag) (f : Addr) : Scope := match K.lookup f with
  | some ⟨_, _, .func fd, _⟩ => fd.scope
  | _ => default
theorem law_open {w : World} {P : List Stmt → Scope → Prop} {name qual : Str} {params : Arguments} {body : List Stmt} {scope : Scope} {dV kV doc pm cdv ct oc : Value} {an od : Option Addr} {osl : Array (Option Value)}
    (ho : (K39 w.params).lookup 141 = some ⟨oc, od, .func (fnOf name qual params body scope dV kV doc pm an cdv ct), osl⟩) (h : P body scope) : P (bodyAt (K39 w.params) 141) (scopeAt (K39 w.params) 141) := by
  unfold bodyAt scopeAt
  rw [ho]; exact h
section
variable {w : World} {n : Nat} {M : List Addr}
theorem cp_isB {a b : Bool} : Cp w n M .Is (.bool a) (.bool b) (a == b) := fun h v1 v2 x y A s ao k => by
  simp only [Den] at x y; subst x; subst y
  cases a <;> cases b
  · exact wpAny_is_self rfl (Then.here rfl)
  · exact wpAny_is_other rfl (by simp) (Then.here rfl)
  · exact wpAny_is_other rfl (by simp) (Then.here rfl)
  · exact wpAny_is_self rfl (Then.here rfl)
theorem cp_isNotB {a b : Bool} : Cp w n M .IsNot (.bool a) (.bool b) (!(a == b)) := fun h v1 v2 x y A s ao k => by
  simp only [Den] at x y; subst x; subst y
  cases a <;> cases b
  · exact wpAny_isNot_self rfl (Then.here rfl)
  · exact wpAny_isNot_other rfl (by simp) (Then.here rfl)
  · exact wpAny_isNot_other rfl (by simp) (Then.here rfl)
  · exact wpAny_isNot_self rfl (Then.here rfl)
end
theorem wd_ty (l : List Str) : HasTy (.list .str) (wdD l) := by
  unfold wdD
  exact hasTy_list.mpr fun x mx => by obtain ⟨s, _, rfl⟩ := List.mem_map.mp mx; trivial
theorem row_ty {q : List Str → Bool} : HasTy (.list (.list .str)) (.list ((wds.filter q).map wdD)) := hasTy_list.mpr fun x mx => by
  obtain ⟨l, _, rfl⟩ := List.mem_map.mp mx; exact wd_ty l
theorem row_len {q : List Str → Bool} : ((wds.filter q).map wdD).length ≤ 8 := by
  rw [List.length_map]; exact Nat.le_trans (List.length_filter_le _ _) (by decide)
theorem due_row {sc : List Int} {d : D} (h : d ∈ dueD sc) : ∃ q : List Str → Bool, d = .list ((wds.filter q).map wdD) := by
  obtain ⟨p, _, rfl⟩ := List.mem_map.mp h
  exact ⟨_, rfl⟩
theorem due_ty {sc : List Int} {d : D} (h : d ∈ dueD sc) : HasTy (.list (.list .str)) d := by obtain ⟨q, rfl⟩ := due_row h; exact row_ty
theorem due_len {sc : List Int} {d : D} (h : d ∈ dueD sc) : ∃ l, d = .list l ∧ l.length ≤ 8 := by obtain ⟨q, rfl⟩ := due_row h; exact ⟨_, rfl, row_len⟩
theorem xs_len (sc : List Int) : 8 ≤ (lawXs sc).length ∧ (lawXs sc).length ≤ 11 := by
  unfold lawXs
  rw [List.length_append, List.length_take]
  show 8 ≤ min 3 sc.length + 8 ∧ min 3 sc.length + 8 ≤ 11
  omega
theorem due_n (sc : List Int) : 8 ≤ (dueD sc).length ∧ (dueD sc).length ≤ 11 := by
  unfold dueD lawPats
  rw [List.length_map, List.length_map]; exact xs_len sc
end Mine
end
section
open PySem PySem.W PySem.Calls PyProof.Rows
set_option maxRecDepth 100000
set_option maxHeartbeats 1000000
namespace Mine
variable [Bd]
theorem filt_true {α : Type} {L : List α} : L.filter (fun _ => true) = L := List.filter_eq_self.mpr fun _ _ => rfl
theorem sxA {w : World} {n : Nat} {fr : Option Addr} {env : Env} {M₀ X : List Addr} {h₀ h : Heap} {ρ : List (Str × D)} {σ : List (Addr × List D)} (d : D) (F : FS env M₀ X h₀ h ρ σ) (y : Str) (px pos : Pos) (e : Expr) (Q : Flow → Heap → Prop) (x : Ev w n env (X ++ M₀) h e d) (H : ∀ h', FS env M₀ X h₀ h' ((y, d) :: ρ) σ → Q .next h')
    (hk : env.kindOf y = some .local ∨ (env.kindOf y = some .cell ∧ (env.cells.lookup y).isSome = true)) (hs : swapsWith e (some (.Name y px)) pos.line env = pure false) : Sx w n fr (exec (.Assign [.Name y px] e pos) env) h Q := sx_assign F x H hk hs
noncomputable def lit0 : Expr → Option Str
  | .Constant (.str s) _ _ => some s
  | _ => none
noncomputable def lit1 : Expr → Option (List Str)
  | .List es _ => es.mapM lit0
  | _ => none
noncomputable def lit2 : Expr → Option (List (List Str))
  | .List es _ => es.mapM lit1
  | _ => none
section
variable {w : World} {n : Nat} {env : Env} {M : List Addr} {h : Heap}
theorem exl_lit0 (pos : Pos) : ∀ (es : List Expr) (ss : List Str), es.mapM lit0 = some ss → ExL w n env M h pos es (ss.map .str)
  | [], ss, e => by
    have : ss = [] := by simpa using e.symm
    subst this; exact exl_nil
  | x :: es, ss, e => by
    rw [List.mapM_cons] at e
    cases q : lit0 x with
    | none => rw [q] at e; cases e
    | some s =>
      rw [q] at e
      cases q2 : es.mapM lit0 with
      | none => rw [q2] at e; cases e
      | some r =>
        rw [q2] at e
        have : ss = s :: r := (Option.some.inj e).symm
        subst this
        unfold lit0 at q
        split at q
        · cases q
          exact exl_cons ev_str (exl_lit0 pos es r q2)
        · cases q
theorem exl_lit1 (pos : Pos) (F : MOk M h) : ∀ (es : List Expr) (ss : List (List Str)), es.mapM lit1 = some ss → (∀ s ∈ ss, s.length ≤ 2 ^ 24) → ExL w n env M h pos es (ss.map wdD)
  | [], ss, e, _ => by
    have : ss = [] := by simpa using e.symm
    subst this; exact exl_nil
  | x :: es, ss, e, hl => by
    rw [List.mapM_cons] at e
    cases q : lit1 x with
    | none => rw [q] at e; cases e
    | some s =>
      rw [q] at e
      cases q2 : es.mapM lit1 with
      | none => rw [q2] at e; cases e
      | some r =>
        rw [q2] at e
        have : ss = s :: r := (Option.some.inj e).symm
        subst this
        unfold lit1 at q
        split at q
        · rename_i es1 p1
          exact exl_cons (ev_list F (exl_lit0 _ es1 s q) (by rw [List.length_map]; exact hl s (.head _))) (exl_lit1 pos F es r q2 fun t m => hl t (.tail _ m))
        · cases q
theorem ev_lit2 (F : MOk M h) (e : Expr) (ss : List (List Str)) (hl : lit2 e = some ss) (h1 : ss.length ≤ 2 ^ 24) (h2 : ∀ s ∈ ss, s.length ≤ 2 ^ 24) : Ev w n env M h e (.list (ss.map wdD)) := by
  unfold lit2 at hl
  split at hl
  · rename_i es p
    exact ev_list F (exl_lit1 _ F es ss hl h2) (by rw [List.length_map]; exact h1)
  · cases hl
end
theorem wds_ok : wds.length ≤ 2 ^ 24 ∧ ∀ s ∈ wds, s.length ≤ 2 ^ 24 := by
  have : wds.length ≤ 8 ∧ ∀ s ∈ wds, s.length ≤ 8 := by decide +kernel
  exact ⟨Nat.le_trans this.1 (by decide), fun s m => Nat.le_trans (this.2 s m) (by decide)⟩
theorem taken_eq {sc : List Int} (LF : LawF sc) : (lawPats sc).map (fun p => takesRow (transS p)) = dueD sc := List.map_congr_left fun p hp => LF.same p hp
theorem word_ok : ∀ l ∈ wds, JoinOk (Str.ofString "") l = true ∧ (wordOf l).length ≤ 2 ^ 10 := by decide +kernel
noncomputable def LawEnd (h₀ : Heap) (f : Flow) (h' : Heap) : Prop := f = .ret (.bool true) ∧ ∃ h₁, Leap [85, 138] h₀ h₁ ∧ Stay h₁ h' ∧ Tabs [85, 138] h'
noncomputable abbrev lawEnv (w : World) (L fa : Addr) : Env := envOfC (Str.ofString "law") (scopeAt (K39 w.params) 141) L fa (.ref 140)
noncomputable abbrev rho5 (sc : List Int) : List (Str × D) := [(Str.ofString "due", .list (dueD sc)), (Str.ofString "taken", .list (dueD sc))]
theorem law_A {w : World} {n : Nat} {fr : Option Addr} {L fa : Addr} {Y : List Addr} {h₀ h' : Heap} {sc : List Int} {Q : Flow → Heap → Prop} (hsc : sc.length ≤ 63) (LF : LawF sc) (X₀ : TR w h₀)
    (F : FS (lawEnv w L fa) [] Y h₀ h' [(Str.ofString "script", .list (sc.map .int))] [])
    (KK : ∀ h5, FS (lawEnv w L fa) [] Y h₀ h5 (rho5 sc) [] → Sx w (n + 10) fr (execs ((bodyAt (K39 w.params) 141).drop 5) (lawEnv w L fa)) h5 Q) :
    Sx w (n + 10) fr (execs (bodyAt (K39 w.params) 141) (lawEnv w L fa)) h' Q := by
  revert F KK
  refine law_open (P := fun body scope => FS (envOfC (Str.ofString "law") scope L fa (.ref 140)) [] Y h₀ h' [(Str.ofString "script", .list (sc.map .int))] [] →
    (∀ h5, FS (envOfC (Str.ofString "law") scope L fa (.ref 140)) [] Y h₀ h5 (rho5 sc) [] → Sx w (n + 10) fr (execs (body.drop 5) (envOfC (Str.ofString "law") scope L fa (.ref 140))) h5 Q) →
    Sx w (n + 10) fr (execs body (envOfC (Str.ofString "law") scope L fa (.ref 140))) h' Q) (by with_unfolding_all rfl) ?_
  intro F KK
  have hxs := xs_len sc
  have hdn := due_n sc
  -- patterns
  refine sx_cons (sx_compM (α := Int) (L := lawXs sc) (g := .int) (p := fun _ => true) (f := fun x => .str (patS x)) (out := (lawPats sc).map .str) F (by rfl) ?_ (by rw [filt_true]; unfold lawPats; rw [List.map_map]; rfl) (fun a ha M' C h2 k2 G => tests_nil) ?_ (by omega) fun h1 F1 => ?_)
  · have e : (lawXs sc).map D.int = (sc.map D.int).take 3 ++ [.int 1, .int 66, .int 147, .int 10, .int 18, .int 6, .int 35, .int 50] := by unfold lawXs; simp
    rw [e, ← pickD_take (k := 3)]
    refine ev_bin F.fd.mok (ev_slice_list (l := none) (u := some 3) (t := none) F.fd.mok (ev_local (d := .list (sc.map .int)) F.fd rfl) pt_none (pt_some ev_int) pt_none (by simp) (by simp; omega)) (ev_list F.fd.mok (exl_cons ev_int (exl_cons ev_int (exl_cons ev_int (exl_cons ev_int (exl_cons ev_int (exl_cons ev_int (exl_cons ev_int (exl_cons ev_int exl_nil)))))))) (by decide)) (bin_addl ?_)
    have e3 : pickD (sc.map D.int) none (some 3) none = (sc.map D.int).take 3 := pickD_take (k := 3)
    rw [e3]
    show ((sc.map D.int).take 3).length + 8 ≤ sizeLine
    rw [sizeLine_eq, List.length_take]; omega
  · intro x hx M' C h2 _ k2 G
    have X2 := X₀.stays (stays_trans F.base k2)
    exact ev_def1 X2 (by with_unfolding_all rfl) (by with_unfolding_all rfl) (ev_local (d := .int x) G rfl) fun h3 v k3 q => spec_pattern (X2.stays k3) (G.mok.stays k3) q (by omega)
  -- names
  refine sx_cons ?_
  refine sxA (.list (wds.map wdD)) F1 _ _ _ _ _ ?_ ?_ ?_ ?_
  rotate_left 2
  · exact .inr ⟨rfl, rfl⟩
  · rfl
  · refine ev_lit2 ?_ _ _ ?_ ?_ ?_
    · exact F1.fd.mok
    · rfl
    · exact wds_ok.1
    · exact wds_ok.2
  intro h2 F2
  -- made
  refine sx_cons (sx_compM (α := Str) (L := lawPats sc) (g := .str) (p := fun _ => true) (f := fun p => .str (transS p)) (out := (lawPats sc).map fun p => .str (transS p)) F2 (by rfl) (ev_local (d := .list ((lawPats sc).map .str)) F2.fd rfl) (by rw [filt_true]) (fun a ha M' C h3 k3 G => tests_nil) ?_ (by unfold lawPats; rw [List.length_map]; omega) fun h3 F3 => ?_)
  · intro p hp M' C h3 _ k3 G
    have X2 := X₀.stays (stays_trans F2.base k3)
    obtain ⟨ok1, ok2, _⟩ := LF.okp p hp
    exact ev_def1 X2 (by with_unfolding_all rfl) (by with_unfolding_all rfl) (ev_local (d := .str p) G rfl) fun h4 v k4 q => spec_translate (X2.stays k4) (G.mok.stays k4) q ok1 ok2 (by omega)
  -- taken
  have hpl : (lawPats sc).length ≤ 11 := by unfold lawPats; rw [List.length_map]; omega
  refine sx_cons ?_
  refine sxA (.list (dueD sc)) F3 _ _ _ _ _ ?_ ?_ ?_ ?_
  rotate_left 2
  · exact .inr ⟨rfl, rfl⟩
  · rfl
  · rw [← taken_eq LF, ← filt_true (L := lawPats sc)]
    refine ev_compCM (α := Str) (g := fun p => .str (transS p)) (f := fun p => takesRow (transS p)) F3.fd (by rfl) (fun _ _ => by rfl) (fun _ => by rfl) (ev_local (d := .list ((lawPats sc).map fun p => .str (transS p))) F3.fd rfl) (fun a ha M' C Xa h4 k4 G => tests_nil) ?_ (by omega)
    intro p hp M' C Xa h4 _ k4 G
    have X4 := X₀.stays (stays_trans F3.base k4)
    obtain ⟨_, _, ok3⟩ := LF.okp p hp
    refine ev_compM (α := List Str) (L := wds) (g := wdD) (p := fun l => takes (transS p) (wordOf l)) (f := wdD) G (by rfl) (ev_cell (d := .list (wds.map wdD)) G rfl) ?_ ?_ (by decide)
    · intro l hl M2 C2 h5 k5 G2
      obtain ⟨w1, w2⟩ := word_ok l hl
      refine tests_one (tr_plain (d := .bool (takes (transS p) (wordOf l))) (ev_def2 (X4.stays k5) (by with_unfolding_all rfl) (by with_unfolding_all rfl) (ev_cell (d := .str (transS p)) G2 rfl) (ev_join (l := l) ev_str (ev_local (d := wdD l) G2 rfl) w1) fun h6 v v₂ k6 q1 q2 => spec_takes ((X4.stays k5).stays k6) (G2.mok.stays k6) q1 q2 w2 ok3 (by omega)) rfl)
    · intro l hl M2 C2 h5 _ k5 G2
      exact ev_local (d := wdD l) G2 rfl
  intro h4 F4
  -- due
  refine sx_cons ?_
  refine sxA (.list (dueD sc)) F4 _ _ _ _ _ ?_ ?_ ?_ ?_
  rotate_left 2
  · exact .inr ⟨rfl, rfl⟩
  · rfl
  · unfold dueD
    rw [← filt_true (L := lawPats sc)]
    refine ev_compCM (α := Str) (g := fun p => .str p) (f := fitsRow) F4.fd (by rfl) (fun _ _ => by rfl) (fun _ => by rfl) (ev_local (d := .list ((lawPats sc).map .str)) F4.fd rfl) (fun a ha M' C Xa h5 k5 G => tests_nil) ?_ (by omega)
    intro p hp M' C Xa h5 _ k5 G
    have X5 := X₀.stays (stays_trans F4.base k5)
    refine ev_compM (α := List Str) (L := wds) (g := wdD) (p := fun l => fits p (wordOf l)) (f := wdD) G (by rfl) (ev_cell (d := .list (wds.map wdD)) G rfl) ?_ ?_ (by decide)
    · intro l hl M2 C2 h6 k6 G2
      obtain ⟨w1, w2⟩ := word_ok l hl
      refine tests_one (tr_plain (d := .bool (fits p (wordOf l))) (ev_def2 (X5.stays k6) (by with_unfolding_all rfl) (by with_unfolding_all rfl) (ev_cell (d := .str p) G2 rfl) (ev_join (l := l) ev_str (ev_local (d := wdD l) G2 rfl) w1) fun h7 v v₂ k7 q1 q2 => spec_fits ((X5.stays k6).stays k7) (G2.mok.stays k7) q1 q2 w2 (by omega)) rfl)
    · intro l hl M2 C2 h6 _ k6 G2
      exact ev_local (d := wdD l) G2 rfl
  intro h5 F5
  exact KK h5 F5.names
end Mine
end
section
open PySem PySem.W PySem.Calls PyProof.Rows
set_option maxRecDepth 100000
set_option maxHeartbeats 1000000
namespace Mine
variable [Bd]
noncomputable abbrev alikeD (sc : List Int) : List D := (dueD sc).map fun other => .list ((dueD sc).map fun one => .bool (D.eqb one other))
theorem eqbs_refl (l : List D) : D.eqbs l l = true := eqbs_iff.mpr rfl
theorem eqb_due {sc : List Int} {a b : D} (ha : a ∈ dueD sc) (hb : b ∈ dueD sc) : D.eqb a b = D.eqbs (asL a) (asL b) := by
  obtain ⟨q, rfl⟩ := due_row ha; obtain ⟨q', rfl⟩ := due_row hb; rfl
theorem due_tyL (sc : List Int) : HasTy (.list (.list (.list .str))) (.list (dueD sc)) := hasTy_list.mpr fun x m => due_ty m
theorem map_self {α : Type} (l : List α) : l.map (fun d => d) = l := by simp
section
variable {α : Type} {w : World} {n : Nat} {env : Env} {M : List Addr} {h : Heap} {ρ : List (Str × D)} {elt iter : Expr} {x : Str} {px pos : Pos} {scope : Scope} {L : List α} {g f : α → D}
theorem ev_compM1 (F : FD env M h ρ) (ok : compOk scope env x ρ = true) (hiter : Ev w n env M h iter (.list (L.map g)))
    (helt : ∀ a ∈ L, ∀ M' C h', Stay h h' → FD (cEnv scope env C) M' h' ((x, g a) :: ρ) → Ev w n (cEnv scope env C) M' h' elt (f a))
    (hN : L.length ≤ 2 ^ 20) (hs : ∀ x, foldedSetIterable iter env x = pure x := by intro _; rfl) :
    Ev w n env M h (.ListComp elt [⟨.Name x px, iter, [], 0⟩] scope pos) (.list (L.map f)) := by
  have := ev_compM (px := px) (pos := pos) (p := fun _ => true) (f := f) F ok hiter (fun a ha M' C h' k G => tests_nil) (fun a ha M' C h' _ k G => helt a ha M' C h' k G) hN hs
  rwa [filt_true] at this
theorem ev_compCM1 (F : FD env M h ρ) (ok : compOkC scope env x ρ = true) (hcf : ∀ n cl, cellsFrom n scope.names cl = (x, n) :: cl) (hpc : ∀ h, pushCells h scope.names = h.push cellObj) (hiter : Ev w n env M h iter (.list (L.map g)))
    (helt : ∀ a ∈ L, ∀ M' C Xa h', Stay h h' → FD (cEnvX scope env x C Xa) M' h' ((x, g a) :: ρ) → Ev w n (cEnvX scope env x C Xa) M' h' elt (f a))
    (hN : L.length ≤ 2 ^ 20) (hs : ∀ x, foldedSetIterable iter env x = pure x := by intro _; rfl) :
    Ev w n env M h (.ListComp elt [⟨.Name x px, iter, [], 0⟩] scope pos) (.list (L.map f)) := by
  have := ev_compCM (px := px) (pos := pos) (p := fun _ => true) (f := f) F ok hcf hpc hiter (fun a ha M' C Xa h' k G => tests_nil) (fun a ha M' C Xa h' _ k G => helt a ha M' C Xa h' k G) hN hs
  rwa [filt_true] at this
end
theorem beq_true' (b : Bool) : (b == true) = b := by cases b <;> rfl
theorem law_B {w : World} {n : Nat} {fr : Option Addr} {L fa : Addr} {Y : List Addr} {h₀ h' : Heap} {sc : List Int} {Q : Flow → Heap → Prop} (LF : LawF sc) (X₀ : TR w h₀)
    (F : FS (lawEnv w L fa) [] Y h₀ h' (rho5 sc) [])
    (KK : ∀ h5, FS (lawEnv w L fa) [] Y h₀ h5 (rho5 sc) [] → Sx w (n + 10) fr (execs ((bodyAt (K39 w.params) 141).drop 9) (lawEnv w L fa)) h5 Q) :
    Sx w (n + 10) fr (execs ((bodyAt (K39 w.params) 141).drop 5) (lawEnv w L fa)) h' Q := by
  revert F KK
  refine law_open (P := fun body scope => FS (envOfC (Str.ofString "law") scope L fa (.ref 140)) [] Y h₀ h' (rho5 sc) [] →
    (∀ h5, FS (envOfC (Str.ofString "law") scope L fa (.ref 140)) [] Y h₀ h5 (rho5 sc) [] → Sx w (n + 10) fr (execs (body.drop 9) (envOfC (Str.ofString "law") scope L fa (.ref 140))) h5 Q) →
    Sx w (n + 10) fr (execs (body.drop 5) (envOfC (Str.ofString "law") scope L fa (.ref 140))) h' Q) (by with_unfolding_all rfl) ?_
  intro F KK
  have hdn := due_n sc
  -- if taken != due
  refine sx_cons ?_
  refine sx_if (b := !D.eqbs (dueD sc) (dueD sc)) ?_ ?_ ?_
  · exact tr_cmp (M := Y ++ []) (ev_cell (d := .list (dueD sc)) F.fd rfl) (ev_cell (d := .list (dueD sc)) F.fd rfl) (cp_nel (.list (.list .str)) (due_tyL sc) (due_tyL sc) (by omega) (by decide))
  · intro hb; rw [eqbs_refl] at hb; cases hb
  intro _ h6 k6
  refine sx_nil ?_
  have F6 := F.grow k6
  -- alike
  refine sx_cons (sx_compCM (α := D) (L := dueD sc) (g := fun d => d) (p := fun _ => true) (f := fun other => .list ((dueD sc).map fun one => .bool (D.eqb one other))) (out := alikeD sc) F6 (by rfl) (fun _ _ => by rfl) (fun _ => by rfl) ?_ (by rw [filt_true]) (fun a ha M' C Xa h7 k7 G => tests_nil) ?_ (by omega) fun h7 F7 => ?_)
  · rw [map_self]; exact ev_cell (d := .list (dueD sc)) F6.fd rfl
  · intro other ho M' C Xa h7 _ k7 G
    have X7 := X₀.stays (stays_trans F6.base k7)
    rw [← filt_true (L := dueD sc)]
    refine ev_compM (α := D) (L := dueD sc) (g := fun d => d) (f := fun one => .bool (D.eqb one other)) G (by rfl) ?_ (fun a ha M2 C2 h8 k8 G2 => tests_nil) ?_ (by omega)
    · rw [map_self]; exact ev_cell (d := .list (dueD sc)) G rfl
    · intro one hone M2 C2 h8 _ k8 G2
      have X8 := X7.stays k8
      rw [← LF.cmp one hone other ho]
      have to := due_ty ho
      have t1 := due_ty hone
      obtain ⟨lo, rfl, hlo⟩ := due_len ho
      obtain ⟨l1, rfl, hl1⟩ := due_len hone
      have tl : HasTy (.list (.list .str)) (.list (lo ++ lo.reverse)) := hasTy_list.mpr fun x m => by
        rcases List.mem_append.mp m with m | m
        · exact hasTy_list.mp to x m
        · exact hasTy_list.mp to x (List.mem_reverse.mp m)
      show Ev w (n + 10) _ M2 h8 _ (.bool (cmpD l1 (lo ++ lo.reverse)))
      refine ev_def2 X8 (by with_unfolding_all rfl) (by with_unfolding_all rfl) (d := .list l1) (d₂ := .list (lo ++ lo.reverse)) (ev_local (d := .list l1) G2 rfl) ?_ fun h9 v v₂ k9 q1 q2 => spec_cmp (.list .str) (by decide) (X8.stays k9) (G2.mok.stays k9) q1 q2 t1 tl (by omega) (by rw [List.length_append, List.length_reverse]; omega) (by omega)
      rw [← pickD_rev]
      refine ev_bin G2.mok (ev_cell (d := .list lo) G2 rfl) (ev_slice_list (l := none) (u := none) (t := some (-1)) G2.mok (ev_cell (d := .list lo) G2 rfl) pt_none pt_none (pt_some (ev_neg ev_int)) (by decide) (by omega)) (bin_addl ?_)
      rw [pickD_rev, List.length_reverse, sizeLine_eq]; omega
  -- the tables of answers
  have talike : HasTy (.list (.list .bool)) (.list (alikeD sc)) := hasTy_list.mpr fun x m => by
    obtain ⟨o, _, rfl⟩ := List.mem_map.mp m
    exact hasTy_list.mpr fun y m2 => by obtain ⟨p, _, rfl⟩ := List.mem_map.mp m2; trivial
  refine sx_cons ?_
  refine sx_if (b := !D.eqbs (alikeD sc) (alikeD sc)) ?_ ?_ ?_
  · refine tr_cmp (M := Y ++ []) ?_ ?_ (cp_nel (.list .bool) talike talike (by omega) (by decide))
    · refine ev_compM1 (α := D) (L := dueD sc) (g := fun other => .list ((dueD sc).map fun one => .bool (D.eqb one other))) (f := fun other => .list ((dueD sc).map fun one => .bool (D.eqb one other))) F7.fd (by rfl) (ev_local (d := .list (alikeD sc)) F7.fd rfl) ?_ (by omega)
      intro other ho M2 C2 h8 k8 G2
      refine ev_compM1 (α := D) (L := dueD sc) (g := fun one => .bool (D.eqb one other)) (f := fun one => .bool (D.eqb one other)) G2 (by rfl) (ev_local (d := .list ((dueD sc).map fun one => .bool (D.eqb one other))) G2 rfl) ?_ (by omega)
      intro one hone M3 C3 h9 k9 G3
      refine Ex.post (P := fun v h' => Den M3 h' (.bool (D.eqb one other == true)) v) ?_ fun v h' _ q => by rwa [beq_true'] at q
      exact ev_cmp (M := M3) (ev_local (d := .bool (D.eqb one other)) G3 rfl) (ev_bool (b := true)) cp_isB
    · refine ev_compCM1 (α := D) (L := dueD sc) (g := fun d => d) (f := fun other => .list ((dueD sc).map fun one => .bool (D.eqb one other))) F7.fd (by rfl) (fun _ _ => by rfl) (fun _ => by rfl) (by rw [map_self]; exact ev_cell (d := .list (dueD sc)) F7.fd rfl) ?_ (by omega)
      intro other ho M2 C2 Xa h8 k8 G2
      refine ev_compM1 (α := D) (L := dueD sc) (g := fun d => d) (f := fun one => .bool (D.eqb one other)) G2 (by rfl) (by rw [map_self]; exact ev_cell (d := .list (dueD sc)) G2 rfl) ?_ (by omega)
      intro one hone M3 C3 h9 k9 G3
      rw [eqb_due hone ho]
      have to := due_ty ho
      have t1 := due_ty hone
      obtain ⟨lo, rfl, hlo⟩ := due_len ho
      obtain ⟨l1, rfl, hl1⟩ := due_len hone
      exact ev_cmp (M := M3) (ev_local (d := .list l1) G3 rfl) (ev_cell (d := .list lo) G3 rfl) (cp_eql (.list .str) t1 to (by omega) (by decide))
  · intro hb; rw [eqbs_refl] at hb; cases hb
  intro _ h8 k8
  refine sx_nil ?_
  have F8 := F7.grow k8
  -- every answer a bool
  refine sx_cons ?_
  refine sx_if (b := !D.eqbs ((alikeD sc).flatMap fun d => (asL d).filter fun _ => false) []) ?_ ?_ ?_
  · refine tr_cmp (M := Y ++ []) (ev_comp2_list (l := alikeD sc) (p := fun _ => false) (K := 11) F8.fd (by rfl) (by decide) (ev_local (d := .list (alikeD sc)) F8.fd rfl) ?_ ?_ (by rw [List.length_map]; omega)) (ev_list F8.fd.mok exl_nil (by decide)) (cp_nel .bool ?_ ?_ (by omega) (by decide))
    · intro d hd
      obtain ⟨o, _, rfl⟩ := List.mem_map.mp hd
      exact ⟨_, rfl, by rw [List.length_map]; omega⟩
    · intro d hd e he M2 C2 h9 k9 G2
      obtain ⟨o, _, rfl⟩ := List.mem_map.mp hd
      obtain ⟨p, _, rfl⟩ := List.mem_map.mp (show e ∈ (dueD sc).map _ from he)
      refine tests_one ?_
      have h0 : false = (!(D.eqb p o == true) && !(D.eqb p o == false)) := by cases D.eqb p o <;> rfl
      refine Ex.post (P := fun c _ => c = (!(D.eqb p o == true) && !(D.eqb p o == false))) ?_ fun v h' _ q => q.trans h0.symm
      exact tr_and2 (tr_cmp (M := M2) (ev_local (d := .bool (D.eqb p o)) G2 rfl) (ev_bool (b := true)) cp_isNotB) fun _ => tr_cmp (M := M2) (ev_local (d := .bool (D.eqb p o)) G2 rfl) (ev_bool (b := false)) cp_isNotB
    · exact hasTy_list.mpr fun x m => by
        obtain ⟨d, _, m2⟩ := List.mem_flatMap.mp m
        exact absurd (List.mem_filter.mp m2).2 (by decide)
    · exact hasTy_list.mpr fun x m => nomatch m
  · intro hb
    have e0 : ((alikeD sc).flatMap fun d => (asL d).filter fun _ => false) = [] := by
      rw [List.flatMap_eq_nil_iff]; intro d _; exact List.filter_eq_nil_iff.mpr fun _ _ => by decide
    rw [e0] at hb; cases hb
  intro _ h9 k9
  refine sx_nil ?_
  exact KK h9 ((F8.grow k9).names)
end Mine
end
section
open PySem PySem.W PySem.Calls PyProof.Rows
set_option maxRecDepth 100000
set_option maxHeartbeats 1000000
namespace Mine
variable [Bd]
/-- rows of at most eight names -/
noncomputable def Rows8 (R : List D) : Prop := R.length ≤ 11 ∧ ∀ d ∈ R, ∃ l, d = .list l ∧ l.length ≤ 8 ∧ HasTy (.list (.list .str)) (.list l)
theorem due_rows8 (sc : List Int) : Rows8 (dueD sc) := ⟨(due_n sc).2, fun d m => by
  have t := due_ty m
  obtain ⟨l, rfl, hl⟩ := due_len m
  exact ⟨l, rfl, hl, t⟩⟩
noncomputable def laidK (R : List D) (i : Nat) : List D := (R.take i).foldl (fun acc r => dedup (acc ++ asL r)) []
theorem foldl_take_succ {β : Type} {f : β → D → β} {b : β} {R : List D} {i : Nat} (h : i < R.length) : (R.take (i + 1)).foldl f b = f ((R.take i).foldl f b) (R.getD i .none) := by
  rw [List.take_add_one, List.foldl_append]
  simp [List.getD, h]
theorem laidK_ok {R : List D} (hR : Rows8 R) : ∀ i, i ≤ R.length → (laidK R i).length ≤ 8 * i ∧ HasTy (.list (.list .str)) (.list (laidK R i))
  | 0, _ => ⟨Nat.le_refl _, hasTy_list.mpr fun x m => nomatch m⟩
  | i + 1, h => by
    obtain ⟨h1, h2⟩ := laidK_ok hR i (by omega)
    have e : laidK R (i + 1) = dedup (laidK R i ++ asL (R.getD i .none)) := foldl_take_succ (by omega)
    have hm : R.getD i .none ∈ R := by simp [List.getD, show i < R.length by omega]
    obtain ⟨l, el, hl, tl⟩ := hR.2 _ hm
    rw [e, el]
    have hl2 : (laidK R i ++ asL (.list l)).length ≤ 8 * i + 8 := by rw [List.length_append]; show _ + l.length ≤ _; omega
    refine ⟨Nat.le_trans (dedup_len _) (by omega), dedup_ty (hasTy_list.mpr fun x m => ?_)⟩
    rcases List.mem_append.mp m with m | m
    · exact hasTy_list.mp h2 x m
    · exact hasTy_list.mp tl x m
theorem red_laid {w : World} {m : Nat} {M : List Addr} {h : Heap} {R : List D} {v v₀ : Value} (hR : Rows8 R) (X : TR w h) (hM : MOk M h) (hv : Den M h (.list R) v) (hv₀ : Den M h (.list []) v₀) (hm : 4 ≤ m) :
    Cx w (m + 1) h (.call (.ref 99) ⟨[.ref 126, v, v₀], []⟩) (fun u h' => Den M h' (.list (laidF R)) u) := by
  have key := spec_reduce (m := m) (f := 126) (rows := R) (init := []) (acc := fun i => .list (laidK R i)) X hM hv hv₀ (by with_unfolding_all rfl) rfl ?_
  · have e : laidK R R.length = laidF R := by unfold laidK laidF; rw [List.take_length]
    rw [← e]; exact key
  · intro i M' h' va vb hi k hM' qa qb
    have hmem : R.getD i .none ∈ R := by simp [List.getD, hi]
    obtain ⟨l, el, hl, tl⟩ := hR.2 _ hmem
    obtain ⟨h1, h2⟩ := laidK_ok hR i (by omega)
    have e : laidK R (i + 1) = dedup (laidK R i ++ l) := by
      have e : laidK R (i + 1) = dedup (laidK R i ++ asL (R.getD i .none)) := foldl_take_succ hi
      rw [e, el]; rfl
    rw [el] at qb
    show Cx w m h' _ (fun u h'' => Den M' h'' (.list (laidK R (i + 1))) u)
    rw [e]
    exact spec_laid (.list .str) (by decide) (X.stays k) hM' qa qb h2 tl (by have := hR.1; omega) hm
noncomputable def keptK (R : List D) (i : Nat) : List D := (R.take i).foldl keptD []
theorem keptD_mem {a : List D} {r d : D} (h : d ∈ keptD a r) : d ∈ a ∨ d = r := by
  unfold keptD at h
  split at h
  · simpa using h
  · exact .inl h
theorem keptK_ok {R : List D} : ∀ i, i ≤ R.length → (keptK R i).length ≤ i ∧ ∀ d ∈ keptK R i, d ∈ R
  | 0, _ => ⟨Nat.le_refl _, fun d m => nomatch m⟩
  | i + 1, h => by
    obtain ⟨h1, h2⟩ := keptK_ok i (R := R) (by omega)
    have e : keptK R (i + 1) = keptD (keptK R i) (R.getD i .none) := foldl_take_succ (by omega)
    have hm : R.getD i .none ∈ R := by simp [List.getD, show i < R.length by omega]
    rw [e]
    refine ⟨?_, fun d m => (keptD_mem m).elim (h2 d) fun q => q ▸ hm⟩
    unfold keptD
    split
    · rw [List.length_append]; show _ + 1 ≤ _; omega
    · omega
theorem red_kept {w : World} {m : Nat} {M : List Addr} {h : Heap} {R : List D} {v v₀ : Value} (hR : Rows8 R) (X : TR w h) (hM : MOk M h) (hv : Den M h (.list R) v) (hv₀ : Den M h (.list []) v₀) (hm : 6 ≤ m) :
    Cx w (m + 1) h (.call (.ref 99) ⟨[.ref 131, v, v₀], []⟩) (fun u h' => Den M h' (.list (keptF R)) u) := by
  have key := spec_reduce (m := m) (f := 131) (rows := R) (init := []) (acc := fun i => .list (keptK R i)) X hM hv hv₀ (by with_unfolding_all rfl) rfl ?_
  · have e : keptK R R.length = keptF R := by unfold keptK keptF; rw [List.take_length]
    rw [← e]; exact key
  · intro i M' h' va vb hi k hM' qa qb
    have hmem : R.getD i .none ∈ R := by simp [List.getD, hi]
    obtain ⟨l, el, hl, tl⟩ := hR.2 _ hmem
    obtain ⟨h1, h2⟩ := keptK_ok (R := R) i (by omega)
    have e : keptK R (i + 1) = keptD (keptK R i) (.list l) := by
      have e : keptK R (i + 1) = keptD (keptK R i) (R.getD i .none) := foldl_take_succ hi
      rw [e, el]
    rw [el] at qb
    show Cx w m h' _ (fun u h'' => Den M' h'' (.list (keptK R (i + 1))) u)
    rw [e]
    refine spec_kept (.list .str) (by decide) (X.stays k) hM' qa qb (hasTy_list.mpr fun d md => ?_) tl (by have := hR.1; omega) (fun d md l' e' => ?_) (by omega) hm
    · obtain ⟨l2, e2, _, t2⟩ := hR.2 _ (h2 d md)
      rw [e2]; exact t2
    · obtain ⟨l2, e2, h3, t2⟩ := hR.2 _ (h2 d md)
      rw [e2] at e'; cases e'; omega
section
variable {w : World} {n : Nat} {env : Env} {M : List Addr} {h : Heap} {e : Expr} {p1 p2 p3 pos : Pos} {R : List D}
/-- reduce(f, rows, []) -/
theorem ev_reduce {fn : Str} {f : Addr} {out : List D} (X : TR w h) (hM : MOk M h) (hx : nsIn (K39 w.params) mainGlobals fn = some (some (.ref f))) (arg : Ev w n env M h e (.list R))
    (spec : ∀ h' v v₀, Stay h h' → Den M h' (.list R) v → Den M h' (.list []) v₀ → Cx w n h' (.call (.ref 99) ⟨[.ref f, v, v₀], []⟩) (fun u h'' => Den M h'' (.list out) u)) (hkind : env.scope.kind = .function := by rfl) (hk1 : env.kindOf (Str.ofString "reduce") = some .globalImplicit := by rfl) (hk2 : env.kindOf fn = some .globalImplicit := by rfl)
    (hg : env.globals = mainGlobals := by rfl) (hb : (fn == ("__debug__" : Str)) = false := by decide)
    (he : starEach [.Name fn p2, e, .List [] p3] env = (false, eval (.Name fn p2) env) :: starEach [e, .List [] p3] env := by rfl) (he2 : starEach [e, .List [] p3] env = (false, eval e env) :: starEach [.List [] p3] env := by rfl) (hplain : (backTo pos (starEach [e, .List [] p3] env)).any (·.1) = false := by rfl) :
    Ev w n env M h (.Call (.Name (Str.ofString "reduce") p1) [.Name fn p2, e, .List [] p3] [] pos) (.list out) :=
  ex_call X (ex_global X (by with_unfolding_all rfl) hkind hk1 hg (by decide)) (keep_def (by with_unfolding_all rfl)) (exl_cons (ev_global X hx hkind hk2 hg hb) (exl_cons arg (exl_cons (ev_list hM exl_nil (by decide)) exl_nil) he2) he) (fun h' vs k q => by
    simp only [Dens] at q
    obtain ⟨v1, r1, rfl, q1, v2, r2, rfl, q2, v3, r3, rfl, q3, rfl⟩ := q
    simp only [Den] at q1
    subst q1
    exact Ex.call (spec h' v2 v3 k q2 (by simp only [Den, Dens]; exact q3))) he hplain
end
end Mine
end
section
open PySem PySem.W PySem.Calls PyProof.Rows
set_option maxRecDepth 100000
set_option maxHeartbeats 1000000
namespace Mine
variable [Bd]
noncomputable def LawEnd2 (h₁ : Heap) (f : Flow) (h' : Heap) : Prop := f = .ret (.bool true) ∧ Stay h₁ h'
theorem ord_rows8 {sc : List Int} (LF : LawF sc) : Rows8 (ordered (dueD sc)) := by
  obtain ⟨ltf, p, h1, h2, h3, h4⟩ := LF.sort
  refine ⟨?_, fun d m => (due_rows8 sc).2 d (LF.ordMem d m)⟩
  have : (ordered (dueD sc)).length = (dueD sc).length := by
    unfold ordered orderedK
    have key : ∀ (l : List Nat) (o : List D), (l.foldl (ordStep (dueD sc)) o).length = o.length := by
      intro l
      induction l with
      | nil => intro o; rfl
      | cons a l ih => intro o; rw [List.foldl_cons, ih]; unfold ordStep; rw [List.length_set]
    rw [key, List.length_replicate]
  rw [this]; exact (due_n sc).2
theorem rev_rows8 {R : List D} (h : Rows8 R) : Rows8 R.reverse := ⟨by rw [List.length_reverse]; exact h.1, fun d m => h.2 d (List.mem_reverse.mp m)⟩
theorem rows8_ty {R : List D} (h : Rows8 R) : HasTy (.list (.list (.list .str))) (.list R) := hasTy_list.mpr fun d m => by obtain ⟨l, rfl, _, t⟩ := h.2 d m; exact t
theorem law_C {w : World} {n : Nat} {fr : Option Addr} {L fa : Addr} {Y : List Addr} {h₀ h' : Heap} {sc : List Int} (LF : LawF sc) (XB : TRB w h₀) (C89 : CodeHd h₀ 89 85) (T85 : h₀.get? 85 = some (tabObj #[])) (C140 : CodeHd h₀ 140 138) (T138 : h₀.get? 138 = some (tabObj #[]))
    (F : FS (lawEnv w L fa) [] Y h₀ h' (rho5 sc) [])
    (KK : ∀ h₁ h5, Leap [85, 138] h₀ h₁ → TRB w h₁ → Tabs [85, 138] h₁ → FS (lawEnv w L fa) [] Y h₁ h5 ((Str.ofString "ordered", .list (ordered (dueD sc))) :: rho5 sc) [] → Sx w (n + 10) fr (execs ((bodyAt (K39 w.params) 141).drop 10) (lawEnv w L fa)) h5 (LawEnd h₀)) :
    Sx w (n + 10) fr (execs ((bodyAt (K39 w.params) 141).drop 9) (lawEnv w L fa)) h' (LawEnd h₀) := by
  revert F KK
  refine law_open (P := fun body scope => FS (envOfC (Str.ofString "law") scope L fa (.ref 140)) [] Y h₀ h' (rho5 sc) [] →
    (∀ h₁ h5, Leap [85, 138] h₀ h₁ → TRB w h₁ → Tabs [85, 138] h₁ → FS (envOfC (Str.ofString "law") scope L fa (.ref 140)) [] Y h₁ h5 ((Str.ofString "ordered", .list (ordered (dueD sc))) :: rho5 sc) [] → Sx w (n + 10) fr (execs (body.drop 10) (envOfC (Str.ofString "law") scope L fa (.ref 140))) h5 (LawEnd h₀)) →
    Sx w (n + 10) fr (execs (body.drop 9) (envOfC (Str.ofString "law") scope L fa (.ref 140))) h' (LawEnd h₀)) (by with_unfolding_all rfl) ?_
  intro F KK
  have hdn := due_n sc
  obtain ⟨ltf, p, hrun, hp, hltf, hsort⟩ := LF.sort
  refine sx_cons ?_
  refine sx_ordered (rows := dueD sc) (ltf := ltf) (p := p) F ?_ ?_ ?_ XB C89 T85 C140 T138 ?_ ?_ ?_ ?_ ?_ ?_ ?_ ?_ ?_ ?_ ?_ ?_ hrun hp hltf ?_ ?_ ?_
  · rfl
  · rfl
  · decide
  · rfl
  · rfl
  · rfl
  · rfl
  · rfl
  · rfl
  · rfl
  · exact closureFor_clOf (by rfl)
  · intro pm c' ct
    exact ⟨_, _, _, _, _, _, _, _, _, _, _, _, _, _, _, _, _, rfl, rfl, fun u v => by rfl, by decide, rfl, rfl, rfl, by decide, rfl, rfl, rfl, by decide, by decide⟩
  · intro d m
    obtain ⟨l, e, hl⟩ := due_len m
    exact ⟨l, e, by omega⟩
  · omega
  · omega
  · intro h₁ h5 lp x1 t1 F1
    rw [hsort] at F1
    exact KK h₁ h5 lp x1 t1 F1
  · exact .inl rfl
  · rfl
end Mine
end
section
open PySem PySem.W PySem.Calls PyProof.Rows
set_option maxRecDepth 100000
set_option maxHeartbeats 1000000
namespace Mine
variable [Bd]
section
variable {w : World} {n : Nat} {env : Env} {M : List Addr} {h : Heap} {pos : Pos} {e : Expr}
theorem subscriptTail_T {A : Around} {E : Value → Shared → Prop} {s : Shared} {value slice : Expr} {o i : Value} {T id : String} {ops : List Value} {Q : Value → Shared → Prop} (hT : s.TypeIs o T)
    (hl : typeLookup (.type T) "__getitem__" = pure (some (.builtin id))) (h : wpAny (model Mine.prog w) A (getItem o i) Q E s)
    (hs : subscripted slice false o i = operate ops (getItem o i)) : wpAny (model Mine.prog w) A (subscriptTail value slice o i) Q E s := by
  unfold subscriptTail
  refine wpAny_bind ?_
  rw [getitemInPython_of_ne hT.not_modules]
  refine wpAny_bind (wpAny_specialOf hT hl ?_)
  have fin : wpAny (model Mine.prog w) A (subscripted slice false o i) (fun r s₃ => wpAny (model Mine.prog w) A (letTemporaryGo value o r >>= fun _ => pure r) Q E s₃) E s := by
    rw [hs]
    exact wpAny_operating (wpAny_mono h (fun r s₃ h₃ => wpAny_bind (wpAny_letTemporaryGo (wpAny_pure h₃))) fun _ _ x => x)
  first
    | exact wpAny_pure (wpAny_bind fin)
    | exact wpAny_bind (wpAny_pure (wpAny_bind fin))
    | exact wpAny_bind fin
theorem ev_slice_listT {ds : List D} {lo hi st : Option Expr} {l u t : Option Int} {sp : Pos} (F : MOk M h) (z : Ev w n env M h e (.list ds)) (x1 : Pt w n env h lo l) (x2 : Pt w n env h hi u) (x3 : Pt w n env h st t) (h0 : t ≠ some 0) (hy : ds.length < 2 ^ 24)
    (hs : ∀ r q, ∃ ops, subscripted (.Slice lo hi st sp) false (.ref r) (.ref q) = operate ops (getItem (.ref r) (.ref q)) := by intro _ _; exact ⟨_, rfl⟩) : Ev w n env M h (.Subscript e (.Slice lo hi st sp) pos) (.list (pickD ds l u t)) := fun A s a k =>
  Subscript_ (z.run a k fun v1 h1' t1 k1 a p1 => (ex_slice (w := w) (n := n) (env := env) (pos := sp) x1 x2 x3).run a (stays_trans k k1) fun v2 h2' t2 k2 a p2 => by
    have p1 := p1.stays k2
    simp only [Den] at p1
    obtain ⟨r, vs, rfl, _, hl, dl⟩ := p1
    obtain ⟨sl, vl, vu, vt, rfl, hsl, q1, q2, q3⟩ := p2
    obtain ⟨ops, hops⟩ := hs r sl
    have hlen := dl.length
    refine subscriptTail_T (hl.typeIs (s := { s with heap := h2', toks := t2 })) list_getitem_lookup ?_ hops
    refine wpAny_getItem_list_slice hl ⟨_, hsl, rfl, rfl⟩ (isPart_of q1) (isPart_of q2) (isPart_of q3) h0 ?_ (by show vs.toArray.size ≤ 2 ^ 24; simp [hlen]; omega)
    have hM : MOk M h2' := F.stays (stays_trans k (stays_trans k1 k2))
    refine Then.mk (stays_trans k1 (stays_trans k2 (push_stays _ _))) (.of_list hM.fresh (vs := (sliceRange (sliceBounds l u t ds.length).1 (sliceBounds l u t ds.length).2.1 (sliceBounds l u t ds.length).2.2).filterMap (vs[·]?)) ?_ ((dl.pick _).stays (push_stays _ _)))
    have : slicePick vs.toArray l u t = ((sliceRange (sliceBounds l u t ds.length).1 (sliceBounds l u t ds.length).2.1 (sliceBounds l u t ds.length).2.2).filterMap (vs[·]?)).toArray := by
      unfold slicePick; simp [hlen]
    rw [this]
    exact isList_push)
end
end Mine
end
section
open PySem PySem.W PySem.Calls PyProof.Rows
set_option maxRecDepth 100000
set_option maxHeartbeats 1000000
namespace Mine
variable [Bd]
theorem flat_len8 {R : List D} (h : Rows8 R) : (R.flatMap asL).length ≤ 88 := by
  obtain ⟨h1, h2⟩ := h
  have : (R.flatMap asL).length ≤ R.length * 8 := by
    clear h1
    induction R with
    | nil => simp
    | cons a l ih =>
      obtain ⟨r, e, hr, _⟩ := h2 a (.head _)
      have := ih fun d hd => h2 d (.tail _ hd)
      subst e
      rw [List.flatMap_cons, List.length_append, List.length_cons, Nat.succ_mul]
      show r.length + _ ≤ _
      omega
  omega
theorem once_ty {R : List D} (h : Rows8 R) : HasTy (.list (.list .str)) (.list (dedup (R.flatMap asL))) := dedup_ty (hasTy_list.mpr fun x m => by
  obtain ⟨d, hd, hx⟩ := List.mem_flatMap.mp m
  obtain ⟨l, rfl, _, t⟩ := h.2 d hd
  exact hasTy_list.mp t x hx)
theorem once_len {R : List D} (h : Rows8 R) : (dedup (R.flatMap asL)).length ≤ 88 := Nat.le_trans (dedup_len _) (flat_len8 h)
theorem law_D {w : World} {n : Nat} {fr : Option Addr} {L fa : Addr} {Y : List Addr} {h₀ h' : Heap} {sc : List Int} (LF : LawF sc) (X₀ : TR w h₀)
    (F : FS (lawEnv w L fa) [] Y h₀ h' ((Str.ofString "ordered", .list (ordered (dueD sc))) :: rho5 sc) []) :
    Sx w (n + 10) fr (execs ((bodyAt (K39 w.params) 141).drop 10) (lawEnv w L fa)) h' (LawEnd2 h₀) := by
  revert F
  refine law_open (P := fun body scope => FS (envOfC (Str.ofString "law") scope L fa (.ref 140)) [] Y h₀ h' ((Str.ofString "ordered", .list (ordered (dueD sc))) :: rho5 sc) [] →
    Sx w (n + 10) fr (execs (body.drop 10) (envOfC (Str.ofString "law") scope L fa (.ref 140))) h' (LawEnd2 h₀)) (by with_unfolding_all rfl) ?_
  intro F
  have hdn := due_n sc
  have r1 := due_rows8 sc
  have r2 := ord_rows8 LF
  have r3 := rev_rows8 r2
  obtain ⟨O, hO⟩ : ∃ O, O = ordered (dueD sc) := ⟨_, rfl⟩
  obtain ⟨U, hU⟩ : ∃ U, U = dueD sc := ⟨_, rfl⟩
  have lenOk : ∀ R, Rows8 R → (∀ d ∈ R, ∃ r, d = .list r ∧ r.length ≤ 2 ^ 10) := fun R h d m => by
    obtain ⟨l, e, hl, _⟩ := h.2 d m; exact ⟨l, e, by omega⟩
  have X1 : ∀ {hh}, Stay h' hh → TR w hh := fun k => X₀.stays (stays_trans F.base k)
  -- orders
  refine sx_cons ?_
  refine sxA (.list [.list (dueD sc), .list (ordered (dueD sc)), .list (ordered (dueD sc)).reverse]) F _ _ _ _ _ ?_ ?_ ?_ ?_
  rotate_left 2
  · exact .inl rfl
  · rfl
  · have ordEv : ∀ {p1 p2 p3}, Ev w (n + 10) (envOfC (Str.ofString "law") _ L fa (.ref 140)) (Y ++ []) h' (.Call (.Name (Str.ofString "_law_ordered") p1) [.Name (Str.ofString "due") p2] [] p3) (.list (ordered (dueD sc))) := fun {p1 p2 p3} =>
      ev_def1 (X1 (stays_refl _)) (by with_unfolding_all rfl) (by with_unfolding_all rfl) (ev_cell (d := .list (dueD sc)) F.fd rfl) fun h2 v k2 q => spec_ordered (X1 k2) (F.fd.mok.stays k2) q (lenOk _ r1) (by omega) (by omega)
    rw [← pickD_rev (l := ordered (dueD sc))]
    refine ev_list F.fd.mok (exl_cons (ev_cell (d := .list (dueD sc)) F.fd rfl) (exl_cons ordEv (exl_cons (ev_slice_listT (l := none) (u := none) (t := some (-1)) F.fd.mok ordEv pt_none pt_none (pt_some (ev_neg ev_int)) (by decide) (by have := r2.1; omega)) exl_nil))) ?_
    show 3 ≤ 2 ^ 24; decide
  intro h1 F1
  -- laid
  refine sx_cons (sx_compM (α := List D) (L := [dueD sc, ordered (dueD sc), (ordered (dueD sc)).reverse]) (g := .list) (p := fun _ => true) (f := fun R => .list (laidF R)) (out := [.list (dedup ((dueD sc).flatMap asL)), .list (dedup ((ordered (dueD sc)).flatMap asL)), .list (dedup ((ordered (dueD sc)).reverse.flatMap asL))]) F1 (by rfl) ?_ ?_ (fun a ha M' C h7 k7 G => tests_nil) ?_ (by show 3 ≤ 2 ^ 20; decide) fun h2 F2 => ?_)
  · show Ev w (n + 10) _ (Y ++ []) h1 _ (.list [.list (dueD sc), .list (ordered (dueD sc)), .list (ordered (dueD sc)).reverse])
    rw [← pickD_rev (l := ordered (dueD sc))]
    refine ev_list F1.fd.mok (exl_cons (ev_cell (d := .list (dueD sc)) F1.fd rfl) (exl_cons (ev_local (d := .list (ordered (dueD sc))) F1.fd rfl) (exl_cons (ev_slice_list (l := none) (u := none) (t := some (-1)) F1.fd.mok (ev_local (d := .list (ordered (dueD sc))) F1.fd rfl) pt_none pt_none (pt_some (ev_neg ev_int)) (by decide) (by have := r2.1; omega)) exl_nil))) ?_
    show 3 ≤ 2 ^ 24; decide
  · rw [filt_true]
    rw [← LF.laid _ (.head _), ← LF.laid _ (.tail _ (.head _)), ← LF.laid _ (.tail _ (.tail _ (.head _)))]
    rfl
  · intro R hR M' C h7 _ k7 G
    have hR8 : Rows8 R := by
      simp only [List.mem_cons, List.not_mem_nil, or_false] at hR
      rcases hR with rfl | rfl | rfl
      · exact r1
      · exact r2
      · exact r3
    have X7 : TR w h7 := X₀.stays (stays_trans F1.base k7)
    exact ev_reduce X7 G.mok (by with_unfolding_all rfl) (ev_local (d := .list R) G rfl) fun h8 v v₀ k8 q1 q2 => red_laid hR8 (X7.stays k8) (G.mok.stays k8) q1 q2 (by omega)
  -- if ordered != orders[1] or laid != ...
  have X2 : ∀ {hh}, Stay h2 hh → TR w hh := fun k => X₀.stays (stays_trans F2.base k)
  have tyL : HasTy (.list (.list (.list .str))) (.list [.list (dedup ((dueD sc).flatMap asL)), .list (dedup ((ordered (dueD sc)).flatMap asL)), .list (dedup ((ordered (dueD sc)).reverse.flatMap asL))]) := hasTy_list.mpr fun x m => by
    simp only [List.mem_cons, List.not_mem_nil, or_false] at m
    rcases m with rfl | rfl | rfl
    · exact once_ty r1
    · exact once_ty r2
    · exact once_ty r3
  refine sx_cons ?_
  refine sx_if (b := (!D.eqbs (ordered (dueD sc)) (ordered (dueD sc))) || (!D.eqbs [.list (dedup ((dueD sc).flatMap asL)), .list (dedup ((ordered (dueD sc)).flatMap asL)), .list (dedup ((ordered (dueD sc)).reverse.flatMap asL))] [.list (dedup ((dueD sc).flatMap asL)), .list (dedup ((ordered (dueD sc)).flatMap asL)), .list (dedup ((ordered (dueD sc)).reverse.flatMap asL))])) ?_ ?_ ?_
  · refine tr_or2 ?_ fun _ => ?_
    · exact tr_cmp (M := Y ++ []) (ev_local (d := .list (ordered (dueD sc))) F2.fd rfl) (ev_item (l := [.list (dueD sc), .list (ordered (dueD sc)), .list (ordered (dueD sc)).reverse]) (d := .list (ordered (dueD sc))) (ev_local (d := .list [.list (dueD sc), .list (ordered (dueD sc)), .list (ordered (dueD sc)).reverse]) F2.fd rfl) (ev_int (i := 1)) (by decide) (by decide) rfl) (cp_nel (.list (.list .str)) (rows8_ty r2) (rows8_ty r2) (by omega) (by decide))
    · refine tr_cmp (M := Y ++ []) (ev_local (d := .list [.list (dedup ((dueD sc).flatMap asL)), .list (dedup ((ordered (dueD sc)).flatMap asL)), .list (dedup ((ordered (dueD sc)).reverse.flatMap asL))]) F2.fd rfl) ?_ (cp_nel (.list (.list .str)) tyL tyL (by omega) (by decide))
      refine ev_compM1 (α := List D) (L := [dueD sc, ordered (dueD sc), (ordered (dueD sc)).reverse]) (g := .list) (f := fun R => .list (dedup (R.flatMap asL))) F2.fd (by rfl) (ev_local (d := .list [.list (dueD sc), .list (ordered (dueD sc)), .list (ordered (dueD sc)).reverse]) F2.fd rfl) ?_ (by show 3 ≤ 2 ^ 20; decide)
      intro R hR M' C h7 k7 G
      have hR8 : Rows8 R := by
        simp only [List.mem_cons, List.not_mem_nil, or_false] at hR
        rcases hR with rfl | rfl | rfl
        · exact r1
        · exact r2
        · exact r3
      exact ev_def1 (X2 k7) (by with_unfolding_all rfl) (by with_unfolding_all rfl) (ev_local (d := .list R) G rfl) fun h8 v k8 q => spec_once (.list .str) (by decide) (X2 (stays_trans k7 k8)) (G.mok.stays k8) q 8 (rows8_ty hR8) (fun d m => by obtain ⟨l, e, hl, _⟩ := hR8.2 d m; exact ⟨l, e, hl⟩) (by have := hR8.1; omega) (by omega)
  · intro hb; rw [eqbs_refl, eqbs_refl] at hb; cases hb
  intro _ h3 k3
  refine sx_nil ?_
  have F3 := F2.grow k3
  have X3 : ∀ {hh}, Stay h3 hh → TR w hh := fun k => X₀.stays (stays_trans F3.base k)
  -- if not (... and ...)
  refine sx_cons ?_
  refine sx_if (b := !(cmpD (dedup ((dueD sc).flatMap asL)) (dedup ((ordered (dueD sc)).flatMap asL)) && cmpD (dedup ((ordered (dueD sc)).flatMap asL)) (dedup ((ordered (dueD sc)).reverse.flatMap asL)))) ?_ ?_ ?_
  · refine tr_not (tr_and2 ?_ fun _ => ?_)
    · refine tr_plain (M := Y ++ []) (d := .bool (cmpD (dedup ((dueD sc).flatMap asL)) (dedup ((ordered (dueD sc)).flatMap asL)))) ?_ rfl
      exact ev_def2 (X3 (stays_refl _)) (by with_unfolding_all rfl) (by with_unfolding_all rfl) (d := .list (dedup ((dueD sc).flatMap asL))) (d₂ := .list (dedup ((ordered (dueD sc)).flatMap asL)))
        (ev_item (l := [.list (dedup ((dueD sc).flatMap asL)), .list (dedup ((ordered (dueD sc)).flatMap asL)), .list (dedup ((ordered (dueD sc)).reverse.flatMap asL))]) (ev_local F3.fd rfl) (ev_int (i := 0)) (by decide) (by decide) rfl)
        (ev_item (l := [.list (dedup ((dueD sc).flatMap asL)), .list (dedup ((ordered (dueD sc)).flatMap asL)), .list (dedup ((ordered (dueD sc)).reverse.flatMap asL))]) (ev_local F3.fd rfl) (ev_int (i := 1)) (by decide) (by decide) rfl)
        fun h9 v v₂ k9 q1 q2 => spec_cmp (.list .str) (by decide) (X3 k9) (F3.fd.mok.stays k9) q1 q2 (once_ty r1) (once_ty r2) (by have := once_len r1; omega) (by have := once_len r2; omega) (by omega)
    · refine tr_plain (M := Y ++ []) (d := .bool (cmpD (dedup ((ordered (dueD sc)).flatMap asL)) (dedup ((ordered (dueD sc)).reverse.flatMap asL)))) ?_ rfl
      exact ev_def2 (X3 (stays_refl _)) (by with_unfolding_all rfl) (by with_unfolding_all rfl) (d := .list (dedup ((ordered (dueD sc)).flatMap asL))) (d₂ := .list (dedup ((ordered (dueD sc)).reverse.flatMap asL)))
        (ev_item (l := [.list (dedup ((dueD sc).flatMap asL)), .list (dedup ((ordered (dueD sc)).flatMap asL)), .list (dedup ((ordered (dueD sc)).reverse.flatMap asL))]) (ev_local F3.fd rfl) (ev_int (i := 1)) (by decide) (by decide) rfl)
        (ev_item (l := [.list (dedup ((dueD sc).flatMap asL)), .list (dedup ((ordered (dueD sc)).flatMap asL)), .list (dedup ((ordered (dueD sc)).reverse.flatMap asL))]) (ev_local F3.fd rfl) (ev_int (i := 2)) (by decide) (by decide) rfl)
        fun h9 v v₂ k9 q1 q2 => spec_cmp (.list .str) (by decide) (X3 k9) (F3.fd.mok.stays k9) q1 q2 (once_ty r2) (once_ty r3) (by have := once_len r2; omega) (by have := once_len r3; omega) (by omega)
  · intro hb; rw [LF.l01, LF.l12] at hb; cases hb
  intro _ h4 k4
  refine sx_nil ?_
  have F4 := F3.grow k4
  have X4 : ∀ {hh}, Stay h4 hh → TR w hh := fun k => X₀.stays (stays_trans F4.base k)
  have hkm : ∀ d ∈ keptF (dueD sc), d ∈ dueD sc := by
    have e : keptF (dueD sc) = keptK (dueD sc) (dueD sc).length := by unfold keptF keptK; rw [List.take_length]
    rw [e]; exact (keptK_ok _ (Nat.le_refl _)).2
  have tk : HasTy (.list (.list (.list .str))) (.list (keptF (dueD sc))) := hasTy_list.mpr fun d m => due_ty (hkm d m)
  have tf : HasTy (.list (.list (.list .str))) (.list (firsts (dueD sc))) := by
    rw [firsts_dedup]; exact dedup_ty (due_tyL sc)
  refine sx_cons (sx_return (P := fun v h' => v = .bool true) (Ex.post (P := fun v h' => Den (Y ++ []) h' (.bool (D.eqbs (keptF (dueD sc)) (firsts (dueD sc)))) v) ?_ fun v h' _ q => ?_) fun v h5 k5 q => ?_)
  · refine ev_cmp (M := Y ++ []) (ev_reduce (X4 (stays_refl _)) F4.fd.mok (by with_unfolding_all rfl) (ev_cell (d := .list (dueD sc)) F4.fd rfl) fun h8 v v₀ k8 q1 q2 => red_kept r1 (X4 k8) (F4.fd.mok.stays k8) q1 q2 (by omega)) ?_ (cp_eql (.list (.list .str)) tk tf (by omega) (by decide))
    unfold firsts
    refine ev_comp_upto F4.fd (by rfl) (ex_range1 (X4 (stays_refl _)) (ev_len_list (X4 (stays_refl _)) (ev_cell (d := .list (dueD sc)) F4.fd rfl) (by omega))) (by omega) ?_ ?_
    · intro i hi M' C h7 k7 G
      have hi' : i < (dueD sc).length := by omega
      have hx : (dueD sc).getD i .none ∈ dueD sc := by simp [List.getD, hi']
      refine tests_one (tr_cmp (M := M') (ev_item (d := (dueD sc).getD i .none) (l := dueD sc) (ev_cell G rfl) (ev_local (d := .int i) G rfl) (by omega) (by omega) (by simp [List.getD, hi']))
        (ev_slice_list (l := none) (u := some (i : Int)) (t := none) G.mok (ev_cell (d := .list (dueD sc)) G rfl) pt_none (pt_some (ev_local (d := .int i) (G.nil) rfl)) pt_none (by simp) (by omega)) ?_)
      rw [pickD_take]
      exact cp_ninl (.list (.list .str)) (hasTy_list.mpr fun x mx => due_ty (List.mem_of_mem_take mx)) (due_ty hx) (by omega) (by decide)
    · intro i hi M' C h7 hp k7 G
      have hi' : i < (dueD sc).length := by omega
      exact ev_item (d := (dueD sc).getD i .none) (l := dueD sc) (ev_cell G rfl) (ev_local (d := .int i) G rfl) (by omega) (by omega) (by simp [List.getD, hi'])
  · have e : D.eqbs (keptF (dueD sc)) (firsts (dueD sc)) = true := by rw [LF.kept, firsts_dedup]; exact eqbs_refl _
    rw [e] at q
    simpa only [Den] using q
  · subst q
    exact ⟨rfl, stays_trans F4.base k5⟩
end Mine
end
section
open PySem PySem.W PySem.Calls PyProof.Rows
set_option maxRecDepth 100000
set_option maxHeartbeats 1000000
namespace Mine
variable [Bd]
theorem Tabs.stays {Z : List Addr} {h h' : Heap} (T : Tabs Z h) (k : Stay h h') : Tabs Z h' := fun z m => by obtain ⟨ps, e⟩ := T z m; exact ⟨ps, tab_stays e k⟩
theorem law_all {w : World} {n : Nat} {fr : Option Addr} {L fa : Addr} {Y : List Addr} {h₀ h' : Heap} {sc : List Int} (hsc : sc.length ≤ 63) (LF : LawF sc) (XB : TRB w h₀) (C89 : CodeHd h₀ 89 85) (T85 : h₀.get? 85 = some (tabObj #[])) (C140 : CodeHd h₀ 140 138) (T138 : h₀.get? 138 = some (tabObj #[]))
    (F : FS (lawEnv w L fa) [] Y h₀ h' [(Str.ofString "script", .list (sc.map .int))] []) :
    Sx w (n + 10) fr (execs (bodyAt (K39 w.params) 141) (lawEnv w L fa)) h' (LawEnd h₀) :=
  law_A hsc LF XB.tr F fun h5 F5 => law_B LF XB.tr F5 fun h6 F6 => law_C LF XB C89 T85 C140 T138 F6 fun h₁ h7 lp x1 t1 F7 =>
    (law_D LF x1.tr F7).mono fun f h8 ⟨e, k⟩ => ⟨e, h₁, lp, k, t1.stays k⟩
end Mine
end
section
open PySem PySem.W PySem.Calls PyProof.Rows
set_option maxRecDepth 100000
set_option maxHeartbeats 1000000
namespace Mine
variable [Bd]
noncomputable def signs4 : List Str := [Str.ofString "*", Str.ofString "?", Str.ofString "a", Str.ofString "."]
noncomputable def pl0 : List (List Str) := [[]]
noncomputable def plS (l : List (List Str)) : List (List Str) := l.flatMap fun r => signs4.map fun s => r ++ [s]
noncomputable def all85 : List (List Str) := pl0 ++ (plS pl0 ++ (plS (plS pl0) ++ plS (plS (plS pl0))))
noncomputable def rowL (p : Str) : List (List Str) := wds.filter fun l => fits p (wordOf l)
noncomputable def chk1 (p : Str) : Bool := (List.range p.length).all (fun i => signs4.contains (Txt.item p (i : Int))) && decide (p.length ≤ 8) && decide ((transS p).length ≤ 1024) && ((wds.filter fun v => takes (transS p) (wordOf v)) == rowL p)
theorem chk_a : (pl0 ++ plS pl0 ++ plS (plS pl0)).all (fun l => chk1 (wordOf l)) = true := by decide +kernel
theorem chk_b : (plS (plS (plS pl0))).all (fun l => chk1 (wordOf l)) = true := by decide +kernel
theorem plS_mem {l : List (List Str)} {r : List Str} {s : Str} (h : r ∈ l) (hs : s ∈ signs4) : r ++ [s] ∈ plS l := List.mem_flatMap.mpr ⟨r, h, List.mem_map.mpr ⟨s, hs, rfl⟩⟩
theorem sign_mem (x : Int) (k : Nat) : Txt.item (Str.ofString "*?a.") (((x.fdiv 4).fdiv (4 ^ k)).fmod 4) ∈ signs4 := by
  have h0 := Int.fmod_nonneg_of_pos ((x.fdiv 4).fdiv (4 ^ k)) (show (0 : Int) < 4 by decide)
  have h1 := Int.fmod_lt_of_pos ((x.fdiv 4).fdiv (4 ^ k)) (show (0 : Int) < 4 by decide)
  generalize ((x.fdiv 4).fdiv (4 ^ k)).fmod 4 = i at *
  have : i = 0 ∨ i = 1 ∨ i = 2 ∨ i = 3 := by omega
  rcases this with rfl | rfl | rfl | rfl <;> decide +kernel
theorem pat_mem (x : Int) : patL x ∈ all85 := by
  have h0 := Int.fmod_nonneg_of_pos x (show (0 : Int) < 4 by decide)
  have h1 := Int.fmod_lt_of_pos x (show (0 : Int) < 4 by decide)
  unfold patL all85
  obtain ⟨m, hm⟩ : ∃ m, (x.fmod 4).toNat = m := ⟨_, rfl⟩
  rw [hm]
  have : m = 0 ∨ m = 1 ∨ m = 2 ∨ m = 3 := by omega
  have s := sign_mem x
  rcases this with rfl | rfl | rfl | rfl
  · exact List.mem_append_left _ (.head _)
  · refine List.mem_append_right _ (List.mem_append_left _ ?_)
    exact plS_mem (l := pl0) (r := []) (.head _) (s 0)
  · refine List.mem_append_right _ (List.mem_append_right _ (List.mem_append_left _ ?_))
    exact plS_mem (r := [_]) (plS_mem (l := pl0) (r := []) (.head _) (s 0)) (s 1)
  · refine List.mem_append_right _ (List.mem_append_right _ (List.mem_append_right _ ?_))
    exact plS_mem (r := [_, _]) (plS_mem (r := [_]) (plS_mem (l := pl0) (r := []) (.head _) (s 0)) (s 1)) (s 2)
theorem chk_all {l : List Str} (h : l ∈ all85) : chk1 (wordOf l) = true := by
  unfold all85 at h
  rcases List.mem_append.mp h with h | h
  · exact List.all_eq_true.mp chk_a l (List.mem_append_left _ (List.mem_append_left _ h))
  rcases List.mem_append.mp h with h | h
  · exact List.all_eq_true.mp chk_a l (List.mem_append_left _ (List.mem_append_right _ h))
  rcases List.mem_append.mp h with h | h
  · exact List.all_eq_true.mp chk_a l (List.mem_append_right _ h)
  · exact List.all_eq_true.mp chk_b l h
theorem pats_of {sc : List Int} {p : Str} (h : p ∈ lawPats sc) : ∃ l ∈ all85, p = wordOf l := by
  unfold lawPats at h
  obtain ⟨x, _, rfl⟩ := List.mem_map.mp h
  exact ⟨patL x, pat_mem x, rfl⟩
theorem law_okp {sc : List Int} : ∀ p ∈ lawPats sc, (∀ i : Nat, i < p.length → okSign (Txt.item p i)) ∧ p.length ≤ 8 ∧ (transS p).length ≤ 2 ^ 10 := by
  intro p hp
  obtain ⟨l, hl, rfl⟩ := pats_of hp
  have c := chk_all hl
  simp only [chk1, Bool.and_eq_true, decide_eq_true_eq] at c
  obtain ⟨⟨⟨c1, c2⟩, c3⟩, c4⟩ := c
  refine ⟨fun i hi => ?_, c2, c3⟩
  have := List.all_eq_true.mp c1 i (List.mem_range.mpr hi)
  rw [List.contains_iff_mem] at this
  unfold okSign
  simp only [signs4, List.mem_cons, List.not_mem_nil, or_false] at this
  exact this
theorem law_same {sc : List Int} : ∀ p ∈ lawPats sc, takesRow (transS p) = fitsRow p := by
  intro p hp
  obtain ⟨l, hl, rfl⟩ := pats_of hp
  have c := chk_all hl
  simp only [chk1, Bool.and_eq_true, decide_eq_true_eq] at c
  have c4 := beq_iff_eq.mp c.2
  unfold takesRow fitsRow
  rw [c4]; rfl
end Mine
end
section
open PySem PySem.W PySem.Calls PyProof.Rows
set_option maxRecDepth 100000
set_option maxHeartbeats 1000000
namespace Mine
variable [Bd]
theorem any_iff {l : List D} {d : D} : l.any (D.eqb · d) = true ↔ d ∈ l := by
  rw [List.any_eq_true]
  constructor
  · rintro ⟨x, hx, e⟩
    rw [← eqb_iff.mp e]; exact hx
  · intro h; exact ⟨d, h, eqb_iff.mpr rfl⟩
theorem mem_dedup {l : List D} {d : D} : d ∈ dedup l ↔ d ∈ l := by rw [← any_iff, mem_dedup_any, any_iff]
theorem addNew_nodup {acc : List D} {d : D} (h : acc.Nodup) : (addNew acc d).Nodup := by
  unfold addNew
  split
  · exact h
  · rename_i q
    rw [any_iff] at q
    rw [List.nodup_append]
    refine ⟨h, by simp, fun x hx y hy => ?_⟩
    rw [List.mem_singleton.mp hy]
    exact fun e => q (e ▸ hx)
theorem foldl_nodup : ∀ (l acc : List D), acc.Nodup → (l.foldl addNew acc).Nodup
  | [], acc, h => h
  | a :: l, acc, h => foldl_nodup l _ (addNew_nodup h)
theorem dedup_nodup (l : List D) : (dedup l).Nodup := foldl_nodup l [] List.nodup_nil
theorem foldl_self : ∀ (l acc : List D), (acc ++ l).Nodup → l.foldl addNew acc = acc ++ l
  | [], acc, _ => by simp
  | a :: l, acc, h => by
    have e : addNew acc a = acc ++ [a] := by
      unfold addNew
      rw [if_neg]
      rw [any_iff]
      intro q
      rw [List.nodup_append] at h
      exact h.2.2 a q a (.head _) rfl
    rw [List.foldl_cons, e, foldl_self l (acc ++ [a]) (by simpa using h)]
    simp
theorem dedup_of_nodup {l : List D} (h : l.Nodup) : dedup l = l := by
  unfold dedup
  rw [foldl_self l [] (by simpa using h)]; simp
theorem dedup_append {a b : List D} : dedup (dedup a ++ b) = dedup (a ++ b) := by
  have e : ∀ x : List D, dedup (x ++ b) = b.foldl addNew (dedup x) := fun x => by unfold dedup; rw [List.foldl_append]
  rw [e, e, dedup_of_nodup (dedup_nodup a)]
theorem laid_eq (R : List D) : laidF R = dedup (R.flatMap asL) := by
  have key : ∀ (R : List D) (acc : List D), R.foldl (fun acc r => dedup (acc ++ asL r)) (dedup acc) = dedup (acc ++ R.flatMap asL) := by
    intro R
    induction R with
    | nil => intro acc; simp
    | cons a R ih =>
      intro acc
      rw [List.foldl_cons, dedup_append, ih, List.flatMap_cons, List.append_assoc]
  have := key R []
  rw [List.nil_append] at this
  exact this
theorem rem1_cons {a d : D} {l : List D} : rem1 (a :: l) d = if D.eqb a d = true then some l else (rem1 l d).map (a :: ·) := by
  unfold rem1
  rw [List.findIdx?_cons]
  by_cases h : D.eqb a d = true
  · simp [h]
  · simp only [Bool.not_eq_true] at h
    simp only [h, Bool.false_eq_true, if_false]
    cases l.findIdx? (D.eqb · d) <;> simp
theorem rem1_of {d : D} : ∀ {l : List D}, l.Nodup → (d ∈ l → ∃ r, rem1 l d = some r ∧ r.Nodup ∧ ∀ x, x ∈ r ↔ x ∈ l ∧ x ≠ d) ∧ (d ∉ l → rem1 l d = none)
  | [], _ => ⟨(fun h => by cases h), fun _ => rfl⟩
  | a :: l, h => by
    obtain ⟨h1, h2⟩ := List.nodup_cons.mp h
    obtain ⟨i1, i2⟩ := rem1_of (d := d) h2
    rw [rem1_cons]
    by_cases e : D.eqb a d = true
    · have := eqb_iff.mp e; subst this
      rw [if_pos e]
      refine ⟨fun _ => ⟨l, rfl, h2, fun x => ?_⟩, fun n => absurd (.head _) n⟩
      constructor
      · intro hx; exact ⟨.tail _ hx, fun q => h1 (q ▸ hx)⟩
      · rintro ⟨hx, n⟩
        rcases List.mem_cons.mp hx with q | q
        · exact absurd q n
        · exact q
    · rw [if_neg e]
      have ne : a ≠ d := fun q => e (eqb_iff.mpr q)
      refine ⟨fun hm => ?_, fun n => ?_⟩
      · rcases List.mem_cons.mp hm with q | q
        · exact absurd q.symm ne
        · obtain ⟨r, e1, e2, e3⟩ := i1 q
          refine ⟨a :: r, by rw [e1]; rfl, List.nodup_cons.mpr ⟨fun m => h1 ((e3 a).mp m).1, e2⟩, fun x => ?_⟩
          constructor
          · intro hx
            rcases List.mem_cons.mp hx with q2 | q2
            · subst q2; exact ⟨.head _, ne⟩
            · exact ⟨.tail _ ((e3 x).mp q2).1, ((e3 x).mp q2).2⟩
          · rintro ⟨hx, n⟩
            rcases List.mem_cons.mp hx with q2 | q2
            · subst q2; exact .head _
            · exact .tail _ ((e3 x).mpr ⟨q2, n⟩)
      · rw [i2 fun m => n (.tail _ m)]; rfl
theorem remAll_cons {a : D} {l m : List D} : remAll l (a :: m) = (rem1 l a).bind fun r => remAll r m := by
  unfold remAll
  rw [List.foldlM_cons]; rfl
theorem remAll_of : ∀ {a l : List D}, a.Nodup → l.Nodup → (∃ r, remAll l a = some r ∧ (∀ x ∈ a, x ∈ l) ∧ ∀ x, x ∈ r ↔ x ∈ l ∧ x ∉ a) ∨ (remAll l a = none ∧ ∃ x ∈ a, x ∉ l)
  | [], l, _, _ => .inl ⟨l, rfl, (fun _ m => by cases m), fun x => by simp⟩
  | d :: a, l, ha, hl => by
    obtain ⟨h1, h2⟩ := List.nodup_cons.mp ha
    rw [remAll_cons]
    by_cases hd : d ∈ l
    · obtain ⟨r, e1, e2, e3⟩ := (rem1_of hl).1 hd
      rw [e1]
      show (∃ r', remAll r a = some r' ∧ _) ∨ (remAll r a = none ∧ _)
      rcases remAll_of h2 e2 with ⟨r', e4, e5, e6⟩ | ⟨e4, x, hx, nx⟩
      · refine .inl ⟨r', e4, fun x hx => ?_, fun x => ?_⟩
        · rcases List.mem_cons.mp hx with q | q
          · rw [q]; exact hd
          · exact ((e3 x).mp (e5 x q)).1
        · rw [e6, e3, List.mem_cons]
          constructor
          · rintro ⟨⟨p, q⟩, r⟩; exact ⟨p, fun z => z.elim q r⟩
          · rintro ⟨p, q⟩; exact ⟨⟨p, fun z => q (.inl z)⟩, fun z => q (.inr z)⟩
      · refine .inr ⟨e4, x, .tail _ hx, fun m => nx ((e3 x).mpr ⟨m, fun q => h1 (q ▸ hx)⟩)⟩
    · rw [(rem1_of hl).2 hd]
      exact .inr ⟨rfl, d, .head _, hd⟩
theorem cmpD_iff {a b : List D} : cmpD a b = true ↔ ∀ x, x ∈ a ↔ x ∈ b := by
  unfold cmpD
  rcases remAll_of (dedup_nodup a) (dedup_nodup b) with ⟨r, e1, e2, e3⟩ | ⟨e1, x, hx, nx⟩
  · rw [e1]
    simp only [List.isEmpty_iff]
    constructor
    · intro h x
      constructor
      · intro m; exact mem_dedup.mp (e2 x (mem_dedup.mpr m))
      · intro m
        by_cases q : x ∈ a
        · exact q
        · have : x ∈ r := (e3 x).mpr ⟨mem_dedup.mpr m, fun z => q (mem_dedup.mp z)⟩
          rw [h] at this; cases this
    · intro h
      cases r with
      | nil => rfl
      | cons y r =>
        have := (e3 y).mp (.head _)
        exact absurd (mem_dedup.mpr ((h y).mpr (mem_dedup.mp this.1))) this.2
  · rw [e1]
    simp only [Bool.false_eq_true, false_iff]
    intro h
    exact nx (mem_dedup.mpr ((h x).mp (mem_dedup.mp hx)))
end Mine
end
section
open PySem PySem.W PySem.Calls PyProof.Rows
set_option maxRecDepth 100000
set_option maxHeartbeats 1000000
namespace Mine
variable [Bd]
theorem strs_inj : ∀ {a b : List Str}, a.map D.str = b.map D.str → a = b
  | [], [], _ => rfl
  | [], _ :: _, h => by cases h
  | _ :: _, [], h => by cases h
  | x :: a, y :: b, h => by
    rw [List.map_cons, List.map_cons] at h
    injection h with h1 h2
    injection h1 with h1
    rw [h1, strs_inj h2]
theorem wdD_inj {a b : List Str} (h : wdD a = wdD b) : a = b := by
  unfold wdD at h
  injection h with h
  exact strs_inj h
theorem rows_eq {q q' : List Str → Bool} (h : ∀ x, x ∈ (wds.filter q).map wdD ↔ x ∈ (wds.filter q').map wdD) : (wds.filter q).map wdD = (wds.filter q').map wdD := by
  have mem : ∀ (q : List Str → Bool) l, l ∈ wds → (wdD l ∈ (wds.filter q).map wdD ↔ q l = true) := fun q l hl => by
    constructor
    · intro m
      obtain ⟨l', h1, h2⟩ := List.mem_map.mp m
      rw [← wdD_inj h2]; exact (List.mem_filter.mp h1).2
    · intro hq; exact List.mem_map.mpr ⟨l, List.mem_filter.mpr ⟨hl, hq⟩, rfl⟩
  congr 1
  refine List.filter_congr fun l hl => ?_
  have := h (wdD l)
  rw [mem q l hl, mem q' l hl] at this
  cases h1 : q l <;> cases h2 : q' l <;> simp_all
theorem same_rows {sc : List Int} {a b : D} (ha : a ∈ dueD sc) (hb : b ∈ dueD sc) : (∀ x, x ∈ asL a ↔ x ∈ asL b) ↔ a = b := by
  obtain ⟨q, rfl⟩ := due_row ha
  obtain ⟨q', rfl⟩ := due_row hb
  constructor
  · intro h; exact congrArg D.list (rows_eq h)
  · intro h; injection h with h; intro x; show x ∈ (wds.filter q).map wdD ↔ _; rw [h]; exact Iff.rfl
theorem law_cmp {sc : List Int} : ∀ a ∈ dueD sc, ∀ b ∈ dueD sc, cmpD (asL a) (asL b ++ (asL b).reverse) = D.eqb a b := by
  intro a ha b hb
  have h1 : cmpD (asL a) (asL b ++ (asL b).reverse) = true ↔ D.eqb a b = true := by
    rw [cmpD_iff, eqb_iff, ← same_rows ha hb]
    constructor
    · intro h x; rw [h x, List.mem_append, List.mem_reverse, or_self]
    · intro h x; rw [h x, List.mem_append, List.mem_reverse, or_self]
  cases h2 : cmpD (asL a) (asL b ++ (asL b).reverse) <;> cases h3 : D.eqb a b <;> simp_all
theorem law_once {R S : List D} (h : ∀ d, d ∈ R ↔ d ∈ S) : cmpD (dedup (R.flatMap asL)) (dedup (S.flatMap asL)) = true := by
  rw [cmpD_iff]
  intro x
  rw [mem_dedup, mem_dedup, List.mem_flatMap, List.mem_flatMap]
  constructor
  · rintro ⟨d, hd, hx⟩; exact ⟨d, (h d).mp hd, hx⟩
  · rintro ⟨d, hd, hx⟩; exact ⟨d, (h d).mpr hd, hx⟩
theorem same2_eq {sc : List Int} {a b : D} (ha : a ∈ dueD sc) (hb : b ∈ dueD sc) : same2 a b = D.eqb a b := by
  have h1 : same2 a b = true ↔ D.eqb a b = true := by
    rw [eqb_iff, ← same_rows ha hb, ← cmpD_iff]
    obtain ⟨q, rfl⟩ := due_row ha
    obtain ⟨q', rfl⟩ := due_row hb
    exact Iff.rfl
  cases h2 : same2 a b <;> cases h3 : D.eqb a b <;> simp_all
theorem law_kept {sc : List Int} : keptF (dueD sc) = dedup (dueD sc) := by
  have key : ∀ (l acc : List D), (∀ d ∈ l, d ∈ dueD sc) → (∀ d ∈ acc, d ∈ dueD sc) → l.foldl keptD acc = l.foldl addNew acc := by
    intro l
    induction l with
    | nil => intro acc _ _; rfl
    | cons r l ih =>
      intro acc hl ha
      have hr := hl r (.head _)
      have e : keptD acc r = addNew acc r := by
        unfold keptD addNew
        have e1 : (acc.filter fun d => same2 d r) = acc.filter fun d => D.eqb d r := List.filter_congr fun d hd => same2_eq (ha d hd) hr
        rw [e1]
        by_cases q : acc.any (D.eqb · r) = true
        · rw [if_pos q, if_neg]
          intro h
          rw [List.isEmpty_iff, List.filter_eq_nil_iff] at h
          obtain ⟨x, hx, ex⟩ := List.any_eq_true.mp q
          exact h x hx ex
        · rw [if_neg q, if_pos]
          rw [List.isEmpty_iff, List.filter_eq_nil_iff]
          intro x hx ex
          exact q (List.any_eq_true.mpr ⟨x, hx, ex⟩)
      rw [List.foldl_cons, List.foldl_cons, e]
      refine ih _ (fun d hd => hl d (.tail _ hd)) fun d hd => ?_
      rcases addNew_mem hd with h | h
      · exact ha d h
      · rw [h]; exact hr
  exact key _ [] (fun _ h => h) fun _ h => by cases h
end Mine
end
section
open PySem PySem.W PySem.Calls PyProof.Rows
set_option maxRecDepth 100000
set_option maxHeartbeats 1000000
namespace Mine
variable [Bd]
noncomputable def posN (ls : List Nat) (k : Nat) : Nat := (ls.filter fun r => decide (r < ls.getD k 0)).length + ((ls.take k).filter fun r => r == ls.getD k 0).length
noncomputable def idxO (ls : List Nat) : List (Option Nat) := (List.range ls.length).foldl (fun o k => o.set (posN ls k) (some k)) (List.replicate ls.length none)
noncomputable def ltL (ls : List Nat) (i j : Nat) : Bool := decide (ls.getD i 0 < ls.getD j 0)
noncomputable def okO (ls : List Nat) (p : Array Nat) : Bool := (p.toList.map some == idxO ls) && decide (p.size ≤ 2 ^ 20) && (idxO ls).all (fun o => match o with | some k => decide (k < ls.length) | none => false) && (List.range ls.length).all (fun k => (idxO ls).contains (some k))
noncomputable def chkS (ls : List Nat) : Bool := match runB ls.length (ltL ls) (kas_sort ls.length) with
  | some p => okO ls p
  | none => false
noncomputable def fix8 : List Nat := [8, 8, 2, 4, 7, 7, 5, 4]
noncomputable def lenS : List Nat := [0, 1, 2, 3, 4, 5, 7, 8]
theorem s0 : chkS fix8 = true := by decide +kernel
theorem s1 : (lenS.all fun a => chkS (a :: fix8)) = true := by decide +kernel
theorem s2 : (lenS.all fun a => lenS.all fun b => chkS (a :: b :: fix8)) = true := by decide +kernel
theorem s3_0 : (lenS.all fun b => lenS.all fun c => chkS (0 :: b :: c :: fix8)) = true := by decide +kernel
theorem s3_1 : (lenS.all fun b => lenS.all fun c => chkS (1 :: b :: c :: fix8)) = true := by decide +kernel
theorem s3_2 : (lenS.all fun b => lenS.all fun c => chkS (2 :: b :: c :: fix8)) = true := by decide +kernel
theorem s3_3 : (lenS.all fun b => lenS.all fun c => chkS (3 :: b :: c :: fix8)) = true := by decide +kernel
theorem s3_4 : (lenS.all fun b => lenS.all fun c => chkS (4 :: b :: c :: fix8)) = true := by decide +kernel
theorem s3_5 : (lenS.all fun b => lenS.all fun c => chkS (5 :: b :: c :: fix8)) = true := by decide +kernel
theorem s3_7 : (lenS.all fun b => lenS.all fun c => chkS (7 :: b :: c :: fix8)) = true := by decide +kernel
theorem s3_8 : (lenS.all fun b => lenS.all fun c => chkS (8 :: b :: c :: fix8)) = true := by decide +kernel
theorem s3 {a b c : Nat} (ha : a ∈ lenS) (hb : b ∈ lenS) (hc : c ∈ lenS) : chkS (a :: b :: c :: fix8) = true := by
  simp only [lenS, List.mem_cons, List.not_mem_nil, or_false] at ha
  rcases ha with rfl | rfl | rfl | rfl | rfl | rfl | rfl | rfl
  · exact List.all_eq_true.mp (List.all_eq_true.mp s3_0 b hb) c hc
  · exact List.all_eq_true.mp (List.all_eq_true.mp s3_1 b hb) c hc
  · exact List.all_eq_true.mp (List.all_eq_true.mp s3_2 b hb) c hc
  · exact List.all_eq_true.mp (List.all_eq_true.mp s3_3 b hb) c hc
  · exact List.all_eq_true.mp (List.all_eq_true.mp s3_4 b hb) c hc
  · exact List.all_eq_true.mp (List.all_eq_true.mp s3_5 b hb) c hc
  · exact List.all_eq_true.mp (List.all_eq_true.mp s3_7 b hb) c hc
  · exact List.all_eq_true.mp (List.all_eq_true.mp s3_8 b hb) c hc
theorem sAll : ∀ l : List Nat, l.length ≤ 3 → (∀ a ∈ l, a ∈ lenS) → chkS (l ++ fix8) = true
  | [], _, _ => s0
  | [a], _, h => List.all_eq_true.mp s1 a (h a (.head _))
  | [a, b], _, h => List.all_eq_true.mp (List.all_eq_true.mp s2 a (h a (.head _))) b (h b (.tail _ (.head _)))
  | [a, b, c], _, h => s3 (h a (.head _)) (h b (.tail _ (.head _))) (h c (.tail _ (.tail _ (.head _))))
  | _ :: _ :: _ :: _ :: _, h, _ => by simp at h
end Mine
end
section
open PySem PySem.W PySem.Calls PyProof.Rows
set_option maxRecDepth 100000
set_option maxHeartbeats 1000000
namespace Mine
variable [Bd]
theorem chk_len : all85.all (fun l => lenS.contains (rowL (wordOf l)).length) = true := by decide +kernel
theorem fix_len : (([1, 66, 147, 10, 18, 6, 35, 50] : List Int).map fun x => (rowL (patS x)).length) = fix8 := by decide +kernel
theorem lenD_row (p : Str) : lenD (fitsRow p) = (rowL p).length := by
  show ((wds.filter fun l => fits p (wordOf l)).map wdD).length = _
  rw [List.length_map]; rfl
noncomputable def lensOf (sc : List Int) : List Nat := (dueD sc).map lenD
theorem lens_eq (sc : List Int) : lensOf sc = ((sc.take 3).map fun x => (rowL (patS x)).length) ++ fix8 := by
  unfold lensOf dueD lawPats lawXs
  rw [List.map_map, List.map_map, List.map_append, ← fix_len]
  congr 1
  exact List.map_congr_left fun x _ => lenD_row _
theorem chk_sc (sc : List Int) : chkS (lensOf sc) = true := by
  rw [lens_eq]
  refine sAll _ (by rw [List.length_map, List.length_take]; omega) fun a ha => ?_
  obtain ⟨x, _, rfl⟩ := List.mem_map.mp ha
  have := List.all_eq_true.mp chk_len _ (pat_mem x)
  rw [List.contains_iff_mem] at this
  exact this
theorem lens_getD (rows : List D) (k : Nat) : (rows.map lenD).getD k 0 = lenD (rows.getD k .none) := by
  by_cases h : k < rows.length
  · simp [List.getD, h]
  · have h1 : rows[k]? = none := by rw [List.getElem?_eq_none_iff]; omega
    simp [List.getD, h1]; rfl
theorem ordPos_eq (rows : List D) (k : Nat) : ordPos rows k = posN (rows.map lenD) k := by
  unfold ordPos posN
  rw [lens_getD, List.filter_map, List.length_map, ← List.map_take, List.filter_map, List.length_map]
  rfl
noncomputable def pick (rows : List D) : Option Nat → D
  | some k => rows.getD k .none
  | none => .none
theorem ordered_eq (rows : List D) : ordered rows = (idxO (rows.map lenD)).map (pick rows) := by
  have key : ∀ (l : List Nat) (o : List (Option Nat)), l.foldl (ordStep rows) (o.map (pick rows)) = (l.foldl (fun o k => o.set (posN (rows.map lenD) k) (some k)) o).map (pick rows) := by
    intro l
    induction l with
    | nil => intro o; rfl
    | cons k l ih =>
      intro o
      rw [List.foldl_cons, List.foldl_cons, ← ih, List.map_set]
      unfold ordStep
      rw [ordPos_eq]
      rfl
  unfold ordered orderedK idxO
  have := key (List.range rows.length) (List.replicate rows.length none)
  rw [List.map_replicate] at this
  rw [List.length_map]
  exact this
theorem law_facts (sc : List Int) : LawF sc := by
  have c := chk_sc sc
  unfold chkS at c
  split at c
  · rename_i p hrun
    simp only [okO, Bool.and_eq_true, decide_eq_true_eq] at c
    obtain ⟨⟨⟨c1, c2⟩, c3⟩, c4⟩ := c
    have c1 := beq_iff_eq.mp c1
    have hlen : (lensOf sc).length = (dueD sc).length := by unfold lensOf; rw [List.length_map]
    have hord : ordered (dueD sc) = p.toList.map fun i => (dueD sc).getD i .none := by
      rw [ordered_eq]
      show (idxO (lensOf sc)).map _ = _
      rw [← c1, List.map_map]; rfl
    have hmem : ∀ d, d ∈ dueD sc ↔ d ∈ ordered (dueD sc) := by
      intro d
      rw [ordered_eq]
      constructor
      · intro m
        obtain ⟨i, hi, rfl⟩ := List.getElem_of_mem m
        have := List.all_eq_true.mp c4 i (List.mem_range.mpr (by rw [hlen]; exact hi))
        rw [List.contains_iff_mem] at this
        exact List.mem_map.mpr ⟨some i, this, by show (dueD sc).getD i .none = _; simp [List.getD, hi]⟩
      · intro m
        obtain ⟨o, ho, rfl⟩ := List.mem_map.mp m
        have := List.all_eq_true.mp c3 o ho
        cases o with
        | none => cases this
        | some k =>
          have hk : k < (dueD sc).length := by have h : k < (lensOf sc).length := by simpa using this
                                               rw [hlen] at h; exact h
          show (dueD sc).getD k .none ∈ dueD sc
          simp [List.getD, hk]
    refine ⟨law_okp, law_same, law_cmp, ⟨ltL (lensOf sc), p, by rw [← hlen]; exact hrun, c2, fun i j la lb hi hj => ?_, hord.symm⟩, fun R _ => laid_eq R, law_once hmem, law_once fun d => List.mem_reverse.symm, law_kept, fun d m => (hmem d).mpr m⟩
    have e1 : (lensOf sc).getD i 0 = la.length := by
      unfold lensOf
      rw [lens_getD]
      simp only [List.getD, hi]; rfl
    have e2 : (lensOf sc).getD j 0 = lb.length := by
      unfold lensOf
      rw [lens_getD]
      simp only [List.getD, hj]; rfl
    unfold ltL
    rw [e1, e2]
    by_cases q : la.length < lb.length
    · rw [decide_eq_true q, decide_eq_true (by omega)]
    · rw [decide_eq_false q, decide_eq_false (by omega)]
  · cases c
end Mine
end
section
open PySem PySem.W PySem.Calls PyProof.Rows
set_option maxRecDepth 100000
set_option maxHeartbeats 4000000
namespace Mine
variable [Bd]
theorem dens_ints {M : List Addr} {h : Heap} : ∀ {vs : List Value} {sc : List Int}, IntsAre vs sc → Dens M h (sc.map .int) vs
  | _, _, .nil => Dens.nil
  | _, _, .cons n t r => Dens.cons Den.int' (dens_ints r)
theorem join_law {w : World} {A : Around} {s : Shared} {L fa a : Addr} {vs : List Value} {sc : List Int} {hb : Heap} {o1 o2 o3 : Obj} {c1 c2 c3 : Option Value} {mL : Str → Option Value} {E : Value → Shared → Prop} {Q : Flow → Shared → Prop}
    (hsc : sc.length ≤ 63) (hL : hb.objs.size = L) (hB : Bd.b = L) (XB : TRB w hb) (T : Tabs [85, 71, 138] hb) (C89 : CodeHd hb 89 85) (C140 : CodeHd hb 140 138)
    (k : ∀ b o, b ∉ [85, 71, 138] → hb.get? b = some o → s.heap.get? b = some o) (t85 : s.heap.get? 85 = some (tabObj #[])) (t71 : s.heap.get? 71 = some (tabObj #[])) (t138 : s.heap.get? 138 = some (tabObj #[]))
    (hns : s.heap.Ns L mL) (hscr : mL (Str.ofString "script") = some (.ref a)) (hl : s.heap.IsList a vs.toArray) (haL : a < L) (hI : IntsAre vs sc)
    (g1 : s.heap.get? (L + 1) = some o1) (e1 : o1.data = .cell c1) (g2 : s.heap.get? (L + 2) = some o2) (e2 : o2.data = .cell c2) (g3 : s.heap.get? (L + 3) = some o3) (e3 : o3.data = .cell c3)
    (dA : A.depth = 2 + claimMargin) (uA : A.units ≤ 10) (hA : A.handled = none) (fA : A.frames = some [lawEnv w L fa])
    (H : ∀ h' tk, (∀ b o, b ∉ [85, 138] → b < L → s.heap.get? b = some o → h'.get? b = some o) → Tabs [85, 138] h' → Q (.ret (.bool true)) { s with heap := h', toks := tk }) :
    wpAny (model Mine.prog w) A (execs (bodyAt (K39 w.params) 141) (lawEnv w L fa)) Q E s := by
  obtain ⟨Y, hY⟩ : ∃ Y : List Addr, Y = [L, L + 1, L + 2, L + 3] := ⟨_, rfl⟩
  have hYge : ∀ b ∈ Y, L ≤ b := fun b m => by
    rw [hY] at m
    simp only [List.mem_cons, List.not_mem_nil, or_false] at m
    rcases m with rfl | rfl | rfl | rfl
    · exact Nat.le_refl _
    · exact Nat.le_succ _
    · exact Nat.le_add_right _ 2
    · exact Nat.le_add_right _ 3
  have lt : ∀ b, b < L → b ∉ Y := fun b hb m => absurd (Nat.lt_of_lt_of_le hb (hYge b m)) (Nat.lt_irrefl _)
  have old : ∀ b o, b < L → s.heap.get? b = some o → (hideAll s.heap Y).get? b = some o := fun b o hb e => hideAll_get Y e (lt b hb)
  have lp : Leap [85, 71, 138] hb (hideAll s.heap Y) := fun b o n e => .of (old b o (hL ▸ Heap.lt_size e) (k b o n e))
  have hlt : ∀ z ∈ [85, 71, 138], z < L := fun z m => by obtain ⟨ps, e⟩ := T z m; exact hL ▸ Heap.lt_size e
  have XB0 := XB.leap lp T fun z m => by
    simp only [List.mem_cons, List.not_mem_nil, or_false] at m
    rcases m with rfl | rfl | rfl <;> with_unfolding_all rfl
  have C89' := CodeHd.leap C89 T lp
  have C140' := CodeHd.leap C140 T lp
  have T85 := old 85 _ (hlt 85 (by decide)) t85
  have T138 := old 138 _ (hlt 138 (by decide)) t138
  have h142 : Bd.b ≤ L := Nat.le_of_eq hB
  obtain ⟨oL, hoL, hoL2⟩ := ns_nd hns
  have aok : AOk 20 A s.heap := by
    refine ⟨?_, ?_, hA, ⟨[lawEnv w L fa], fA, fun env m => ?_⟩, by rw [fA]; exact fun q => nomatch q⟩
    · rw [dA]; decide +kernel
    · have : cLine = 9900 := rfl
      omega
    · rw [List.mem_singleton.mp m]
      exact ⟨by show (scopeAt (K39 w.params) 141).kind ≠ _; rw [show (scopeAt (K39 w.params) 141).kind = .function by with_unfolding_all rfl]; decide, L, oL, rfl, hoL, hoL2, h142⟩
  have hF : FS (lawEnv w L fa) [] Y (hideAll s.heap Y) s.heap [(Str.ofString "script", .list (sc.map .int))] [] := by
    have hcells : (lawEnv w L fa).cells = [(Str.ofString "due", L + 3), (Str.ofString "taken", L + 2), (Str.ofString "names", L + 1)] := by with_unfolding_all rfl
    have cellAt : ∀ x c, (lawEnv w L fa).cells.lookup x = some c → (x = Str.ofString "due" ∧ c = L + 3) ∨ (x = Str.ofString "taken" ∧ c = L + 2) ∨ (x = Str.ofString "names" ∧ c = L + 1) := fun x c e => by
      have := lookup_mem e
      rw [hcells] at this
      simp only [List.mem_cons, List.not_mem_nil, or_false, Prod.mk.injEq] at this
      exact this
    refine ⟨⟨fun q m => ?_, ?_, fun z e hz => ?_⟩, .of fun b o e => of_hideAll Y e, ⟨_, hns⟩, fun b m => hideAll_none Y m, by rw [hY]; exact .head _, fun x c e => ?_, fun x y c ex ey => ?_, (fun _ _ m => nomatch m), List.Pairwise.nil⟩
    · rw [List.append_nil, hY] at m
      simp only [List.mem_cons, List.not_mem_nil, or_false] at m
      rcases m with rfl | rfl | rfl | rfl
      · exact ⟨_, hoL⟩
      · exact ⟨_, g1⟩
      · exact ⟨_, g2⟩
      · exact ⟨_, g3⟩
    · show (scopeAt (K39 w.params) 141).kind = _; with_unfolding_all rfl
    · have hz' := lookup_mem hz
      have hz2 := List.mem_singleton.mp hz'
      injection hz2 with hz2 hz3
      subst hz2; subst hz3
      refine ⟨.ref a, ?_, ?_⟩
      · have hk : (lawEnv w L fa).kindOf (Str.ofString "script") = some .local := by with_unfolding_all rfl
        unfold VarAt
        rw [hk]
        exact ⟨mL, hns, hscr⟩
      · refine .of_list ?_ hl (dens_ints hI)
        rw [List.append_nil]; exact lt a haL
    · rcases cellAt x c e with ⟨_, rfl⟩ | ⟨_, rfl⟩ | ⟨_, rfl⟩
      · exact ⟨by rw [hY]; simp, Nat.ne_of_gt (Nat.lt_add_of_pos_right (n := L) (k := 3) (by decide)), c3, o3, g3, e3⟩
      · exact ⟨by rw [hY]; simp, Nat.ne_of_gt (Nat.lt_add_of_pos_right (n := L) (k := 2) (by decide)), c2, o2, g2, e2⟩
      · exact ⟨by rw [hY]; simp, Nat.ne_of_gt (Nat.lt_add_of_pos_right (n := L) (k := 1) (by decide)), c1, o1, g1, e1⟩
    · rcases cellAt x c ex with ⟨r1, q1⟩ | ⟨r1, q1⟩ | ⟨r1, q1⟩ <;> rcases cellAt y c ey with ⟨r2, q2⟩ | ⟨r2, q2⟩ | ⟨r2, q2⟩ <;> first | (rw [r1, r2]; done) | exact absurd (Nat.add_left_cancel (q1.symm.trans q2)) (by decide)
  have body := law_all (n := 10) (fr := headFrame A) hsc (law_facts sc) XB0 C89' T85 C140' T138 hF
  refine body.run (n := 20) aok rfl rfl fun f h' tk a' q => ?_
  obtain ⟨rfl, hx, lp2, k2, t2⟩ := q
  refine H h' tk (fun b o nb hb e => ?_) t2
  exact ((lp2 b o nb (old b o hb e)).trans fun o' e' => k2 b o' e').get (.inr (by rw [hB]; exact hb))
end Mine
end
section
open PySem PySem.W PyProof.Rows
set_option maxRecDepth 100000
set_option maxHeartbeats 8000000
namespace Mine
open PySem.W.Fast in
theorem left_q {p q : Program} {loose : List Str} {Xt : Shared → Bool} {α : Type} {Yf : Shared → α} {Ya : World → α} {N : Nat} {w : World}
    (h : (runT (fun p => tw10156331382660048174 (tw11892475500146522536 tw14364793385576792824) p w) tw6613529449190102663 tw1435165496053646825 tw14289696077712309145 p N).map (fun x => ((staticsOk (tw5923862056798008813 p.main.body) x.1.heap x.2.heap && namesBound p x.2.heap && gensDone x.2 && laidKept x.1.heap x.2.heap), tw4187177175401517315 q loose (tw5923862056798008813 p.main.body) Xt true x.2, Yf x.2)) =
      some (true, openGood q loose, Ya w)) :
    (openEnds treeTable p w N).map (fun s => (openSeen q loose (importedModules p.main.body) Xt true s, Yf s)) = some (openGood q loose, Ya w) := by
  refine left_of ?_
  rw [te10156331382660048174, te11892475500146522536, te14364793385576792824, te6613529449190102663, te1435165496053646825, te14289696077712309145, te5923862056798008813, te4187177175401517315]
  exact h
noncomputable abbrev LS : List Str := [Str.ofString "_twin_re_1", Str.ofString "_special_chars_map", Str.ofString "_initial_missing", Str.ofString "reduce"]
noncomputable def asK : List Addr := [2, 3, 6, 32, 34, 35, 37, 38, 39, 41, 42, 44, 45, 51, 53, 54, 56, 57, 59, 63, 65, 66, 68, 69, 70, 72, 73, 75, 76, 77, 79, 80, 82, 83, 84, 86, 87, 89, 90, 91, 92, 93, 95, 96, 98, 99, 100, 103, 104, 105, 108, 109, 110, 113, 114, 115, 118, 119, 120, 122, 123, 125, 126, 127, 130, 131, 132, 135, 136, 137, 140, 141]
theorem asK_eq (P : Params) : asK = (K39 P).map (·.1) := by kernel_rfl
noncomputable abbrev HK : Hook := kmHook K39 asK asK_eq [85, 71, 138]
noncomputable abbrev XT (s : Shared) : Bool := xlAt VW [] s && recOk [] s
noncomputable abbrev LeftAt (w : World) : Prop := (openEnds treeTable prog w 3914).map (fun s => (openSeen VW LS (importedModules prog.main.body) XT true s, HK.obs s)) = some (openGood VW LS, HK.val w)
theorem left_ff (w : World) : LeftAt ((w.withFollow "comprehension-iter-twice" false).withFollow "special-get-raises" false) := left_q (by kernel_rfl)
theorem left_ft (w : World) : LeftAt ((w.withFollow "comprehension-iter-twice" false).withFollow "special-get-raises" true) := left_q (by kernel_rfl)
theorem left_tf (w : World) : LeftAt ((w.withFollow "comprehension-iter-twice" true).withFollow "special-get-raises" false) := left_q (by kernel_rfl)
theorem left_tt (w : World) : LeftAt ((w.withFollow "comprehension-iter-twice" true).withFollow "special-get-raises" true) := left_q (by kernel_rfl)
theorem left : LeftO prog VW LS XT HK.obs HK.val 3914 :=
  byRow2 (P := LeftAt) "special-get-raises" (fun w => byRow2 (P := fun w => LeftAt (w.withFollow "special-get-raises" false)) "comprehension-iter-twice" left_ff left_tf w)
    (fun w => byRow2 (P := fun w => LeftAt (w.withFollow "special-get-raises" true)) "comprehension-iter-twice" left_ft left_tt w)
end Mine
end
section
open PySem PySem.W PySem.Calls PyProof.Rows
set_option maxRecDepth 100000
set_option maxHeartbeats 4000000
namespace Mine
theorem name_at {w : World} {h : Heap} {mg : Str → Option Value} (K : Frag.In (K39 w.params) h) (g : h.Ns mainGlobals mg) : ∃ v, mg "__name__" = some v := by
  have t2 : ((nsIn (K39 w.params) mainGlobals "__name__").bind id).isSome = true := by with_unfolding_all rfl
  obtain ⟨v, hv⟩ := Option.isSome_iff_exists.mp t2
  obtain ⟨o, ho, ho2⟩ := Option.bind_eq_some_iff.mp hv
  exact ⟨v, mg_of K g (by rw [ho]; exact congrArg some ho2)⟩
theorem said : PySem.Challenge.rw_in0053_01.wellSaid = true := by decide +kernel
end Mine
open Mine
theorem PySem.Challenge.cw_in0053_01_holds : PySem.Challenge.rw_in0053_01.Holds := by
  w_on
  refine holds_law Mine.said fun said => ?_
  refine holds_open (q := Mine.VW) (loose := Mine.LS) (Xt := Mine.XT) (XP := XL Mine.VW []) (Yf := (kmHook Mine.K39 Mine.asK Mine.asK_eq [85, 71, 138]).obs) (Ya := (kmHook Mine.K39 Mine.asK Mine.asK_eq [85, 71, 138]).val) (YP := (kmHook Mine.K39 Mine.asK Mine.asK_eq [85, 71, 138]).says) (N := 3914) Mine.left (kmHook Mine.K39 Mine.asK Mine.asK_eq [85, 71, 138]).of (kmHook Mine.K39 Mine.asK Mine.asK_eq [85, 71, 138]).keeps (fun s e => xl_of s (Bool.and_eq_true_iff.mp e).1) XL.keeps (by rfl) (by rfl) (by rfl) (fun s e => recFacts_of (Bool.and_eq_true_iff.mp e).2) (by rfl) (by assumption) (by decide +kernel) ⟨rfl, rfl, rfl, rfl, rfl, by decide +kernel⟩ ?hw ?hc
  case hw => w_witness2
  clear said
  k_go0
  rename_i w s₀ s₁ mg mb G Y fa o pm doc ho hg X V T B TE TW hcd sc hs hlay0 hL0 hr0 hl2 w1 w2 a vs w3 hL ra wl r0 hI hr hc1 hc2 hD h₁ tk o1 o2 o3 d1 d2 d3 CA KX TT BB FF c89 c75 NN lts
  have TRd : TopRead VW Mine.LO mg mb s₁.heap := topRead_of T
  have KX' : Frag.In (K39 w.params) s₁.heap := fun a o e => of_hideAll _ (KX a o e)
  have h142 : 142 ≤ s₁.heap.objs.size := by
    obtain ⟨o, ho'⟩ := Option.isSome_iff_exists.mp (show ((K39 w.params).lookup 141).isSome = true by with_unfolding_all rfl)
    exact Heap.lt_size (KX' 141 o ho')
  let I : Mine.Bd := ⟨s₁.heap.objs.size, h142⟩
  have XB : Mine.TRB w s₁.heap := by
    refine ⟨⟨KX', mg, mb, TRd⟩, mg, mb, TRd, Mine.name_at KX' T.g, ?_⟩
    obtain ⟨bm, ob, b1, b2, b3, b4, b5, b6⟩ := T.bmain
    refine ⟨bm, ob, b1, b2, fun q => ?_, b3, b4, b5, b6⟩
    obtain ⟨o, es, ep, e, hd, _⟩ := T.g
    rw [q, e] at b3; cases b3; rw [hd] at b6; cases b6
  have hk : ∀ b o, b ∉ [85, 71, 138] → s₁.heap.get? b = some o → h₁.get? b = some o := fun b o n e => FF.keep b o (ghost_ne e n)
  refine Mine.join_law (L := s₁.heap.objs.size) (a := a) (vs := vs) (sc := sc) (hb := s₁.heap) (o1 := o3) (o2 := o2) (o3 := o1) ?hsc rfl rfl XB (fun z m => ⟨_, hT8 z m⟩) ?c1 ?c2 hk ?t85 ?t71 ?t138 FF.ns ?scr ?hl ?haL hI ?g1 d3 ?g2 d2 ?g3 d1 ?dA ?uA ?hA ?fA ?H
  case hsc => omega
  case c1 =>
    obtain ⟨o, vs', file, tf, flags, tg, inF, text, tt, e, r⟩ := c89
    exact ⟨o, vs', file, tf, flags, tg, inF, text, tt, of_hideAll _ e, r⟩
  case c2 =>
    obtain ⟨o, vs', file, tf, flags, tg, inF, text, tt, e, r⟩ := codeHd
    exact ⟨o, vs', file, tf, flags, tg, inF, text, tt, of_hideAll _ e, r⟩
  case t85 => exact (NN (85, tabObj #[]) (.tail _ (.tail _ (.tail _ (.head _))))).1
  case t71 => exact (NN (71, tabObj #[]) (.tail _ (.tail _ (.tail _ (.tail _ (.head _)))))).1
  case t138 => exact (NN (138, tabObj #[]) (.tail _ (.tail _ (.tail _ (.tail _ (.tail _ (.head _))))))).1
  case scr => rfl
  case hl =>
    obtain ⟨o, e, c, m, d⟩ := lifted
    exact ⟨o, FF.keep _ _ e, c, m, d⟩
  case haL =>
    obtain ⟨o, e, c, m, d⟩ := hL
    exact Heap.lt_size e
  case g1 => exact (NN _ (.tail _ (.tail _ (.head _)))).1
  case g2 => exact (NN _ (.tail _ (.head _))).1
  case g3 => exact (NN _ (.head _)).1
  case dA => show (1 + claimMargin) + 1 = 2 + claimMargin; omega
  case uA => show 4 + 3 ≤ 10; decide
  case hA => rfl
  case fA => with_unfolding_all rfl
  case H =>
    intro h' tk' kk tt
    have keep : ∀ b o, (ghostOf s₁.heap [(89, 85), (75, 71), (140, 138)]).get? b = some o → h'.get? b = some o := fun b o e => by
      have e1 := of_hideAll _ e
      have hb : b < s₁.heap.objs.size := Heap.lt_size e1
      have nb : b ∉ [85, 138] := fun m => by
        have hn : (ghostOf s₁.heap [(89, 85), (75, 71), (140, 138)]).get? b = none := hideAll_none _ (by
          simp only [List.mem_cons, List.not_mem_nil, or_false] at m
          rcases m with rfl | rfl <;> simp)
        rw [hn] at e; cases e
      exact kk b o nb hb (FF.keep b o e)
    refine ⟨⟨.inl ⟨.bool true, .bool true, [], rfl, fun _ => rfl, ?_, ?_, ?_⟩, keep, rfl, hg⟩, ?_⟩
    · exact .bool _
    · kernel_rfl
    · intro _; exact ⟨List.nodup_nil, fun _ m => nomatch m⟩
    · refine ⟨tt 85 (.head _), ?_, tt 138 (.tail _ (.head _)), trivial⟩
      refine ⟨#[], ?_⟩
      exact kk 71 _ (by decide) lts.2.1 (NN (71, tabObj #[]) (.tail _ (.tail _ (.tail _ (.tail _ (.head _)))))).1
end
