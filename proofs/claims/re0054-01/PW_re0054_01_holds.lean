import PyProof.Rows.All
import Wide.All
import OpenK.AllK
import Wide.FinOn
import PySem.Challenge.RW_re0054_01
set_option Elab.async false
set_option maxRecDepth 100000
set_option maxHeartbeats 0
section
open PySem PySem.W PySem.W.X PyProof.Rows
set_option Elab.async false
set_option maxRecDepth 100000
set_option maxHeartbeats 0
namespace Mine
/-- the head's goals, with a place ahead for the look at the top: the look is then one of the head's premises, and is checked at once, a row's value at a time, not in pieces (the pieces' equations make 20 MB) -/
theorem keep_hl {P T : Prop} (main : P) (hl : T) : P := main
/-- the looks at the law's text, at once (o_law would lay equations of 2 MB) -/
theorem said_ok : PySem.Challenge.rw_re0054_01.wellSaid = true := by
  rw [PySem.W.Fast.te9446332074065402090]
  kernel_rfl
local macro_rules | `(tactic| o_law) => `(tactic| refine holds_law said_ok fun said => ?_)
set_option hygiene false in
local macro_rules | `(tactic| k_head) => `(tactic| (apply keep_hl; (focus km_head); rotate_left; apply And.right; (case hl => exact And.left ?hc.self)))
open_top hd for PySem.Challenge.rw_re0054_01
/-- what the head asks of the top's run, of a world -/
noncomputable abbrev LookOf {Q : World → Prop} {B P : Prop} (_ : (∀ w, Q w) ∧ B → P) : World → Prop := Q
/-! The look in three parts: the opening; the two statements ahead (the table of signs, which alone asks the world's rows); the rest and the looks. Between them the state that the table leaves behind is written out (printed by a small program). The `tw` are the library's quick twins. -/
theorem run_cut {p : Program} {w : World} {m n₁ n₂ n₃ n₄ n₅ N k : Nat} {ann : Option Value} {s₀ sA sT r : Shared} {stub : Thread} {b : List Stmt} {env : Env} {c : Code} {pos pos' q : Pos}
    (pre : topGo treeTable p w m ann n₁ s₀ stub = some (sA, ⟨denote treeTable (.body b env), c, pos, [topFrame q]⟩)) (block : segRun treeTable p w m ann 1 n₂ sA (blockOf b env c pos [topFrame q]) = some (.next, sA, c, pos))
    (table : segRun treeTable p w m ann 1 n₃ sA (piecesOf (b.take k) env c pos [topFrame q]) = some (.next, sT, c, pos')) (le : n₁ + (n₂ + (n₃ + n₄)) + n₅ = N)
    (h : topRun treeTable p w m ann n₄ sT (restOf (b.drop k) env c pos' [topFrame q]) = some r) : topRun treeTable p w m ann N s₀ stub = some r := by
  have h := piece_app table h
  rw [List.take_append_drop] at h
  rw [← le]
  exact topRun_mono n₅ _ _ _ _ (go_top pre (piece_block block h))
/-- the look, from the table's end on -/
theorem look_cut {p q : Program} {loose : List Str} {Xt : Shared → Bool} {α : Type} {Yf : Shared → α} {Ya : World → α} {g0 : Bool} {N M m : Nat} {ann : Option Value} {S₀ ST : World → Shared} {rest : Thread}
    (o : ∀ w : World, fencedOpening treeTable p w N = some (S₀ w)) (k : ∀ (w : World) (r : Shared), topRun treeTable p w m ann M (ST w) rest = some r → topRun treeTable p w m ann N (S₀ w) (topStub p) = some r)
    (h : ∀ w : World, (topRun treeTable p w m ann M (ST w) rest).map (fun s => (((S₀ w).heap.isNs mainGlobals && (S₀ w).gens.size == 0, (S₀ w).heap.objs.size, (S₀ w).heap.nsMap mainGlobals "__annotations__"),
        (staticsOk (importedModules p.main.body) (S₀ w).heap s.heap && namesBound p s.heap && gensDone s && laidKept (S₀ w).heap s.heap), openSeen q loose (importedModules p.main.body) Xt g0 s, Yf s)) =
      some ((true, m, ann), true, openGood q loose, Ya w)) : LeftO p q loose Xt Yf Ya N g0 := fun w => by
  obtain ⟨s, hs, e⟩ := Option.map_eq_some_iff.mp (h w)
  obtain ⟨e1, e2⟩ := Prod.mk.inj e
  obtain ⟨e2, e3⟩ := Prod.mk.inj e2
  obtain ⟨a1, a2⟩ := Prod.mk.inj e1
  obtain ⟨a2, a3⟩ := Prod.mk.inj a2
  have r := k w s hs
  have t : topFrom treeTable p w N (S₀ w) = some s := by
    unfold topFrom
    rw [a1, a2, a3]
    dsimp only
    rw [r]
    show (match staticsOk (importedModules p.main.body) (S₀ w).heap s.heap && namesBound p s.heap && gensDone s && laidKept (S₀ w).heap s.heap with | true => _ | false => _) = _
    rw [e2]
  unfold openEnds
  rw [o]
  show (topFrom treeTable p w N (S₀ w)).map _ = _
  rw [t]
  exact congrArg some e3
/-! The look in three parts: the opening; the two statements ahead (the table of signs, which alone asks the world's rows); the rest and the looks. Between them the state that the table leaves behind is written out. The `tw` are the library's quick twins. -/
noncomputable abbrev prg : Program := PySem.Challenge.rw_re0054_01.row.prog
noncomputable abbrev annM : Option Value := some (Value.ref 6)
noncomputable abbrev posM : Pos := ⟨0, 0, 0, 0⟩
noncomputable abbrev posT : Pos := ⟨3, 0, 3, 18⟩
noncomputable abbrev envM : Env := { scope := prg.main.scope, locals := mainNs, globals := mainNs, cells := [], code := Value.ref 30, frame := some 31 }
noncomputable abbrev codeM : Code := Code.body (behindTheImports prg) envM
noncomputable def opened (w : World) : Option Shared := (PySem.W.Fast.tw10274390034422433532 PySem.W.Fast.tw14364793385576792824 (opening prg) w 4434 (PySem.W.Fast.tw1435165496053646825 (opening prg)).1 (PySem.W.Fast.tw1435165496053646825 (opening prg)).2).bind (PySem.W.Fast.tw14289696077712309145 prg)
theorem opened_eq (w : World) : fencedOpening treeTable prg w 4434 = opened w := by
  unfold opened fencedOpening
  rw [← PySem.W.Fast.te10274390034422433532, ← PySem.W.Fast.te14289696077712309145, ← PySem.W.Fast.te1435165496053646825, ← PySem.W.Fast.te14364793385576792824]
noncomputable def st0 (w : World) : Shared := (opened w).getD (start prg).1
theorem opens (w : World) : (opened w).isSome = true := by kernel_rfl
theorem opens_at (w : World) : fencedOpening treeTable prg w 4434 = some (st0 w) := by
  rw [opened_eq]
  unfold st0
  have h := opens w
  revert h
  cases opened w <;> intro h
  · cases h
  · rfl
noncomputable def stA (w : World) : Shared := ((PySem.W.Fast.tw15667345088766844465 PySem.W.Fast.tw14364793385576792824 prg w 28 annM 12 (st0 w) (topStub prg)).getD (st0 w, topStub prg)).1
noncomputable abbrev obj_3 (P : Params) : Obj :=
  Obj.mk (Value.type "dict") none
    (Data.dict
      #[DictEntry.mk (PyData.keyHash P (Str.ofString "__name__"))
          (Value.str (Str.ofString "__name__") 165) (Value.str (Str.ofString "re") 282),
        DictEntry.mk (PyData.keyHash P (Str.ofString "__doc__"))
          (Value.str (Str.ofString "__doc__") 166) Value.none,
        DictEntry.mk (PyData.keyHash P (Str.ofString "__package__"))
          (Value.str (Str.ofString "__package__") 167) Value.none,
        DictEntry.mk (PyData.keyHash P (Str.ofString "__loader__"))
          (Value.str (Str.ofString "__loader__") 168) (Value.builtin "__main__.__loader__#opaque"),
        DictEntry.mk (PyData.keyHash P (Str.ofString "__spec__"))
          (Value.str (Str.ofString "__spec__") 169) Value.none,
        DictEntry.mk (PyData.keyHash P (Str.ofString "__annotations__"))
          (Value.str (Str.ofString "__annotations__") 170) (Value.ref 6),
        DictEntry.mk (PyData.keyHash P (Str.ofString "__builtins__"))
          (Value.str (Str.ofString "__builtins__") 171) (Value.ref 4),
        DictEntry.mk (PyData.keyHash P (Str.ofString "__file__"))
          (Value.str (Str.ofString "__file__") 173)
          (Value.str (Str.ofString "/claim/cut.py") 172),
        DictEntry.mk (PyData.keyHash P (Str.ofString "__cached__"))
          (Value.str (Str.ofString "__cached__") 174) Value.none,
        DictEntry.mk (PyData.keyHash P (Str.ofString "_sre"))
          (Value.str (Str.ofString "_sre") 275) (Value.ref 12),
        DictEntry.mk (PyData.keyHash P (Str.ofString "_special_chars_map"))
          (Value.str (Str.ofString "_special_chars_map") 429) (Value.ref 33)]
      11)
    #[]
noncomputable abbrev obj_32 : Obj :=
  Obj.mk (Value.type "bytes_iterator") none
    (Data.fields #[Value.none, Value.int 24 0]) #[]
noncomputable abbrev obj_33 : Obj :=
  Obj.mk (Value.type "dict") none
    (Data.dict
      #[DictEntry.mk 40 (Value.int 40 285) (Value.str (Str.ofString "\\(") 289),
        DictEntry.mk 41 (Value.int 41 291) (Value.str (Str.ofString "\\)") 295),
        DictEntry.mk 91 (Value.int 91 297) (Value.str (Str.ofString "\\[") 301),
        DictEntry.mk 93 (Value.int 93 303) (Value.str (Str.ofString "\\]") 307),
        DictEntry.mk 123 (Value.int 123 309) (Value.str (Str.ofString "\\{") 313),
        DictEntry.mk 125 (Value.int 125 315) (Value.str (Str.ofString "\\}") 319),
        DictEntry.mk 63 (Value.int 63 321) (Value.str (Str.ofString "\\?") 325),
        DictEntry.mk 42 (Value.int 42 327) (Value.str (Str.ofString "\\*") 331),
        DictEntry.mk 43 (Value.int 43 333) (Value.str (Str.ofString "\\+") 337),
        DictEntry.mk 45 (Value.int 45 339) (Value.str (Str.ofString "\\-") 343),
        DictEntry.mk 124 (Value.int 124 345) (Value.str (Str.ofString "\\|") 349),
        DictEntry.mk 94 (Value.int 94 351) (Value.str (Str.ofString "\\^") 355),
        DictEntry.mk 36 (Value.int 36 357) (Value.str (Str.ofString "\\$") 361),
        DictEntry.mk 92 (Value.int 92 363) (Value.str (Str.ofString "\\\\") 367),
        DictEntry.mk 46 (Value.int 46 369) (Value.str (Str.ofString "\\.") 373),
        DictEntry.mk 38 (Value.int 38 375) (Value.str (Str.ofString "\\&") 379),
        DictEntry.mk 126 (Value.int 126 381) (Value.str (Str.ofString "\\~") 385),
        DictEntry.mk 35 (Value.int 35 387) (Value.str (Str.ofString "\\#") 391),
        DictEntry.mk 32 (Value.int 32 393) (Value.str (Str.ofString "\\ ") 397),
        DictEntry.mk 9 (Value.int 9 399) (Value.str (Str.ofString "\\\t") 403),
        DictEntry.mk 10 (Value.int 10 405) (Value.str (Str.ofString "\\\n") 409),
        DictEntry.mk 13 (Value.int 13 411) (Value.str (Str.ofString "\\\x0d") 415),
        DictEntry.mk 11 (Value.int 11 417) (Value.str (Str.ofString "\\\x0b") 421),
        DictEntry.mk 12 (Value.int 12 423) (Value.str (Str.ofString "\\\x0c") 427)]
      24)
    #[]
noncomputable abbrev obj_34 : Obj :=
  Obj.mk (Value.type "dict") none (Data.dict #[] 2) #[]
noncomputable abbrev obj_35 : Obj :=
  Obj.mk (Value.type "tuple") none (Data.seq #[]) #[]
noncomputable abbrev obj_36 : Obj :=
  Obj.mk (Value.type "StopIteration") none
    (Data.fields
      #[Value.ref 35, Value.none, Value.none, Value.none, Value.bool false,
        Value.none])
    #[]
noncomputable def stT (w : World) : Shared := ⟨{ (stA w).heap with objs := ⟨(stA w).heap.objs.toList.set 3 (obj_3 w.params) ++ [obj_32, obj_33, obj_34, obj_35, obj_36]⟩ }, (stA w).gens, (stA w).drawn, 430, (stA w).os⟩
theorem pre_ok (w : World) : topGo treeTable prg w 28 annM 12 (st0 w) (topStub prg) = some (stA w, ⟨denote treeTable codeM, codeM, posM, [topFrame posM]⟩) := by
  rw [PySem.W.Fast.te15667345088766844465, PySem.W.Fast.te11892475500146522536, PySem.W.Fast.te14364793385576792824]
  kernel_rfl
theorem block_ok (w : World) : segRun treeTable prg w 28 annM 1 1 (stA w) (blockOf (behindTheImports prg) envM codeM posM [topFrame posM]) = some (.next, stA w, codeM, posM) := by
  unfold blockOf
  rw [PySem.W.Fast.te14374325043358763698, PySem.W.Fast.te1066825118222455980, PySem.W.Fast.te14364793385576792824]
  kernel_rfl
/-- the table of signs, of a world, by the quick twins -/
noncomputable abbrev TableQ (w : World) : Prop := PySem.W.Fast.tw14374325043358763698 PySem.W.Fast.tw14364793385576792824 prg w 28 annM 1 1300 (stA w) ⟨(PySem.W.Fast.tw12563942051412417395 ((behindTheImports prg).take 2) envM).wrap doneF deadEnd id id, codeM, posM, [topFrame posM]⟩ = some (.next, stT w, codeM, posT)
theorem table_ff : ∀ w : World, TableQ ((w.withFollow "special-get-raises" false).withFollow "comprehension-iter-twice" false) := fun w => by kernel_rfl
theorem table_ft : ∀ w : World, TableQ ((w.withFollow "special-get-raises" false).withFollow "comprehension-iter-twice" true) := fun w => by kernel_rfl
theorem table_tf : ∀ w : World, TableQ ((w.withFollow "special-get-raises" true).withFollow "comprehension-iter-twice" false) := fun w => by kernel_rfl
theorem table_tt : ∀ w : World, TableQ ((w.withFollow "special-get-raises" true).withFollow "comprehension-iter-twice" true) := fun w => by kernel_rfl
theorem table_q : ∀ w : World, TableQ w := byRow2 "comprehension-iter-twice" (byRow2 "special-get-raises" table_ff table_tf) (byRow2 "special-get-raises" table_ft table_tt)
theorem table_ok (w : World) : segRun treeTable prg w 28 annM 1 1300 (stA w) (piecesOf ((behindTheImports prg).take 2) envM codeM posM [topFrame posM]) = some (.next, stT w, codeM, posT) := by
  have h := table_q w
  unfold TableQ at h
  unfold piecesOf
  rw [PySem.W.Fast.te14374325043358763698, PySem.W.Fast.te12563942051412417395, PySem.W.Fast.te14364793385576792824]
  exact h
noncomputable abbrev restM : Thread := restOf ((behindTheImports prg).drop 2) envM codeM posT [topFrame posM]
theorem run_ok (w : World) (r : Shared) (k : topRun treeTable prg w 28 annM 1200 (stT w) restM = some r) : topRun treeTable prg w 28 annM 4434 (st0 w) (topStub prg) = some r :=
  run_cut (n₅ := 1921) (pre_ok w) (block_ok w) (table_ok w) rfl k
theorem look : ∀ w : World, LookOf hd w := by
  refine look_cut opens_at run_ok ?_
  intro w
  unfold restM restOf
  rw [PySem.W.Fast.te14082659384304107361, PySem.W.Fast.te12563942051412417395, PySem.W.Fast.te4187177175401517315, PySem.W.Fast.te14364793385576792824]
  kernel_rfl
end Mine
end
section
open PySem PySem.W PySem.W.X PyProof.Rows PySem.Spec PySem.Calls
set_option Elab.async false
set_option maxRecDepth 100000
namespace Mine
/-- what a function may lean on, of the heap in which it is called -/
structure Cx (w : World) (h : Heap) : Prop where
  X : (Mine.hd.heap_1 w.params).In h
  T : ∃ loose mean mg mb, Top topProg loose mean mg mb h
theorem Cx.keeps {w : World} {h h' : Heap} (c : Cx w h) (k : ∀ b o, h.get? b = some o → h'.get? b = some o) : Cx w h' :=
  ⟨c.X.keeps k, let ⟨a, b, x, y, T⟩ := c.T; ⟨a, b, x, y, T.keeps k⟩⟩
theorem enterK {w : World} {A : Around} {s : Shared} {Q : Value → Shared → Prop} {E : Value → Shared → Prop} {name qual : Str} {params : Arguments} {body : List Stmt} {scope : Scope} {dV kV doc pm cdv ct oc : Value} {an od : Option Addr} {osl : Array (Option Value)} {f : Addr} {args : List Value} {binds : List (Str × Value)}
    (X : (Mine.hd.heap_1 w.params).In s.heap) (hlim : s.heap.NoLimit)
    (ho : (Mine.hd.heap_1 w.params).lookup f = some ⟨oc, od, .func (fnOf name qual params body scope dV kV doc pm an cdv ct), osl⟩) (hcd : codeIn (Mine.hd.heap_1 w.params) cdv qual = true) (hroom : A.depth < recursionLimit)
    (hbind : BindsTo s (fnOf name qual params body scope dV kV doc pm an cdv ct) ⟨args, []⟩ binds) (hloc : ∀ y ∈ binds, scope.names.lookup y.1 = some .local)
    (h : ∀ L' h₁, L' = s.heap.objs.size → Fr s.heap L' h₁ (fun y => binds.reverse.lookup y) → News s.heap L' h₁ [] →
      wpAny (model PySem.Challenge.rw_re0054_01.row.prog w) (A.deeper (envOf qual scope L' f cdv)) (execs body (envOf qual scope L' f cdv))
        (fun fl s' => Q (match fl with | .ret v => v | _ => .none) s')
        (fun _ _ => False)
        { s with heap := h₁, toks := s.toks + binds.length })
    (hco : scope.isCoroutine = false) (hgen : scope.isGenerator = false) (hk : scope.kind = .function)
    (hcell : ∀ x ∈ scope.names, x.2 ≠ .cell) : wpAny (model PySem.Challenge.rw_re0054_01.row.prog w) A (call (.ref f) args) Q E s := by
  refine wpAny_call ?_
  refine codeAny_call_def (fd := fnOf name qual params body scope dV kV doc pm an cdv ct) (body := body) (binds := binds) hroom (X _ _ ho) rfl hlim (codeRec_of X hcd) rfl hbind hcell hloc (fun h₁ hns hk₁ => ?_) hco hgen hk
  exact wpAny_mono (h s.heap.objs.size h₁ rfl ⟨hns, hk₁, Nat.le_refl _⟩ News.nil) (fun _ _ x => x) (fun _ _ x => x.elim)
inductive All2 {α β : Type} (R : α → β → Prop) : List α → List β → Prop
  | nil : All2 R [] []
  | cons {a b l r} : R a b → All2 R l r → All2 R (a :: l) (b :: r)
noncomputable def PairAt (h : Heap) (v : Value) (p : Str × Int) : Prop := ∃ a t t', v = .ref a ∧ IsTup h a #[.str p.1 t, .int p.2 t']
noncomputable def ItemsAt (h : Heap) (v : Value) (xs : List (Str × Int)) : Prop := ∃ (a : Addr) (vs : List Value), v = .ref a ∧ h.IsList a vs.toArray ∧ All2 (PairAt h) vs xs
end Mine
end
section
open PySem PySem.Sre PySem.Sre.M
set_option Elab.async false
set_option maxRecDepth 100000
namespace Mine
namespace Rx
theorem inSet_seen (code : Array Nat) (c : Nat) : ∀ (fuel i : Nat) (yes : Bool) (s0 s1 : Seen) (b : Bool) (sn : Seen),
    inSet code c fuel i yes s0 = .ok (b, sn) → ∃ sn', inSet code c fuel i yes s1 = .ok (b, sn')
  | 0, _, _, _, _, _, _, h => by cases h
  | fuel + 1, i, yes, s0, s1, b, sn, h => by
    unfold inSet at h ⊢
    dsimp only at h ⊢
    generalize ops[code.getD (i + 0) 0]? = o at h ⊢
    cases o with
    | none => cases h
    | some op =>
      cases op <;> dsimp only at h ⊢ <;> first
        | (cases h; done)
        | (cases h; exact ⟨_, rfl⟩)
        | exact inSet_seen code c fuel _ _ _ _ _ _ h
        | (split at h
           · rename_i q; cases h; rw [if_pos q]; exact ⟨_, rfl⟩
           · rename_i q; rw [if_neg q]; exact inSet_seen code c fuel _ _ _ _ _ _ h)
        | (cases hc : category (code.getD (i + 1) 0) c with
           | error e => rw [hc] at h; cases h
           | ok y =>
             rw [hc] at h
             cases y with
             | true => cases h; exact ⟨_, rfl⟩
             | false => exact inSet_seen code c fuel _ _ _ _ _ _ h)
/-- one sign under the item at i: taken or not, whatever has been seen -/
noncomputable def Acc (code : Array Nat) (i c : Nat) (b : Bool) : Prop := ∀ s0, ∃ sn, accepts code i c s0 = .ok (b, sn)
noncomputable def accB (code : Array Nat) (i c : Nat) : Option Bool := match accepts code i c {} with | .ok (b, _) => some b | .error _ => none
theorem acc_of {code : Array Nat} {i c : Nat} {b : Bool} (h : accB code i c = some b) : Acc code i c b := by
  intro s0
  unfold accB at h
  unfold accepts at h ⊢
  dsimp only at h ⊢
  generalize ops[code.getD i 0]? = o at h ⊢
  cases o with
  | none => cases h
  | some op =>
    cases op <;> dsimp only at h ⊢ <;> first
      | (cases h; done)
      | (cases h; exact ⟨_, rfl⟩)
      | (revert h; split
         · rename_i hq; intro h; cases h; exact inSet_seen _ _ _ _ _ _ _ _ _ hq
         · intro h; cases h)
noncomputable def iter : Nat → M → M
  | 0, m => m
  | n + 1, m => iter n m.step
theorem step_done {m : M} (h : m.outcome.isSome = true) : m.step = m := by unfold M.step; rw [if_pos h]
theorem iter_done {m : M} (h : m.outcome.isSome = true) : ∀ n, iter n m = m
  | 0 => rfl
  | n + 1 => by unfold iter; rw [step_done h]; exact iter_done h n
theorem runFor_eq : ∀ (n : Nat) (m : M), m.runFor n = iter n m
  | 0, _ => rfl
  | n + 1, m => by
    unfold M.runFor iter
    by_cases h : m.outcome.isSome = true
    · rw [if_pos h, step_done h, iter_done h]
    · rw [if_neg h]; exact runFor_eq n _
theorem iter_add : ∀ (a b : Nat) (m : M), iter (a + b) m = iter b (iter a m)
  | 0, b, m => by rw [Nat.zero_add]; rfl
  | a + 1, b, m => by rw [Nat.add_right_comm]; exact iter_add a b m.step
/-- the machine comes to an end within b steps, and there P holds -/
noncomputable def Ends (b : Nat) (m : M) (P : M → Prop) : Prop := ∃ n, n ≤ b ∧ (iter n m).outcome.isSome = true ∧ P (iter n m)
theorem Ends.mono {b b' : Nat} {m : M} {P : M → Prop} (h : Ends b m P) (hb : b ≤ b') : Ends b' m P := let ⟨n, h1, h2⟩ := h; ⟨n, Nat.le_trans h1 hb, h2⟩
theorem Ends.step {b : Nat} {m m' : M} {P : M → Prop} (e : m.step = m') (h : Ends b m' P) : Ends (b + 1) m P := by
  obtain ⟨n, h1, h2, h3⟩ := h
  refine ⟨n + 1, Nat.succ_le_succ h1, ?_⟩
  unfold iter; rw [e]; exact ⟨h2, h3⟩
theorem Ends.done {b : Nat} {m : M} {P : M → Prop} (h : m.outcome.isSome = true) (p : P m) : Ends b m P := ⟨0, Nat.zero_le _, h, p⟩
section
open Builtin.Re
variable {M : Model} {A : Around} {E : Value → Shared → Prop} {s : Shared}
theorem drive {P : Sre.M → Prop} {Q : Sre.M → Shared → Prop} (hq : ∀ m', m'.outcome.isSome = true → P m' → Q m' s) : ∀ (turns : Nat) (b : Nat) (m : Sre.M), Ends b m P → b < 4 * turns → wpAny M A (reDrive turns m) Q E s
  | 0, b, m, _, hb => absurd hb (by omega)
  | turns + 1, b, m, h, hb => by
    unfold reDrive
    dsimp only
    rw [show reTurnSteps = 4 from rfl, runFor_eq]
    by_cases ho : (iter 4 m).outcome.isSome = true
    · rw [if_pos ho]
      refine wpAny_pure (hq _ ho ?_)
      obtain ⟨n, _, h2, h3⟩ := h
      by_cases hn : n ≤ 4
      · have e : iter 4 m = iter n m := by
          rw [show 4 = n + (4 - n) by omega, iter_add, iter_done h2]
        rw [e]; exact h3
      · have e : iter n m = iter 4 m := by
          rw [show n = 4 + (n - 4) by omega, iter_add, iter_done ho]
        rw [← e]; exact h3
    · rw [if_neg ho]
      refine wpAny_bind (wpAny_rule ?_)
      obtain ⟨n, h1, h2, h3⟩ := h
      have hn : 4 ≤ n := by
        refine Nat.le_of_not_lt fun hl => ho ?_
        rw [show 4 = n + (4 - n) by omega, iter_add, iter_done h2]; exact h2
      have e : iter n m = iter (n - 4) (iter 4 m) := by
        rw [← iter_add, show 4 + (n - 4) = n by omega]
      rw [e] at h2 h3
      exact drive hq turns (b - 4) (iter 4 m) ⟨n - 4, by omega, h2, h3⟩ (by omega)
theorem forIn_rules {α : Type} {l : List α} {f : α → PUnit → Sem (ForInStep PUnit)} {Q : PUnit → Shared → Prop} (hf : ∀ a ∈ l, ∀ Q' : ForInStep PUnit → Shared → Prop, Q' (.yield ⟨⟩) s → wpAny M A (f a ⟨⟩) Q' E s) (h : Q ⟨⟩ s) :
    wpAny M A (forIn l PUnit.unit f) Q E s := by
  induction l with
  | nil => exact wpAny_pure h
  | cons a r ih =>
    rw [List.forIn_cons]
    refine wpAny_bind (hf a (.head _) _ ?_)
    exact ih (fun b hb => hf b (.tail _ hb))
theorem runToEnd {b : Nat} {m : Sre.M} {P : Sre.M → Prop} {Q : Option Sre.M → Shared → Prop} (h : Ends b m P) (hb : b < 4 * 2 ^ 64)
    (hp : ∀ m', P m' → match m'.outcome with | some .matched => Q (some m') s | some .failed => Q none s | _ => False) : wpAny M A (reRunToEnd m) Q E s := by
  unfold reRunToEnd
  refine wpAny_bind (drive (P := P) (fun m' ho pm => ?_) _ b m h hb)
  refine wpAny_bind (forIn_rules (fun i _ Q' q => ?_) ?_)
  · by_cases hs : m'.seen.has i = true
    · rw [if_pos hs]; exact wpAny_bind (wpAny_rule (wpAny_pure q))
    · rw [if_neg hs]; exact wpAny_pure q
  · have := hp m' pm
    revert this
    cases m'.outcome with
    | none => exact fun x => x.elim
    | some o => cases o with
      | matched => exact fun x => wpAny_pure x
      | failed => exact fun x => wpAny_pure x
      | stuck => exact fun x => x.elim
end
end Rx
end Mine
end
section
open PySem PySem.Sre PySem.Sre.M
set_option Elab.async false
set_option maxRecDepth 100000
namespace Mine
namespace Rx
noncomputable def yesW : Wait → Bool
  | .nextStart | .giveBack | .closeLoop | .maxMore | .maxTail => true
  | _ => false
noncomputable def Fin (m m' : M) : Prop := m'.outcome = some .matched ∧ m'.start = m.start ∧ m'.handed = m.handed ∧ m'.marks = m.marks ∧ m'.lastmark = m.lastmark ∧ m'.lastindex = m.lastindex
theorem resume_yes {m : M} {f : Sre.Frame} (h : yesW f.wait = true) : ∃ m', m.resume f true = m' ∧ m'.answer = some true ∧ m'.frames = m.frames ∧ m'.outcome = m.outcome ∧
    m'.start = m.start ∧ m'.handed = m.handed ∧ m'.marks = m.marks ∧ m'.lastmark = m.lastmark ∧ m'.lastindex = m.lastindex := by
  refine ⟨_, rfl, ?_⟩
  unfold M.resume
  dsimp only
  revert h
  cases f.wait <;> intro h <;> first | (cases h; done) | (dsimp only; exact ⟨rfl, rfl, rfl, rfl, rfl, rfl, rfl, rfl⟩)
theorem unwind : ∀ (n : Nat) (m : M), m.frames.length = n → m.outcome = none → m.answer = some true → (∀ f ∈ m.frames, yesW f.wait = true) → Ends (n + 1) m (Fin m)
  | 0, m, hl, ho, ha, _ => by
    have hf : m.frames = [] := List.eq_nil_of_length_eq_zero hl
    refine Ends.step (m' := { m with outcome := some .matched }) ?_ (.done rfl ⟨rfl, rfl, rfl, rfl, rfl, rfl⟩)
    unfold M.step
    rw [ho, ha, hf]; rfl
  | n + 1, m, hl, ho, ha, hy => by
    cases hf : m.frames with
    | nil => rw [hf] at hl; cases hl
    | cons f rest =>
      obtain ⟨m', e, h1, h2, h3, h4, h5, h6, h7, h8⟩ := resume_yes (m := { m with answer := none, frames := rest, weight := m.weight - (1 + f.kept.marks.size), pc := f.pc, pos := f.pos, outermost := f.outermost }) (hy f (by rw [hf]; exact .head _))
      refine Ends.step (m' := m') ?_ ?_
      · unfold M.step
        rw [ho] at e
        rw [ho, ha, hf]; exact e
      · have := unwind n m' (by rw [h2]; rw [hf] at hl; exact Nat.succ.inj hl) (h3.trans ho) h1 (fun g hg => hy g (by rw [h2] at hg; rw [hf]; exact .tail _ hg))
        obtain ⟨k, hk, h9, q1, q2, q3, q4, q5, q6⟩ := this
        exact ⟨k, hk, h9, q1, q2.trans h4, q3.trans h5, q4.trans h6, q5.trans h7, q6.trans h8⟩
section
variable {b : Nat} {m : M} {P : M → Prop}
theorem e_exec (ho : m.outcome = none) (ha : m.answer = none) (hpc : m.pc < m.code.size) (h : Ends b m.exec P) : Ends (b + 1) m P := by
  refine Ends.step ?_ h
  unfold M.step
  rw [ho, ha, if_pos hpc]; rfl
theorem e_resume {f : Sre.Frame} {rest : List Sre.Frame} {yes : Bool} (ho : m.outcome = none) (ha : m.answer = some yes) (hf : m.frames = f :: rest)
    (h : Ends b (M.resume { m with answer := none, frames := rest, weight := m.weight - (1 + f.kept.marks.size), pc := f.pc, pos := f.pos, outermost := f.outermost } f yes) P) : Ends (b + 1) m P := by
  refine Ends.step ?_ h
  unfold M.step
  rw [ho, ha, hf]; rfl
/-- the operations that take one sign -/
noncomputable def oneOp : Op → Bool
  | .ANY | .ANY_ALL | .LITERAL | .NOT_LITERAL | .IN => true
  | _ => false
theorem e_one {op : Op} {c : Nat} (hop : ops[m.word 0]? = some op) (h1 : oneOp op = true) (ho : m.outcome = none) (ha : m.answer = none) (hpc : m.pc < m.code.size) (hp : m.pos < m.lim)
    (hc : m.text.getD m.pos 0 = c) (acc : Acc m.code m.pc c true) {pc' : Nat} (hpc' : m.pc + itemWidth m.code m.pc = pc') (k : ∀ sn, Ends b { m with seen := sn, pc := pc', pos := m.pos + 1 } P) : Ends (b + 1) m P := by
  subst hpc'
  refine e_exec ho ha hpc ?_
  obtain ⟨sn, e⟩ := acc (m.seen.add (m.word 0))
  have hx : m.exec = { m with seen := sn, pc := m.pc + itemWidth m.code m.pc, pos := m.pos + 1 } := by
    unfold M.exec
    rw [hop]
    cases op <;> first | (cases h1; done) | (dsimp only; rw [if_neg (Nat.not_le.mpr hp), hc, e])
  rw [hx]; exact k sn
theorem e_oneNo {op : Op} {c : Nat} (hop : ops[m.word 0]? = some op) (h1 : oneOp op = true) (ho : m.outcome = none) (ha : m.answer = none) (hpc : m.pc < m.code.size) (hp : m.pos < m.lim)
    (hc : m.text.getD m.pos 0 = c) (acc : Acc m.code m.pc c false) (k : ∀ sn, Ends b { m with seen := sn, answer := some false } P) : Ends (b + 1) m P := by
  refine e_exec ho ha hpc ?_
  obtain ⟨sn, e⟩ := acc (m.seen.add (m.word 0))
  have hx : m.exec = { m with seen := sn, answer := some false } := by
    unfold M.exec
    rw [hop]
    cases op <;> first | (cases h1; done) | (dsimp only; rw [if_neg (Nat.not_le.mpr hp), hc, e]; rfl)
  rw [hx]; exact k sn
theorem e_oneEnd {op : Op} (hop : ops[m.word 0]? = some op) (h1 : oneOp op = true) (ho : m.outcome = none) (ha : m.answer = none) (hpc : m.pc < m.code.size) (hp : m.lim ≤ m.pos)
    (k : ∀ sn, Ends b { m with seen := sn, answer := some false } P) : Ends (b + 1) m P := by
  refine e_exec ho ha hpc ?_
  have hx : m.exec = { m with seen := m.seen.add (m.word 0), answer := some false } := by
    unfold M.exec
    rw [hop]
    cases op <;> first | (cases h1; done) | (dsimp only; rw [if_pos hp]; rfl)
  rw [hx]; exact k _
theorem e_at (hop : ops[m.word 0]? = some .AT) (h0 : m.word 1 = 0) (ho : m.outcome = none) (ha : m.answer = none) (hpc : m.pc < m.code.size) (hp : m.pos = 0)
    {pc' : Nat} (hpc' : m.pc + 2 = pc') (k : ∀ sn, Ends b { m with seen := sn, pc := pc' } P) : Ends (b + 1) m P := by
  subst hpc'
  refine e_exec ho ha hpc ?_
  have hx : m.exec = { m with seen := (m.seen.add (m.word 0)).add 43, pc := m.pc + 2 } := by
    unfold M.exec
    rw [hop]
    dsimp only
    have e : M.word { m with seen := m.seen.add (m.word 0) } 1 = 0 := h0
    rw [e]
    unfold M.isAt
    dsimp only
    rw [hp]; rfl
  rw [hx]; exact k _
theorem e_atNo (hop : ops[m.word 0]? = some .AT) (h0 : m.word 1 = 0) (ho : m.outcome = none) (ha : m.answer = none) (hpc : m.pc < m.code.size) (hp : m.pos ≠ 0)
    (k : ∀ sn, Ends b { m with seen := sn, answer := some false } P) : Ends (b + 1) m P := by
  refine e_exec ho ha hpc ?_
  have hx : m.exec = { m with seen := (m.seen.add (m.word 0)).add 43, answer := some false } := by
    unfold M.exec
    rw [hop]
    dsimp only
    have e : M.word { m with seen := m.seen.add (m.word 0) } 1 = 0 := h0
    rw [e]
    unfold M.isAt
    dsimp only
    rw [show (m.pos == 0) = false from by simp [hp]]; rfl
  rw [hx]; exact k _
theorem e_mark {i : Nat} (hop : ops[m.word 0]? = some .MARK) (hi : m.word 1 = i) (ho : m.outcome = none) (ha : m.answer = none) (hpc : m.pc < m.code.size) (hl : (i : Int) ≤ m.lastmark + 1)
    {pc' : Nat} (hpc' : m.pc + 2 = pc') {mk' : Array (Option Nat)} (hmk : m.marks.setIfInBounds i (some m.pos) = mk') {lm li : Int} (hlm : max m.lastmark i = lm) (hli : (if i % 2 == 1 then ((i / 2 + 1 : Nat) : Int) else m.lastindex) = li)
    (k : ∀ sn, Ends b { m with seen := sn, marks := mk', lastmark := lm, lastindex := li, pc := pc' } P) : Ends (b + 1) m P := by
  subst hpc' hmk hlm hli
  refine e_exec ho ha hpc ?_
  have hx : m.exec = { m with seen := m.seen.add (m.word 0), marks := m.marks.setIfInBounds i (some m.pos), lastmark := max m.lastmark i, lastindex := if i % 2 == 1 then (i / 2 + 1 : Nat) else m.lastindex, pc := m.pc + 2 } := by
    unfold M.exec
    rw [hop]
    dsimp only
    have e : M.word { m with seen := m.seen.add (m.word 0) } 1 = i := hi
    rw [e]
    unfold M.mark
    dsimp only
    rw [if_pos hl]
  rw [hx]; exact k _
theorem e_success (hop : ops[m.word 0]? = some .SUCCESS) (ho : m.outcome = none) (ha : m.answer = none) (hpc : m.pc < m.code.size) (hw : m.wholeText = true → m.pos = m.lim) (hm : m.mustAdvance = true → m.pos ≠ m.start)
    (k : ∀ sn, Ends b { m with seen := sn, handed := m.pos, answer := some true } P) : Ends (b + 1) m P := by
  refine e_exec ho ha hpc ?_
  have hx : m.exec = { m with seen := m.seen.add (m.word 0), handed := m.pos, answer := some true } := by
    unfold M.exec
    rw [hop]
    dsimp only
    rw [if_neg]
    · rfl
    · intro h
      simp only [Bool.and_eq_true, Bool.or_eq_true, bne_iff_ne, beq_iff_eq] at h
      rcases h.2 with ⟨q, r⟩ | ⟨q, r⟩
      · exact r (hw q)
      · exact hm q r
  rw [hx]; exact k _
theorem e_successNo (hop : ops[m.word 0]? = some .SUCCESS) (ho : m.outcome = none) (ha : m.answer = none) (hpc : m.pc < m.code.size) (hu : m.outermost = true) (hw : m.wholeText = true) (hm : m.pos ≠ m.lim)
    (k : ∀ sn, Ends b { m with seen := sn, answer := some false } P) : Ends (b + 1) m P := by
  refine e_exec ho ha hpc ?_
  have hx : m.exec = { m with seen := m.seen.add (m.word 0), answer := some false } := by
    unfold M.exec
    rw [hop]
    dsimp only
    rw [if_pos]
    · rfl
    · simp [hu, hw, hm]
  rw [hx]; exact k _
end
/-- a run of one item: the signs of mid are taken, and then it stops -/
theorem run_seg {code : Array Nat} {i : Nat} {t : List Nat} : ∀ (mid pre post : List Nat) (n found : Nat) (s0 : Seen), t = pre ++ mid ++ post → (∀ c ∈ mid, Acc code i c true) →
    (n = mid.length ∨ (mid.length ≤ n ∧ ∃ c r, post = c :: r ∧ Acc code i c false)) → ∃ sn, Sre.run code t.toArray i n pre.length found s0 = .ok (found + mid.length, sn)
  | [], pre, post, n, found, s0, ht, _, hn => by
    cases n with
    | zero => exact ⟨s0, rfl⟩
    | succ n =>
      rcases hn with hn | ⟨_, c, r, rfl, ha⟩
      · cases hn
      · obtain ⟨sn, e⟩ := ha s0
        refine ⟨sn, ?_⟩
        unfold Sre.run
        have hc : t.toArray.getD pre.length 0 = c := by subst ht; simp
        rw [hc, e]; rfl
  | c :: mid, pre, post, n, found, s0, ht, hm, hn => by
    cases n with
    | zero =>
      rcases hn with hn | ⟨hn, _⟩
      · cases hn
      · exact absurd hn (Nat.not_succ_le_zero _)
    | succ n =>
      obtain ⟨s1, e⟩ := hm c (.head _) s0
      obtain ⟨sn, e2⟩ := run_seg (t := t) mid (pre ++ [c]) post n (found + 1) s1 (by rw [ht]; simp) (fun d hd => hm d (.tail _ hd)) (hn.imp (fun h => Nat.succ.inj h) (fun h => ⟨Nat.le_of_succ_le_succ h.1, h.2⟩))
      refine ⟨sn, ?_⟩
      unfold Sre.run
      have hc : t.toArray.getD pre.length 0 = c := by subst ht; simp
      rw [hc, e]
      show Sre.run code t.toArray i n (pre.length + 1) (found + 1) s1 = _
      rw [show pre.length + 1 = (pre ++ [c]).length by simp, e2]
      simp only [List.length_cons]
      rw [Nat.add_right_comm, Nat.add_assoc]
theorem e_rep {b : Nat} {m : M} {P : M → Prop} {t pre mid post : List Nat} {lo : Nat} (hop : ops[m.word 0]? = some .REPEAT_ONE) (h2 : m.word 2 = lo) (h3 : m.word 3 = maxRepeat) (ho : m.outcome = none) (ha : m.answer = none) (hpc : m.pc < m.code.size)
    (ht : m.text = t.toArray) (hl : m.lim = t.length) (hp : m.pos = pre.length) (hd : t = pre ++ mid ++ post) (hlo : lo ≤ mid.length) (hm : ∀ c ∈ mid, Acc m.code (m.pc + 4) c true)
    (hs : post = [] ∨ ∃ c r, post = c :: r ∧ Acc m.code (m.pc + 4) c false) (hsz : t.length ≤ maxRepeat) (hw : m.weight + 1 + (m.keep m.inner.isSome).marks.size ≤ 16777216)
    {pc' : Nat} (hpc' : m.pc + 1 + m.word 1 = pc') {pos' : Nat} (hpos' : m.pos + mid.length = pos') {kp : Sre.Kept} (hkp : m.keep m.inner.isSome = kp) {wt : Nat} (hwt : m.weight + 1 + kp.marks.size = wt)
    (k : ∀ sn, Ends b { m with seen := sn, pc := pc', pos := pos', handed := pos', frames := { wait := .giveBack, pc := m.pc, pos := pos', outermost := m.outermost, count := mid.length, kept := kp } :: m.frames, weight := wt } P) : Ends (b + 1) m P := by
  subst hpc' hpos' hkp hwt
  refine e_exec ho ha hpc ?_
  have hlen : t.length = pre.length + mid.length + post.length := by rw [hd]; simp only [List.length_append]
  have hroom : ((m.lim : Int) - m.pos) = (mid.length + post.length : Nat) := by rw [hl, hp]; omega
  have hmin : min maxRepeat ((m.lim : Int) - m.pos).toNat = mid.length + post.length := by
    rw [hroom]
    have : mid.length + post.length ≤ maxRepeat := by omega
    rw [Int.toNat_natCast]; omega
  obtain ⟨sn, e⟩ := run_seg (t := t) mid pre post (mid.length + post.length) 0 ((m.seen.add (m.word 0)).add (m.word 4)) hd hm (hs.imp (fun h => by rw [h]; rfl) (fun h => ⟨Nat.le_add_right _ _, h⟩))
  have hx : m.exec = { m with seen := sn, pc := m.pc + 1 + m.word 1, pos := m.pos + mid.length, handed := m.pos + mid.length, frames := { wait := .giveBack, pc := m.pc, pos := m.pos + mid.length, outermost := m.outermost, count := mid.length, kept := m.keep m.inner.isSome } :: m.frames, weight := m.weight + 1 + (m.keep m.inner.isSome).marks.size } := by
    unfold M.exec
    rw [hop]
    dsimp only
    have e2 : M.word { m with seen := m.seen.add (m.word 0) } 2 = lo := h2
    have e3 : M.word { m with seen := m.seen.add (m.word 0) } 3 = maxRepeat := h3
    rw [e2, e3, if_neg (by rw [hroom]; omega)]
    simp only [Bool.false_eq_true, if_false]
    rw [hmin]
    have e5 : Sre.run m.code m.text (m.pc + 4) (mid.length + post.length) m.pos 0 ((m.seen.add (m.word 0)).add (M.word { m with seen := m.seen.add (m.word 0) } 4)) = .ok (0 + mid.length, sn) := by
      rw [ht, hp]; exact e
    rw [e5]
    dsimp only
    rw [if_neg (by omega)]
    unfold M.afterRun M.attempt
    dsimp only
    rw [if_neg]
    · simp only [Nat.zero_add]; rfl
    · show ¬ (m.weight + 1 + (m.keep m.inner.isSome).marks.size > 16777216)
      omega
  rw [hx]; exact k _
end Rx
end Mine
end
section
open PySem PySem.Sre PySem.Sre.M
set_option Elab.async false
set_option maxRecDepth 100000
namespace Mine
namespace Rx
noncomputable def cTok : Array Nat := #[14, 4, 0, 1, 4294967295, 6, 0, 24, 9, 0, 4294967295, 13, 4, 8, 12, 0, 1, 17, 0, 24, 19, 1, 4294967295, 13, 14, 21, 9, 0, 671092736, 0, 0, 0, 0, 0, 0, 8, 12, 0, 1, 17, 1, 1]
noncomputable def cQuo : Array Nat := #[14, 4, 0, 3, 4294967295, 6, 0, 24, 9, 0, 4294967295, 13, 4, 8, 12, 0, 1, 16, 61, 24, 9, 0, 4294967295, 13, 4, 8, 12, 0, 1, 16, 34, 17, 0, 24, 12, 0, 4294967295, 13, 7, 21, 16, 34, 16, 92, 0, 1, 23, 19, 0, 4294967295, 16, 92, 2, 24, 12, 0, 4294967295, 13, 7, 21, 16, 34, 16, 92, 0, 1, 18, 17, 1, 16, 34, 1]
noncomputable def cVal : Array Nat := #[14, 4, 0, 1, 4294967295, 6, 0, 24, 9, 0, 4294967295, 13, 4, 8, 12, 0, 1, 16, 61, 24, 9, 0, 4294967295, 13, 4, 8, 12, 0, 1, 17, 0, 24, 14, 0, 4294967295, 13, 9, 21, 8, 12, 16, 59, 16, 44, 0, 1, 17, 1, 1]
noncomputable def cEsc : Array Nat := #[14, 8, 1, 2, 2, 1, 1, 92, 0, 16, 92, 17, 0, 2, 17, 1, 1]
noncomputable def cJTok : Array Nat := #[14, 4, 0, 1, 4294967295, 24, 16, 1, 4294967295, 13, 11, 9, 0, 67071226, 3355443198, 1476395007, 0, 0, 0, 0, 0, 1, 1]
noncomputable def cJEsc : Array Nat := #[14, 9, 4, 1, 1, 16, 34, 16, 92, 0, 17, 0, 13, 6, 16, 34, 16, 92, 0, 17, 1, 1]
noncomputable def cTwin : Array Nat := #[14, 4, 0, 0, 4294967295, 6, 0, 24, 13, 0, 4294967295, 13, 8, 16, 61, 8, 12, 16, 59, 0, 1, 1]
/-- the signs that can come up -/
noncomputable def sigma : List Nat := [97, 46, 42, 34, 92, 32, 59, 126, 40, 63, 62, 41, 107, 61, 44, 122]
/-- one try of a search, at s -/
noncomputable def At (code : Array Nat) (hd : Nat) (t : List Nat) (marks : Array (Option Nat)) (ls s : Nat) (first must : Bool) (sn : Seen) : M :=
  { code, text := t.toArray, lim := t.length, start := s, lastStart := ls, mustAdvance := must, pc := hd, pos := s, handed := s, outermost := first, marks, frames := [{ wait := .nextStart, pc := hd, pos := s, outermost := first }], weight := 1, seen := sn }
section
variable {b : Nat} {m : M} {P : M → Prop}
theorem e_next {f : Sre.Frame} (ho : m.outcome = none) (ha : m.answer = some false) (hf : m.frames = [f]) (hw : f.wait = .nextStart) (hlt : f.pos < m.lastStart) (hs : m.hasFirstSet = false) (hwt : m.weight ≤ 16777215)
    (k : Ends b { m with answer := none, mustAdvance := false, start := f.pos + 1, pos := f.pos + 1, handed := f.pos + 1, lastmark := -1, lastindex := -1, pc := f.pc, outermost := false, frames := [{ wait := .nextStart, pc := f.pc, pos := f.pos + 1, outermost := false }], weight := m.weight - (1 + f.kept.marks.size) + 1 } P) : Ends (b + 1) m P := by
  refine e_resume ho ha hf ?_
  have hx : M.resume { m with answer := none, frames := [], weight := m.weight - (1 + f.kept.marks.size), pc := f.pc, pos := f.pos, outermost := f.outermost } f false = { m with answer := none, mustAdvance := false, start := f.pos + 1, pos := f.pos + 1, handed := f.pos + 1, lastmark := -1, lastindex := -1, pc := f.pc, outermost := false, frames := [{ wait := .nextStart, pc := f.pc, pos := f.pos + 1, outermost := false }], weight := m.weight - (1 + f.kept.marks.size) + 1 } := by
    unfold M.resume
    rw [hw]
    dsimp only
    rw [if_neg (by decide), if_pos hlt]
    unfold M.attemptFrom
    have e : M.hasFirstSet { m with answer := none, frames := [], weight := m.weight - (1 + f.kept.marks.size), pc := f.pc, pos := f.pos, outermost := f.outermost, mustAdvance := false } = false := hs
    rw [e]
    unfold M.attemptAt M.attempt
    simp only [Bool.not_false, if_true]
    rw [if_neg]
    · rfl
    · show ¬ (m.weight - (1 + f.kept.marks.size) + 1 + 0 > 16777216)
      omega
  rw [hx]; exact k
theorem e_over {f : Sre.Frame} (ho : m.outcome = none) (ha : m.answer = some false) (hf : m.frames = [f]) (hw : f.wait = .nextStart) (hlt : ¬ f.pos < m.lastStart) (p : ∀ m', m'.outcome = some .failed → P m') : Ends (b + 2) m P := by
  refine e_resume ho ha hf ?_
  refine Ends.step (m' := M.step _) rfl (.done ?_ (p _ ?_))
  all_goals
    unfold M.resume
    rw [hw]
    dsimp only
    rw [if_neg (by decide), if_neg hlt]
    unfold M.step M.say
    rw [ho]
    rfl
theorem e_backNo {f : Sre.Frame} {rest : List Sre.Frame} (ho : m.outcome = none) (ha : m.answer = some false) (hf : m.frames = f :: rest) (hw : f.wait = .giveBack) (hc : f.count - 1 < m.code.getD (f.pc + 2) 0)
    (k : Ends b { m with answer := some false, frames := rest, weight := m.weight - (1 + f.kept.marks.size), pc := f.pc, pos := f.pos, outermost := f.outermost, lastmark := f.kept.lastmark, lastindex := f.kept.lastindex, marks := if f.kept.whole then f.kept.marks ++ m.marks.extract f.kept.marks.size m.marks.size else m.marks } P) : Ends (b + 1) m P := by
  refine e_resume ho ha hf ?_
  have hx : M.resume { m with answer := none, frames := rest, weight := m.weight - (1 + f.kept.marks.size), pc := f.pc, pos := f.pos, outermost := f.outermost } f false = { m with answer := some false, frames := rest, weight := m.weight - (1 + f.kept.marks.size), pc := f.pc, pos := f.pos, outermost := f.outermost, lastmark := f.kept.lastmark, lastindex := f.kept.lastindex, marks := if f.kept.whole then f.kept.marks ++ m.marks.extract f.kept.marks.size m.marks.size else m.marks } := by
    unfold M.resume
    rw [hw]
    dsimp only
    rw [if_neg (by decide)]
    exact (if_pos hc).trans rfl
  rw [hx]; exact k
theorem e_backGo {f : Sre.Frame} {rest : List Sre.Frame} (ho : m.outcome = none) (ha : m.answer = some false) (hf : m.frames = f :: rest) (hw : f.wait = .giveBack) (hc : ¬ f.count - 1 < m.code.getD (f.pc + 2) 0) (hwt : m.weight ≤ 16777215) (hk : f.kept.marks.size = 0)
    (hwh : f.kept.whole = false)
    (k : Ends b { m with answer := none, frames := { wait := .giveBack, pc := f.pc, pos := f.pos - 1, outermost := f.outermost, count := f.count - 1, kept := f.kept } :: rest, weight := m.weight - (1 + f.kept.marks.size) + 1, pc := f.pc + 1 + m.code.getD (f.pc + 1) 0, pos := f.pos - 1, handed := f.pos - 1, outermost := f.outermost, lastmark := f.kept.lastmark, lastindex := f.kept.lastindex } P) : Ends (b + 1) m P := by
  refine e_resume ho ha hf ?_
  have hx : M.resume { m with answer := none, frames := rest, weight := m.weight - (1 + f.kept.marks.size), pc := f.pc, pos := f.pos, outermost := f.outermost } f false = { m with answer := none, frames := { wait := .giveBack, pc := f.pc, pos := f.pos - 1, outermost := f.outermost, count := f.count - 1, kept := f.kept } :: rest, weight := m.weight - (1 + f.kept.marks.size) + 1, pc := f.pc + 1 + m.code.getD (f.pc + 1) 0, pos := f.pos - 1, handed := f.pos - 1, outermost := f.outermost, lastmark := f.kept.lastmark, lastindex := f.kept.lastindex } := by
    unfold M.resume
    rw [hw]
    dsimp only
    rw [if_neg (by decide)]
    refine (if_neg hc).trans ?_
    unfold M.putBack M.afterRun M.attempt
    simp only [hwh, Bool.false_eq_true, if_false]
    refine (if_neg ?_).trans ?_
    · show ¬ (m.weight - (1 + f.kept.marks.size) + 1 + f.kept.marks.size > 16777216)
      omega
    · simp only [hk]
      rfl
  rw [hx]; exact k
end
/-- a search by a pattern that opens with ^ : behind the first place all tries fail -/
theorem anchored {P : M → Prop} (p : ∀ m', m'.outcome = some .failed → P m') : ∀ (d : Nat) (m : M) (f : Sre.Frame), m.lastStart - f.pos = d → m.outcome = none → m.answer = some false → m.frames = [f] → f.wait = .nextStart →
    m.hasFirstSet = false → m.weight ≤ 16777215 → m.weight - (1 + f.kept.marks.size) + 1 ≤ 16777215 → ops[m.code.getD f.pc 0]? = some .AT → m.code.getD (f.pc + 1) 0 = 0 → f.pc < m.code.size → Ends (2 * d + 2) m P
  | 0, m, f, hd, ho, ha, hf, hw, _, _, _, _, _, _ => e_over ho ha hf hw (by omega) p
  | d + 1, m, f, hd, ho, ha, hf, hw, hs, hwt, hwt2, h1, h2, h3 => by
    rw [show 2 * (d + 1) + 2 = (2 * d + 2) + 1 + 1 by omega]
    refine e_next ho ha hf hw (by omega) hs hwt ?_
    refine e_atNo (by exact h1) (by exact h2) (by exact ho) (by rfl) (by exact h3) (Nat.succ_ne_zero _) fun sn => ?_
    refine anchored p d _ { wait := .nextStart, pc := f.pc, pos := f.pos + 1, outermost := false } ?_ ?_ ?_ ?_ ?_ ?_ ?_ ?_ ?_ ?_ ?_
    · show m.lastStart - (f.pos + 1) = d; omega
    · exact ho
    · rfl
    · rfl
    · rfl
    · exact hs
    · exact hwt2
    · show m.weight - (1 + f.kept.marks.size) + 1 - (1 + 0) + 1 ≤ 16777215; omega
    · exact h1
    · exact h2
    · exact h3
/-- what a search that found hands on -/
noncomputable def Found (a e : Nat) (g : Option (Nat × Nat)) (m : M) : Prop :=
  m.outcome = some .matched ∧ m.start = a ∧ m.handed = e ∧ (match g with | none => True | some (p, q) => m.marks = #[some p, some q] ∧ m.lastmark = 1 ∧ m.lastindex = 1)
noncomputable def Lost (m : M) : Prop := m.outcome = some .failed
theorem found_end {m : M} {n a e : Nat} {g : Option (Nat × Nat)} (hl : m.frames.length = n) (ho : m.outcome = none) (ha : m.answer = some true) (hy : ∀ f ∈ m.frames, yesW f.wait = true) (h1 : m.start = a) (h2 : m.handed = e)
    (h3 : match g with | none => True | some (p, q) => m.marks = #[some p, some q] ∧ m.lastmark = 1 ∧ m.lastindex = 1) : Ends (n + 1) m (Found a e g) := by
  obtain ⟨k, hk, hs, q1, q2, q3, q4, q5, q6⟩ := unwind n m hl ho ha hy
  refine ⟨k, hk, hs, q1, q2.trans h1, q3.trans h2, ?_⟩
  cases g with
  | none => trivial
  | some pq => exact ⟨q4.trans h3.1, q5.trans h3.2.1, q6.trans h3.2.2⟩
theorem tok_k (r : List Nat) (hr : r.length ≤ 100000) : Ends 20 (forSearch cTok (107 :: 61 :: r).toArray 1 0 (107 :: 61 :: r).length false) (Found 0 1 (some (0, 1))) := by
  have e : forSearch cTok (107 :: 61 :: r).toArray 1 0 (107 :: 61 :: r).length false = At cTok 5 (107 :: 61 :: r) #[none, none] (107 :: 61 :: r).length 0 true false (({} : Seen).add 14) := by
    unfold forSearch
    rw [if_neg (by rw [show header cTok = (1, 5) from by decide +kernel]; simp)]
    rfl
  rw [e]
  have a1 : Acc cTok 11 107 false := acc_of (by decide +kernel)
  have a2 : Acc cTok 23 107 true := acc_of (by decide +kernel)
  have a3 : Acc cTok 23 61 false := acc_of (by decide +kernel)
  have hm : (107 :: 61 :: r).length ≤ maxRepeat := by simp only [List.length_cons, maxRepeat]; omega
  unfold At
  refine e_at rfl rfl rfl rfl (by dsimp only; decide) rfl (pc' := 7) rfl fun sn => ?_
  dsimp only
  refine e_rep (lo := 0) (t := 107 :: 61 :: r) (pre := []) (mid := []) (post := 107 :: 61 :: r) rfl rfl rfl rfl rfl (by dsimp only; decide) rfl rfl rfl rfl (Nat.zero_le _) (fun _ h => nomatch h) (.inr ⟨107, _, rfl, a1⟩) hm (Nat.le_of_ble_eq_true rfl) (pc' := 17) rfl (pos' := 0) rfl (kp := {}) rfl (wt := 2) rfl fun sn => ?_
  dsimp only
  refine e_mark (i := 0) rfl rfl rfl rfl (by dsimp only; decide) (by dsimp only; decide) (pc' := 19) rfl (mk' := #[some 0, none]) rfl (lm := 0) rfl (li := -1) rfl fun sn => ?_
  dsimp only
  refine e_rep (lo := 1) (t := 107 :: 61 :: r) (pre := []) (mid := [107]) (post := 61 :: r) rfl rfl rfl rfl rfl (by dsimp only; decide) rfl rfl rfl rfl (Nat.le_refl 1) (fun c h => by rw [List.mem_singleton.mp h]; exact a2) (.inr ⟨61, _, rfl, a3⟩) hm (Nat.le_of_ble_eq_true rfl) (pc' := 39) rfl (pos' := 1) rfl (kp := { lastmark := 0 }) rfl (wt := 3) rfl fun sn => ?_
  dsimp only
  refine e_mark (i := 1) rfl rfl rfl rfl (by dsimp only; decide) (by dsimp only; decide) (pc' := 41) rfl (mk' := #[some 0, some 1]) rfl (lm := 1) rfl (li := 1) rfl fun sn => ?_
  dsimp only
  refine e_success rfl rfl rfl (by dsimp only; decide) (fun h => nomatch h) (fun h => nomatch h) fun sn => ?_
  dsimp only
  exact (found_end (g := some (0, 1)) (n := 3) rfl rfl rfl (by simp [yesW]) rfl rfl ⟨rfl, rfl, rfl⟩).mono (by decide)
end Rx
end Mine
end
section
open PySem PySem.Sre PySem.Sre.M
set_option Elab.async false
set_option maxRecDepth 100000
namespace Mine
namespace Rx
/-- a quotation mark and a backslash, each behind a backslash -/
noncomputable def esc1 (c : Nat) : List Nat := if c = 34 ∨ c = 92 then [92, c] else [c]
noncomputable def escOf (v : List Nat) : List Nat := v.flatMap esc1
theorem escOf_cons (c : Nat) (v : List Nat) : escOf (c :: v) = esc1 c ++ escOf v := by simp [escOf]
theorem escOf_append (u v : List Nat) : escOf (u ++ v) = escOf u ++ escOf v := by simp [escOf]
theorem escOf_plain {u : List Nat} (h : ∀ c ∈ u, ¬ (c = 34 ∨ c = 92)) : escOf u = u := by
  induction u with
  | nil => rfl
  | cons c r ih => rw [escOf_cons, ih fun d hd => h d (.tail _ hd), esc1, if_neg (h c (.head _))]; rfl
theorem cut (v : List Nat) : ∃ u r, v = u ++ r ∧ (∀ c ∈ u, ¬ (c = 34 ∨ c = 92)) ∧ (r = [] ∨ ∃ x r', r = x :: r' ∧ (x = 34 ∨ x = 92)) := by
  induction v with
  | nil => exact ⟨[], [], rfl, (fun _ h => nomatch h), .inl rfl⟩
  | cons c v ih =>
    by_cases hc : c = 34 ∨ c = 92
    · exact ⟨[], c :: v, rfl, (fun _ h => nomatch h), .inr ⟨c, v, rfl, hc⟩⟩
    · obtain ⟨u, r, rfl, h1, h2⟩ := ih
      exact ⟨c :: u, r, rfl, (fun d hd => by rcases List.mem_cons.mp hd with rfl | hd; exact hc; exact h1 d hd), h2⟩
section
variable {b : Nat} {m : M} {P : M → Prop}
theorem e_until {l : Loop} {i : Nat} (hop : ops[m.word 0]? = some .MAX_UNTIL) (ho : m.outcome = none) (ha : m.answer = none) (hpc : m.pc < m.code.size) (hi : m.inner = some i) (hl : m.loops.getD i { pc := 0, outer := none } = l)
    (h2 : m.code.getD (l.pc + 2) 0 = 0) (h3 : m.code.getD (l.pc + 3) 0 = maxRepeat) (hc : 0 ≤ l.count + 1) (hb : l.began ≠ some m.pos) {kp : Sre.Kept} (hkp : m.keep true = kp) (hw : m.weight + 1 + kp.marks.size ≤ 16777216)
    {lp : Array Loop} (hlp : m.loops.modify i (fun l' => { l' with count := l.count + 1, began := some m.pos }) = lp) {pc' : Nat} (hpc' : l.pc + 4 = pc') {pc1 : Nat} (hpc1 : m.pc + 1 = pc1) {wt : Nat} (hwt : m.weight + 1 + kp.marks.size = wt)
    (k : ∀ sn, Ends b { m with seen := sn, pc := pc', handed := m.pos, loops := lp, frames := { wait := .maxMore, pc := pc1, pos := m.pos, outermost := m.outermost, count := l.count + 1, kept := kp, loop := i, began := l.began } :: m.frames, weight := wt } P) : Ends (b + 1) m P := by
  subst hkp hlp hpc' hpc1 hwt
  refine e_exec ho ha hpc ?_
  have hx : m.exec = { m with seen := m.seen.add (m.word 0), pc := l.pc + 4, handed := m.pos, loops := m.loops.modify i (fun l' => { l' with count := l.count + 1, began := some m.pos }), frames := { wait := .maxMore, pc := m.pc + 1, pos := m.pos, outermost := m.outermost, count := l.count + 1, kept := m.keep true, loop := i, began := l.began } :: m.frames, weight := m.weight + 1 + (m.keep true).marks.size } := by
    unfold M.exec
    rw [hop]
    dsimp only
    unfold M.until_
    dsimp only
    rw [hi]
    dsimp only
    have e1 : M.loopAt { m with seen := m.seen.add (m.word 0), pc := m.pc + 1 } i = l := hl
    have e2 : m.code.getD ((M.loopAt { m with seen := m.seen.add (m.word 0), pc := m.pc + 1 } i).pc + 2) 0 = 0 := by rw [e1]; exact h2
    have e3 : m.code.getD ((M.loopAt { m with seen := m.seen.add (m.word 0), pc := m.pc + 1 } i).pc + 3) 0 = maxRepeat := by rw [e1]; exact h3
    simp only [hi] at e1 e2 e3 ⊢
    rw [e2, e3, e1]
    rw [if_neg (by simpa using hc)]
    simp only [Bool.not_true, Bool.false_eq_true, if_false]
    rw [if_pos (by simp [hb])]
    unfold M.round M.attempt
    dsimp only
    have hw' : ¬ (m.weight + 1 + (m.keep true).marks.size > 16777216) := by omega
    refine (if_neg hw').trans ?_
    simp only [e1]
    rw [← hi]
    rfl
  rw [hx]; exact k _
theorem e_repeat (hop : ops[m.word 0]? = some .REPEAT) (ho : m.outcome = none) (ha : m.answer = none) (hpc : m.pc < m.code.size) (hw : m.weight + 1 ≤ 16777216)
    {i : Nat} (hi : m.loops.size = i) {lp : Array Loop} (hlp : m.loops.push { pc := m.pc, outer := m.inner } = lp) {pc' : Nat} (hpc' : m.pc + 1 + m.word 1 = pc')
    (k : ∀ sn, Ends b { m with seen := sn, pc := pc', handed := m.pos, loops := lp, inner := some i, frames := { wait := .closeLoop, pc := m.pc, pos := m.pos, outermost := m.outermost, loop := i } :: m.frames, weight := m.weight + 1 } P) : Ends (b + 1) m P := by
  subst hi hlp hpc'
  refine e_exec ho ha hpc ?_
  have hx : m.exec = { m with seen := m.seen.add (m.word 0), pc := m.pc + 1 + m.word 1, handed := m.pos, loops := m.loops.push { pc := m.pc, outer := m.inner }, inner := some m.loops.size, frames := { wait := .closeLoop, pc := m.pc, pos := m.pos, outermost := m.outermost, loop := m.loops.size } :: m.frames, weight := m.weight + 1 } := by
    unfold M.exec
    rw [hop]
    dsimp only
    unfold M.attempt
    refine (if_neg ?_).trans rfl
    show ¬ (m.weight + 1 + 0 > 16777216)
    omega
  rw [hx]; exact k _
theorem e_moreNo {f : Sre.Frame} {rest : List Sre.Frame} (ho : m.outcome = none) (ha : m.answer = some false) (hf : m.frames = f :: rest) (hw : f.wait = .maxMore) (hk : f.kept.whole = true)
    {mk' : Array (Option Nat)} (hmk : f.kept.marks ++ m.marks.extract f.kept.marks.size m.marks.size = mk') {lp : Array Loop} (hlp : (m.loops.modify f.loop fun l => { l with began := f.began }).modify f.loop (fun l => { l with count := f.count - 1 }) = lp)
    (ho1 : (lp.getD f.loop { pc := 0, outer := none }).outer = none) {wt : Nat} (hwt : m.weight - (1 + f.kept.marks.size) + 1 = wt) (hwt2 : wt ≤ 16777216)
    (k : Ends b { m with answer := none, pc := f.pc, pos := f.pos, handed := f.pos, outermost := f.outermost, lastmark := f.kept.lastmark, lastindex := f.kept.lastindex, marks := mk', loops := lp, inner := none, frames := { wait := .maxTail, pc := f.pc, pos := f.pos, outermost := f.outermost, count := f.count, loop := f.loop, kept := { lastmark := f.kept.lastmark, lastindex := f.kept.lastindex } } :: rest, weight := wt } P) : Ends (b + 1) m P := by
  subst hmk hlp hwt
  refine e_resume ho ha hf ?_
  have hx : M.resume { m with answer := none, frames := rest, weight := m.weight - (1 + f.kept.marks.size), pc := f.pc, pos := f.pos, outermost := f.outermost } f false = { m with answer := none, pc := f.pc, pos := f.pos, handed := f.pos, outermost := f.outermost, lastmark := f.kept.lastmark, lastindex := f.kept.lastindex, marks := f.kept.marks ++ m.marks.extract f.kept.marks.size m.marks.size, loops := (m.loops.modify f.loop fun l => { l with began := f.began }).modify f.loop (fun l => { l with count := f.count - 1 }), inner := none, frames := { wait := .maxTail, pc := f.pc, pos := f.pos, outermost := f.outermost, count := f.count, loop := f.loop, kept := { lastmark := f.kept.lastmark, lastindex := f.kept.lastindex } } :: rest, weight := m.weight - (1 + f.kept.marks.size) + 1 } := by
    unfold M.resume
    rw [hw]
    dsimp only
    refine (if_neg (by decide)).trans ?_
    unfold M.afterLoop M.attempt M.putBack M.setLoop M.loopAt M.keep M.frame
    simp only [hk, if_true, Bool.false_eq_true, if_false]
    refine (if_neg ?_).trans ?_
    · show ¬ (m.weight - (1 + f.kept.marks.size) + 1 + 0 > 16777216)
      omega
    · simp only [ho1]
      rfl
  rw [hx]; exact k
end
theorem a_quo : ∀ c ∈ sigma, ¬ (c = 34 ∨ c = 92) → accB cQuo 37 c = some true ∧ accB cQuo 57 c = some true := by decide +kernel
theorem any_quo : ∀ c ∈ sigma, accB cQuo 52 c = some true := by decide +kernel
theorem quo_loop {t : List Nat} {rest : List Nat} {ls : Nat} (ht : t.length ≤ 100000) : ∀ (n : Nat) (v pre : List Nat) (p hd : Nat) (cnt : Int) (bg : Option Nat) (fs : List Sre.Frame) (wt : Nat) (sn : Seen), v.length ≤ n → (∀ c ∈ v, c ∈ sigma) →
    (v = [] ∨ ∃ x r, v = x :: r ∧ (x = 34 ∨ x = 92)) → t = pre ++ escOf v ++ 34 :: rest → p = pre.length → (∀ f ∈ fs, yesW f.wait = true) → wt + 4 * n + 10 ≤ 16777216 → -1 ≤ cnt → bg ≠ some p →
    Ends (6 * n + fs.length + 20) { code := cQuo, text := t.toArray, lim := t.length, start := 0, lastStart := ls, pc := 66, pos := p, handed := hd, outermost := true, marks := #[some 2, none], lastmark := 0, lastindex := -1, loops := #[{ pc := 46, count := cnt, began := bg, outer := none }], inner := some 0, frames := fs, weight := wt, seen := sn }
      (Found 0 (p + (escOf v).length + 1) (some (2, p + (escOf v).length)))
  | n, [], pre, p, hd, cnt, bg, fs, wt, sn, _, _, _, hd', hp, hy, hw, hc, hb => by
    have hlim : p < t.length := by rw [hd', hp]; simp [escOf]
    have hq : t.toArray.getD p 0 = 34 := by rw [hd', hp]; simp [escOf]
    refine Ends.mono (b := (fs.length + 1 + 1) + 1 + 1 + 1 + 1 + 1 + 1) ?_ (by omega)
    refine e_until (i := 0) (l := { pc := 46, count := cnt, began := bg, outer := none }) rfl rfl rfl (by dsimp only; decide) rfl rfl rfl rfl (by dsimp only; omega) hb (kp := { lastmark := 0, whole := true, marks := #[some 2] }) rfl (by show wt + 1 + 1 ≤ _; omega)
      (lp := #[{ pc := 46, count := cnt + 1, began := some p, outer := none }]) rfl (pc' := 50) rfl (pc1 := 67) rfl (wt := wt + 2) rfl fun sn => ?_
    dsimp only
    refine e_oneNo (op := .LITERAL) (c := 34) rfl rfl rfl rfl (by dsimp only; decide) hlim hq (acc_of (code := cQuo) (i := 50) (by decide +kernel)) fun sn => ?_
    dsimp only
    refine e_moreNo rfl rfl rfl rfl rfl (mk' := #[some 2, none]) rfl (lp := #[{ pc := 46, count := cnt, began := bg, outer := none }]) (by show #[_] = #[_]; simp; rfl) rfl (wt := wt + 1) (by show wt + 2 - (1 + 1) + 1 = wt + 1; omega) (by omega) ?_
    dsimp only
    refine e_mark (i := 1) rfl rfl rfl rfl (by dsimp only; decide) (by dsimp only; decide) (pc' := 69) rfl (mk' := #[some 2, some p]) rfl (lm := 1) rfl (li := 1) rfl fun sn => ?_
    dsimp only
    refine e_one (op := .LITERAL) (c := 34) rfl rfl rfl rfl (by dsimp only; decide) hlim hq (acc_of (code := cQuo) (i := 69) (by decide +kernel)) (pc' := 71) rfl fun sn => ?_
    dsimp only
    refine e_success rfl rfl rfl (by dsimp only; decide) (fun h => nomatch h) (fun h => nomatch h) fun sn => ?_
    dsimp only
    exact found_end (n := fs.length + 1) (g := some (2, p)) rfl rfl rfl (by intro f hf; rcases List.mem_cons.mp hf with rfl | hf; rfl; exact hy f hf) rfl rfl ⟨rfl, rfl, rfl⟩
  | 0, x :: r, _, _, _, _, _, _, _, _, hn, _, _, _, _, _, _, _, _ => absurd hn (Nat.not_succ_le_zero _)
  | n + 1, x :: r, pre, p, hd, cnt, bg, fs, wt, sn, hn, hs, hx, hd', hp, hy, hw, hc, hb => by
    have hx' : x = 34 ∨ x = 92 := by
      rcases hx with h | ⟨x', r', h, h'⟩
      · cases h
      · cases h; exact h'
    obtain ⟨u, r', rfl, hu, hr⟩ := cut r
    have hE : escOf (x :: (u ++ r')) = 92 :: x :: (u ++ escOf r') := by rw [escOf_cons, escOf_append, escOf_plain hu, esc1, if_pos hx']; rfl
    have hE' : t = pre ++ (92 :: x :: (u ++ escOf r')) ++ 34 :: rest := by rw [hd', hE]
    have hlen : t.length = p + 2 + u.length + (escOf r').length + 1 + rest.length := by rw [hE', hp]; simp only [List.length_append, List.length_cons]; omega
    have hq1 : t.toArray.getD p 0 = 92 := by rw [hE', hp]; simp
    have hq2 : t.toArray.getD (p + 1) 0 = x := by rw [hE', hp]; simp
    refine Ends.mono (b := (6 * n + (fs.length + 2) + 20) + 1 + 1 + 1 + 1) ?_ (by omega)
    refine e_until (i := 0) (l := { pc := 46, count := cnt, began := bg, outer := none }) rfl rfl rfl (by dsimp only; decide) rfl rfl rfl rfl (by dsimp only; omega) hb (kp := { lastmark := 0, whole := true, marks := #[some 2] }) rfl (by show wt + 1 + 1 ≤ _; omega)
      (lp := #[{ pc := 46, count := cnt + 1, began := some p, outer := none }]) rfl (pc' := 50) rfl (pc1 := 67) rfl (wt := wt + 2) rfl fun sn => ?_
    dsimp only
    refine e_one (op := .LITERAL) (c := 92) rfl rfl rfl rfl (by dsimp only; decide) (by dsimp only; omega) hq1 (acc_of (code := cQuo) (i := 50) (by decide +kernel)) (pc' := 52) rfl fun sn => ?_
    dsimp only
    refine e_one (op := .ANY) (c := x) rfl rfl rfl rfl (by dsimp only; decide) (by dsimp only; omega) hq2 (acc_of (code := cQuo) (i := 52) (any_quo x (hs x (.head _)))) (pc' := 53) rfl fun sn => ?_
    dsimp only
    refine e_rep (lo := 0) (t := t) (pre := pre ++ [92, x]) (mid := u) (post := escOf r' ++ 34 :: rest) rfl rfl rfl rfl rfl (by dsimp only; decide) rfl rfl (by dsimp only; rw [hp]; simp) (by rw [hE']; simp) (Nat.zero_le _)
      (fun c h => acc_of (code := cQuo) (i := 57) (a_quo c (hs c (.tail _ (List.mem_append_left _ h))) (hu c h)).2) (.inr ?_) (by simp only [maxRepeat]; omega) (by show wt + 2 + 1 + 1 ≤ _; omega) (pc' := 66) rfl (pos' := p + 2 + u.length) rfl (kp := { lastmark := 0, whole := true, marks := #[some 2] }) rfl (wt := wt + 4) rfl fun sn => ?_
    · rcases hr with rfl | ⟨y, r2, rfl, hy2⟩
      · exact ⟨34, rest, rfl, acc_of (code := cQuo) (i := 57) (by decide +kernel)⟩
      · exact ⟨92, y :: (escOf r2 ++ 34 :: rest), (by rw [escOf_cons, esc1, if_pos hy2]; rfl), acc_of (code := cQuo) (i := 57) (by decide +kernel)⟩
    · dsimp only
      have hlast := quo_loop (rest := rest) (ls := ls) ht n r' (pre ++ [92, x] ++ u) (p + 2 + u.length) (p + 2 + u.length) (cnt + 1) (some p)
        ({ wait := .giveBack, pc := 53, pos := p + 2 + u.length, outermost := true, count := u.length, kept := { lastmark := 0, whole := true, marks := #[some 2] } } :: { wait := .maxMore, pc := 67, pos := p, outermost := true, count := cnt + 1, kept := { lastmark := 0, whole := true, marks := #[some 2] }, loop := 0, began := bg } :: fs) (wt + 4) sn
        (by simp only [List.length_cons, List.length_append] at hn; omega) (fun c h => hs c (.tail _ (List.mem_append_right _ h))) hr (by rw [hE']; simp) (by rw [hp]; simp; omega)
        (by intro f hf; rcases List.mem_cons.mp hf with rfl | hf; rfl; rcases List.mem_cons.mp hf with rfl | hf; rfl; exact hy f hf) (by omega) (by omega) (by simp; omega)
      have e1 : (escOf (x :: (u ++ r'))).length = 2 + u.length + (escOf r').length := by rw [hE]; simp only [List.length_cons, List.length_append]; omega
      rw [e1, show p + (2 + u.length + (escOf r').length) = p + 2 + u.length + (escOf r').length by omega]
      exact hlast
end Rx
end Mine
end
section
open PySem PySem.Sre PySem.Sre.M
set_option Elab.async false
set_option maxRecDepth 100000
namespace Mine
local macro_rules | `(tactic| omega) => `(tactic| lia)
namespace Rx
theorem quo_yes (v rest : List Nat) (hv : ∀ c ∈ v, c ∈ sigma) (hl : (escOf v).length + rest.length ≤ 50000) :
    Ends 400000 (forSearch cQuo (61 :: 34 :: (escOf v ++ 34 :: rest)).toArray 1 0 (61 :: 34 :: (escOf v ++ 34 :: rest)).length false) (Found 0 ((escOf v).length + 3) (some (2, (escOf v).length + 2))) := by
  generalize ht : (61 :: 34 :: (escOf v ++ 34 :: rest)) = t
  have hlen : t.length = (escOf v).length + rest.length + 3 := by rw [← ht]; simp only [List.length_cons, List.length_append]; omega
  have e : forSearch cQuo t.toArray 1 0 t.length false = At cQuo 5 t #[none, none] (max 0 (t.length - 2)) 0 true false (({} : Seen).add 14) := by
    unfold forSearch
    rw [if_neg (by rw [show header cQuo = (3, 5) from by decide +kernel]; simp; omega)]
    rfl
  rw [e]
  have hvl : v.length ≤ 50000 := by
    have : ∀ u : List Nat, u.length ≤ (escOf u).length := by
      intro u
      induction u with
      | nil => exact Nat.le_refl _
      | cons c u ih => rw [escOf_cons, List.length_append, List.length_cons, esc1]; split <;> simp only [List.length_cons, List.length_nil] <;> omega
    have := this v; omega
  obtain ⟨u, r', rfl, hu, hr⟩ := cut v
  have hm : t.length ≤ maxRepeat := by simp only [maxRepeat]; omega
  have a1 : Acc cQuo 11 61 false := acc_of (by decide +kernel)
  have a2 : Acc cQuo 17 61 true := acc_of (by decide +kernel)
  have a3 : Acc cQuo 23 34 false := acc_of (by decide +kernel)
  have a4 : Acc cQuo 29 34 true := acc_of (by decide +kernel)
  have hE : t = 61 :: 34 :: (u ++ (escOf r' ++ 34 :: rest)) := by rw [← ht, escOf_append, escOf_plain hu]; simp
  have hel : (escOf (u ++ r')).length = u.length + (escOf r').length := by rw [escOf_append, escOf_plain hu, List.length_append]
  unfold At
  refine Ends.mono (b := (6 * r'.length + 5 + 20) + 1 + 1 + 1 + 1 + 1 + 1 + 1 + 1) ?_ (by simp only [List.length_append] at hvl; omega)
  refine e_at rfl rfl rfl rfl (by dsimp only; decide) rfl (pc' := 7) rfl fun sn => ?_
  dsimp only
  refine e_rep (lo := 0) (t := t) (pre := []) (mid := []) (post := t) rfl rfl rfl rfl rfl (by dsimp only; decide) rfl rfl rfl rfl (Nat.zero_le _) (fun _ h => nomatch h) (.inr ⟨61, _, ht.symm, a1⟩) hm (Nat.le_of_ble_eq_true rfl) (pc' := 17) rfl (pos' := 0) rfl (kp := {}) rfl (wt := 2) rfl fun sn => ?_
  dsimp only
  refine e_one (op := .LITERAL) (c := 61) rfl rfl rfl rfl (by dsimp only; decide) (by dsimp only; omega) (by rw [hE]; rfl) a2 (pc' := 19) rfl fun sn => ?_
  dsimp only
  refine e_rep (lo := 0) (t := t) (pre := [61]) (mid := []) (post := 34 :: (u ++ (escOf r' ++ 34 :: rest))) rfl rfl rfl rfl rfl (by dsimp only; decide) rfl rfl rfl hE (Nat.zero_le _) (fun _ h => nomatch h) (.inr ⟨34, _, rfl, a3⟩) hm (Nat.le_of_ble_eq_true rfl) (pc' := 29) rfl (pos' := 1) rfl (kp := {}) rfl (wt := 3) rfl fun sn => ?_
  dsimp only
  refine e_one (op := .LITERAL) (c := 34) rfl rfl rfl rfl (by dsimp only; decide) (by dsimp only; omega) (by rw [hE]; rfl) a4 (pc' := 31) rfl fun sn => ?_
  dsimp only
  refine e_mark (i := 0) rfl rfl rfl rfl (by dsimp only; decide) (by dsimp only; decide) (pc' := 33) rfl (mk' := #[some 2, none]) rfl (lm := 0) rfl (li := -1) rfl fun sn => ?_
  dsimp only
  refine e_rep (lo := 0) (t := t) (pre := [61, 34]) (mid := u) (post := escOf r' ++ 34 :: rest) rfl rfl rfl rfl rfl (by dsimp only; decide) rfl rfl rfl (by rw [hE]; simp) (Nat.zero_le _)
    (fun c h => acc_of (code := cQuo) (i := 37) (a_quo c (hv c (List.mem_append_left _ h)) (hu c h)).1) (.inr ?_) hm (Nat.le_of_ble_eq_true rfl) (pc' := 46) rfl (pos' := 2 + u.length) rfl (kp := { lastmark := 0 }) rfl (wt := 4) rfl fun sn => ?_
  · rcases hr with rfl | ⟨y, r2, rfl, hy2⟩
    · exact ⟨34, rest, rfl, acc_of (code := cQuo) (i := 37) (by decide +kernel)⟩
    · exact ⟨92, y :: (escOf r2 ++ 34 :: rest), (by rw [escOf_cons, esc1, if_pos hy2]; rfl), acc_of (code := cQuo) (i := 37) (by decide +kernel)⟩
  dsimp only
  refine e_repeat rfl rfl rfl (by dsimp only; decide) (by dsimp only; decide) (i := 0) rfl (lp := #[{ pc := 46, outer := none }]) rfl (pc' := 66) rfl fun sn => ?_
  dsimp only
  have q := quo_loop (t := t) (rest := rest) (ls := max 0 (t.length - 2)) (by omega) r'.length r' ([61, 34] ++ u) (2 + u.length) (2 + u.length) (-1) none
    [{ wait := .closeLoop, pc := 46, pos := 2 + u.length, outermost := true, loop := 0 }, { wait := .giveBack, pc := 33, pos := 2 + u.length, outermost := true, count := u.length, kept := { lastmark := 0 } }, { wait := .giveBack, pc := 19, pos := 1, outermost := true, count := 0, kept := {} }, { wait := .giveBack, pc := 7, pos := 0, outermost := true, count := 0, kept := {} }, { wait := .nextStart, pc := 5, pos := 0, outermost := true }]
    5 sn (Nat.le_refl _) (fun c h => hv c (List.mem_append_right _ h)) hr (by rw [hE]; simp) (by simp; omega) (by intro f hf; simp only [List.mem_cons, List.not_mem_nil, or_false] at hf; rcases hf with rfl | rfl | rfl | rfl | rfl <;> rfl) (by simp only [List.length_append] at hvl; omega) (by omega) (by simp)
  rw [hel, show u.length + (escOf r').length + 3 = 2 + u.length + (escOf r').length + 1 by omega, show u.length + (escOf r').length + 2 = 2 + u.length + (escOf r').length by omega]
  exact q
theorem quo_no (c : Nat) (r : List Nat) (hc : c ∈ sigma) (h34 : c ≠ 34) (h32 : c ≠ 32) (hl : r.length ≤ 50000) : Ends 400000 (forSearch cQuo (61 :: c :: r).toArray 1 0 (61 :: c :: r).length false) Lost := by
  have a1 : Acc cQuo 11 61 false := acc_of (by decide +kernel)
  have a2 : Acc cQuo 17 61 true := acc_of (by decide +kernel)
  have a3 : Acc cQuo 23 c false := acc_of ((by decide +kernel : ∀ c ∈ sigma, c ≠ 32 → accB cQuo 23 c = some false) c hc h32)
  have a4 : Acc cQuo 29 c false := acc_of ((by decide +kernel : ∀ c ∈ sigma, c ≠ 34 → accB cQuo 29 c = some false) c hc h34)
  generalize ht : (61 :: c :: r) = t
  have hlen : t.length = r.length + 2 := by rw [← ht]; rfl
  by_cases h0 : r = []
  · have e : forSearch cQuo t.toArray 1 0 t.length false = M.say { code := cQuo, text := t.toArray, lim := t.length, start := 0, pc := 5, pos := 0, handed := 0, marks := #[none, none], seen := ({} : Seen).add 14 } false := by
      unfold forSearch
      rw [if_pos (by rw [show header cQuo = (3, 5) from by decide +kernel, hlen, h0]; decide)]
      rfl
    rw [e]
    exact .mono (.step rfl (.done (b := 0) rfl rfl)) (by decide)
  have e : forSearch cQuo t.toArray 1 0 t.length false = At cQuo 5 t #[none, none] (max 0 (t.length - 2)) 0 true false (({} : Seen).add 14) := by
    unfold forSearch
    rw [if_neg (by rw [show header cQuo = (3, 5) from by decide +kernel]; have := List.length_pos_iff.mpr h0; simp; omega)]
    rfl
  rw [e]
  have hm : t.length ≤ maxRepeat := by simp only [maxRepeat]; omega
  unfold At
  refine Ends.mono (b := (2 * (max 0 (t.length - 2)) + 2) + 1 + 1 + 1 + 1 + 1 + 1 + 1) ?_ (by omega)
  refine e_at rfl rfl rfl rfl (by dsimp only; decide) rfl (pc' := 7) rfl fun sn => ?_
  dsimp only
  refine e_rep (lo := 0) (t := t) (pre := []) (mid := []) (post := t) rfl rfl rfl rfl rfl (by dsimp only; decide) rfl rfl rfl rfl (Nat.zero_le _) (fun _ h => nomatch h) (.inr ⟨61, _, ht.symm, a1⟩) hm (Nat.le_of_ble_eq_true rfl) (pc' := 17) rfl (pos' := 0) rfl (kp := {}) rfl (wt := 2) rfl fun sn => ?_
  dsimp only
  refine e_one (op := .LITERAL) (c := 61) rfl rfl rfl rfl (by dsimp only; decide) (by dsimp only; omega) (by rw [← ht]; rfl) a2 (pc' := 19) rfl fun sn => ?_
  dsimp only
  refine e_rep (lo := 0) (t := t) (pre := [61]) (mid := []) (post := c :: r) rfl rfl rfl rfl rfl (by dsimp only; decide) rfl rfl rfl ht.symm (Nat.zero_le _) (fun _ h => nomatch h) (.inr ⟨c, _, rfl, a3⟩) hm (Nat.le_of_ble_eq_true rfl) (pc' := 29) rfl (pos' := 1) rfl (kp := {}) rfl (wt := 3) rfl fun sn => ?_
  dsimp only
  refine e_oneNo (op := .LITERAL) (c := c) rfl rfl rfl rfl (by dsimp only; decide) (by dsimp only; omega) (by rw [← ht]; rfl) a4 fun sn => ?_
  dsimp only
  refine e_backNo rfl rfl rfl rfl (by dsimp only; decide) ?_
  dsimp only
  refine e_backNo rfl rfl rfl rfl (by dsimp only; decide) ?_
  dsimp only
  exact anchored (P := Lost) (fun _ h => h) _ _ { wait := .nextStart, pc := 5, pos := 0, outermost := true } rfl rfl rfl rfl rfl rfl (Nat.le_of_ble_eq_true rfl) (Nat.le_of_ble_eq_true rfl) rfl rfl (by dsimp only; decide)
theorem val_yes (v : List Nat) (x : Nat) (r : List Nat) (hv : ∀ c ∈ v, c ∈ sigma ∧ c ≠ 32 ∧ c ≠ 59 ∧ c ≠ 44) (hx : x = 59 ∨ x = 44) (hl : v.length + r.length ≤ 50000) :
    Ends 400000 (forSearch cVal (61 :: (v ++ x :: r)).toArray 1 0 (61 :: (v ++ x :: r)).length false) (Found 0 (v.length + 1) (some (1, v.length + 1))) := by
  have a1 : Acc cVal 11 61 false := acc_of (by decide +kernel)
  have a2 : Acc cVal 17 61 true := acc_of (by decide +kernel)
  have a3 : ∀ c ∈ sigma, c ≠ 32 → Acc cVal 23 c false := fun c hc h => acc_of ((by decide +kernel : ∀ c ∈ sigma, c ≠ 32 → accB cVal 23 c = some false) c hc h)
  have a4 : ∀ c ∈ sigma, c ≠ 32 ∧ c ≠ 59 ∧ c ≠ 44 → Acc cVal 35 c true := fun c hc h => acc_of ((by decide +kernel : ∀ c ∈ sigma, c ≠ 32 ∧ c ≠ 59 ∧ c ≠ 44 → accB cVal 35 c = some true) c hc h)
  have a5 : Acc cVal 35 x false := acc_of (by rcases hx with rfl | rfl <;> decide +kernel)
  have a6 : Acc cVal 23 x false := acc_of (by rcases hx with rfl | rfl <;> decide +kernel)
  generalize ht : (61 :: (v ++ x :: r)) = t
  have hlen : t.length = v.length + r.length + 2 := by rw [← ht]; simp only [List.length_cons, List.length_append]; omega
  have e : forSearch cVal t.toArray 1 0 t.length false = At cVal 5 t #[none, none] t.length 0 true false (({} : Seen).add 14) := by
    unfold forSearch
    rw [if_neg (by rw [show header cVal = (1, 5) from by decide +kernel]; intro h; simp only [Bool.or_eq_true, decide_eq_true_eq] at h; omega)]
    rfl
  rw [e]
  have hm : t.length ≤ maxRepeat := by simp only [maxRepeat]; omega
  unfold At
  refine Ends.mono (b := (4 + 1) + 1 + 1 + 1 + 1 + 1 + 1 + 1 + 1) ?_ (by omega)
  refine e_at rfl rfl rfl rfl (by dsimp only; decide) rfl (pc' := 7) rfl fun sn => ?_
  dsimp only
  refine e_rep (lo := 0) (t := t) (pre := []) (mid := []) (post := t) rfl rfl rfl rfl rfl (by dsimp only; decide) rfl rfl rfl rfl (Nat.zero_le _) (fun _ h => nomatch h) (.inr ⟨61, _, ht.symm, a1⟩) hm (Nat.le_of_ble_eq_true rfl) (pc' := 17) rfl (pos' := 0) rfl (kp := {}) rfl (wt := 2) rfl fun sn => ?_
  dsimp only
  refine e_one (op := .LITERAL) (c := 61) rfl rfl rfl rfl (by dsimp only; decide) (by dsimp only; omega) (by rw [← ht]; rfl) a2 (pc' := 19) rfl fun sn => ?_
  dsimp only
  refine e_rep (lo := 0) (t := t) (pre := [61]) (mid := []) (post := v ++ x :: r) rfl rfl rfl rfl rfl (by dsimp only; decide) rfl rfl rfl ht.symm (Nat.zero_le _) (fun _ h => nomatch h) (.inr ?_) hm (Nat.le_of_ble_eq_true rfl) (pc' := 29) rfl (pos' := 1) rfl (kp := {}) rfl (wt := 3) rfl fun sn => ?_
  · cases v with
    | nil => exact ⟨x, r, rfl, a6⟩
    | cons c v => exact ⟨c, v ++ x :: r, rfl, a3 c (hv c (.head _)).1 (hv c (.head _)).2.1⟩
  dsimp only
  refine e_mark (i := 0) rfl rfl rfl rfl (by dsimp only; decide) (by dsimp only; decide) (pc' := 31) rfl (mk' := #[some 1, none]) rfl (lm := 0) rfl (li := -1) rfl fun sn => ?_
  dsimp only
  refine e_rep (lo := 0) (t := t) (pre := [61]) (mid := v) (post := x :: r) rfl rfl rfl rfl rfl (by dsimp only; decide) rfl rfl rfl (by rw [← ht]; simp) (Nat.zero_le _)
    (fun c h => a4 c (hv c h).1 (hv c h).2) (.inr ⟨x, r, rfl, a5⟩) hm (Nat.le_of_ble_eq_true rfl) (pc' := 46) rfl (pos' := v.length + 1) (by dsimp only; omega) (kp := { lastmark := 0 }) rfl (wt := 4) rfl fun sn => ?_
  dsimp only
  refine e_mark (i := 1) rfl rfl rfl rfl (by dsimp only; decide) (by dsimp only; decide) (pc' := 48) rfl (mk' := #[some 1, some (v.length + 1)]) rfl (lm := 1) rfl (li := 1) rfl fun sn => ?_
  dsimp only
  refine e_success rfl rfl rfl (by dsimp only; decide) (fun h => nomatch h) (fun h => nomatch h) fun sn => ?_
  dsimp only
  exact found_end (g := some (1, v.length + 1)) (n := 4) rfl rfl rfl (by simp [yesW]) rfl rfl ⟨rfl, rfl, rfl⟩
/-- the places of a search that takes a backslash and a sign -/
theorem esc_go {pre0 : List Nat} : ∀ (u pre rest : List Nat) (t : List Nat) (ou : Bool) (sn : Seen), t = pre ++ u ++ rest → (∀ c ∈ u, c ≠ 92) → t.length ≤ 100000 →
    (rest = [] → Ends (2 * u.length + 10) (At cEsc 9 t #[none, none] t.length pre.length ou false sn) Lost) ∧
    (∀ c r, rest = 92 :: c :: r → c ∈ sigma → Ends (2 * u.length + 10) (At cEsc 9 t #[none, none] t.length pre.length ou false sn) (Found (pre.length + u.length) (pre.length + u.length + 2) (some (pre.length + u.length + 1, pre.length + u.length + 2))))
  | [], pre, rest, t, ou, sn, hd, _, hl => by
    constructor
    · rintro rfl
      unfold At
      refine Ends.mono (b := 2 + 1) ?_ (by simp)
      refine e_oneEnd (op := .LITERAL) rfl rfl rfl rfl (by dsimp only; decide) (by rw [hd]; simp) fun sn => ?_
      dsimp only
      exact e_over rfl rfl rfl rfl (by rw [hd]; simp) (fun _ h => h)
    · rintro c r rfl hc
      have h1 : t.toArray.getD pre.length 0 = 92 := by rw [hd]; simp
      have h2 : t.toArray.getD (pre.length + 1) 0 = c := by rw [hd]; simp
      have hlen : t.length = pre.length + 2 + r.length := by rw [hd]; simp only [List.length_append, List.length_cons, List.length_nil]; omega
      unfold At
      refine Ends.mono (b := (1 + 1) + 1 + 1 + 1 + 1 + 1) ?_ (by simp)
      refine e_one (op := .LITERAL) (c := 92) rfl rfl rfl rfl (by dsimp only; decide) (by dsimp only; omega) h1 (acc_of (code := cEsc) (i := 9) (by decide +kernel)) (pc' := 11) rfl fun sn => ?_
      dsimp only
      refine e_mark (i := 0) rfl rfl rfl rfl (by dsimp only; decide) (by dsimp only; decide) (pc' := 13) rfl (mk' := #[some (pre.length + 1), none]) rfl (lm := 0) rfl (li := -1) rfl fun sn => ?_
      dsimp only
      refine e_one (op := .ANY) (c := c) rfl rfl rfl rfl (by dsimp only; decide) (by dsimp only; omega) h2 (acc_of (code := cEsc) (i := 13) ((by decide +kernel : ∀ c ∈ sigma, accB cEsc 13 c = some true) c hc)) (pc' := 14) rfl fun sn => ?_
      dsimp only
      refine e_mark (i := 1) rfl rfl rfl rfl (by dsimp only; decide) (by dsimp only; decide) (pc' := 16) rfl (mk' := #[some (pre.length + 1), some (pre.length + 2)]) rfl (lm := 1) rfl (li := 1) rfl fun sn => ?_
      dsimp only
      refine e_success rfl rfl rfl (by dsimp only; decide) (fun h => nomatch h) (fun h => nomatch h) fun sn => ?_
      dsimp only
      exact found_end (g := some (pre.length + 1, pre.length + 2)) (n := 1) rfl rfl rfl (by simp [yesW]) rfl rfl ⟨rfl, rfl, rfl⟩
  | x :: u, pre, rest, t, ou, sn, hd, hu, hl => by
    have hx : x ≠ 92 := hu x (.head _)
    have h1 : t.toArray.getD pre.length 0 = x := by rw [hd]; simp
    have hlen : t.length = pre.length + 1 + u.length + rest.length := by rw [hd]; simp only [List.length_append, List.length_cons]; omega
    have acc : Acc cEsc 9 x false := by
      intro s0
      refine ⟨s0, ?_⟩
      unfold accepts
      show Except.ok (x == 92, s0) = _
      rw [show (x == 92) = false from by simp [hx]]
    have ih := fun sn => esc_go (pre0 := pre0) u (pre ++ [x]) rest t false sn (by rw [hd]; simp) (fun c hc => hu c (.tail _ hc)) hl
    have step : ∀ P, (∀ sn, Ends (2 * u.length + 10) (At cEsc 9 t #[none, none] t.length (pre ++ [x]).length false false sn) P) → Ends (2 * (x :: u).length + 10) (At cEsc 9 t #[none, none] t.length pre.length ou false sn) P := by
      intro P h
      refine Ends.mono (b := (2 * u.length + 10) + 1 + 1) ?_ (by simp only [List.length_cons]; omega)
      unfold At at h ⊢
      refine e_oneNo (op := .LITERAL) (c := x) rfl rfl rfl rfl (by dsimp only; decide) (by dsimp only; omega) h1 acc fun sn => ?_
      dsimp only
      refine e_next rfl rfl rfl rfl (by dsimp only; omega) rfl (Nat.le_of_ble_eq_true rfl) ?_
      dsimp only
      have := h sn
      rw [show (pre ++ [x]).length = pre.length + 1 by simp] at this
      exact this
    constructor
    · intro hr
      exact step _ fun sn => (ih sn).1 hr
    · intro c r hr hc
      have e : (pre ++ [x]).length + u.length = pre.length + (x :: u).length := by simp only [List.length_append, List.length_cons, List.length_nil]; omega
      refine step _ fun sn => ?_
      have := (ih sn).2 c r hr hc
      rw [e] at this
      exact this
theorem esc_start {t : List Nat} {p : Nat} (h : p + 2 ≤ t.length) : forSearch cEsc t.toArray 1 p t.length false = At cEsc 9 t #[none, none] t.length p true false (({} : Seen).add 14) := by
  unfold forSearch
  rw [if_neg (by rw [show header cEsc = (2, 9) from by decide +kernel]; intro h; simp only [Bool.or_eq_true, decide_eq_true_eq] at h; omega)]
  rfl
theorem esc_short {t : List Nat} {p : Nat} (h : ¬ p + 2 ≤ t.length) (hp : p ≤ t.length) : Ends 1 (forSearch cEsc t.toArray 1 p t.length false) Lost := by
  have e : forSearch cEsc t.toArray 1 p t.length false = M.say { code := cEsc, text := t.toArray, lim := t.length, start := p, pc := 9, pos := p, handed := p, marks := #[none, none], seen := ({} : Seen).add 14 } false := by
    unfold forSearch
    rw [if_pos (by rw [show header cEsc = (2, 9) from by decide +kernel]; simp only [Bool.or_eq_true, decide_eq_true_eq]; omega)]
    rfl
  rw [e]
  exact .step rfl (.done (b := 0) rfl rfl)
theorem esc_no {pre u : List Nat} (hu : ∀ c ∈ u, c ≠ 92) (hl : (pre ++ u).length ≤ 100000) : Ends 400000 (forSearch cEsc (pre ++ u).toArray 1 pre.length (pre ++ u).length false) Lost := by
  by_cases h : pre.length + 2 ≤ (pre ++ u).length
  · rw [esc_start h]
    exact ((esc_go (pre0 := []) u pre [] (pre ++ u) true _ (by simp) hu hl).1 rfl).mono (by simp only [List.length_append] at hl; omega)
  · exact (esc_short h (by simp)).mono (by omega)
theorem esc_yes {pre u r : List Nat} {c : Nat} (hu : ∀ c ∈ u, c ≠ 92) (hc : c ∈ sigma) (hl : (pre ++ u ++ 92 :: c :: r).length ≤ 100000) :
    Ends 400000 (forSearch cEsc (pre ++ u ++ 92 :: c :: r).toArray 1 pre.length (pre ++ u ++ 92 :: c :: r).length false) (Found (pre.length + u.length) (pre.length + u.length + 2) (some (pre.length + u.length + 1, pre.length + u.length + 2))) := by
  rw [esc_start (by simp only [List.length_append, List.length_cons]; omega)]
  exact ((esc_go (pre0 := []) u pre (92 :: c :: r) _ true _ rfl hu hl).2 c r rfl hc).mono (by simp only [List.length_append] at hl; omega)
end Rx
end Mine
end
section
open PySem PySem.Sre PySem.Sre.M
set_option Elab.async false
set_option maxRecDepth 100000
namespace Mine
local macro_rules | `(tactic| omega) => `(tactic| lia)
namespace Rx
noncomputable def tokB (c : Nat) : Bool := c == 97 || c == 46 || c == 42 || c == 126 || c == 107 || c == 122
theorem a_jtok : ∀ c ∈ sigma, accB cJTok 9 c = some (tokB c) := by decide +kernel
theorem e_repNo {b : Nat} {m : M} {P : M → Prop} {t pre : List Nat} {lo : Nat} {c : Nat} {r : List Nat} (hop : ops[m.word 0]? = some .REPEAT_ONE) (h2 : m.word 2 = lo) (h3 : m.word 3 = maxRepeat) (ho : m.outcome = none) (ha : m.answer = none) (hpc : m.pc < m.code.size)
    (ht : m.text = t.toArray) (hl : m.lim = t.length) (hp : m.pos = pre.length) (hd : t = pre ++ c :: r) (hlo : lo = 1) (hs : Acc m.code (m.pc + 4) c false) (hsz : t.length ≤ maxRepeat)
    (k : ∀ sn, Ends b { m with seen := sn, answer := some false } P) : Ends (b + 1) m P := by
  refine e_exec ho ha hpc ?_
  have hlen : t.length = pre.length + 1 + r.length := by rw [hd]; simp only [List.length_append, List.length_cons]; omega
  have hroom : ((m.lim : Int) - m.pos) = (1 + r.length : Nat) := by rw [hl, hp]; omega
  have hmin : min maxRepeat ((m.lim : Int) - m.pos).toNat = 1 + r.length := by
    rw [hroom]
    have : 1 + r.length ≤ maxRepeat := by omega
    rw [Int.toNat_natCast]; omega
  obtain ⟨sn, e⟩ := run_seg (t := t) [] pre (c :: r) (1 + r.length) 0 ((m.seen.add (m.word 0)).add (m.word 4)) (by rw [hd]; simp) (fun _ h => nomatch h) (.inr ⟨Nat.zero_le _, c, r, rfl, hs⟩)
  have hx : m.exec = { m with seen := sn, answer := some false } := by
    unfold M.exec
    rw [hop]
    dsimp only
    have e2 : M.word { m with seen := m.seen.add (m.word 0) } 2 = lo := h2
    have e3 : M.word { m with seen := m.seen.add (m.word 0) } 3 = maxRepeat := h3
    rw [e2, e3, if_neg (by rw [hroom]; omega)]
    simp only [Bool.false_eq_true, if_false]
    rw [hmin]
    have e5 : Sre.run m.code m.text (m.pc + 4) (1 + r.length) m.pos 0 ((m.seen.add (m.word 0)).add (M.word { m with seen := m.seen.add (m.word 0) } 4)) = .ok (0 + ([] : List Nat).length, sn) := by
      rw [ht, hp]; exact e
    rw [e5]
    dsimp only
    rw [if_pos (by rw [hlo]; decide)]
    rfl
  rw [hx]; exact k _
theorem jtok_start {t : List Nat} (h : t ≠ []) : forMatch cJTok t.toArray 0 0 t.length true false = { code := cJTok, text := t.toArray, lim := t.length, start := 0, wholeText := true, pc := 5, pos := 0, handed := 0, marks := #[], seen := ({} : Seen).add 14 } := by
  unfold forMatch
  have := List.length_pos_iff.mpr h
  rw [if_neg (by rw [show header cJTok = (1, 5) from by decide +kernel]; intro h; simp only [Bool.and_eq_true, decide_eq_true_eq] at h; omega)]
  rfl
theorem jtok_yes {t : List Nat} (h : t ≠ []) (hs : ∀ c ∈ t, c ∈ sigma ∧ tokB c = true) (hl : t.length ≤ 100000) : Ends 400000 (forMatch cJTok t.toArray 0 0 t.length true false) (Found 0 t.length none) := by
  rw [jtok_start h]
  refine Ends.mono (b := (1 + 1) + 1 + 1) ?_ (by omega)
  refine e_rep (lo := 1) (t := t) (pre := []) (mid := t) (post := []) rfl rfl rfl rfl rfl (by dsimp only; decide) rfl rfl rfl (by simp) (List.length_pos_iff.mpr h) (fun c hc => acc_of (code := cJTok) (i := 9) (by rw [a_jtok c (hs c hc).1, (hs c hc).2])) (.inl rfl) (by simp only [maxRepeat]; omega) (Nat.le_of_ble_eq_true rfl) (pc' := 22) rfl (pos' := t.length) (by simp) (kp := {}) rfl (wt := 1) rfl fun sn => ?_
  dsimp only
  refine e_success rfl rfl rfl (by dsimp only; decide) (fun _ => rfl) (fun h => nomatch h) fun sn => ?_
  dsimp only
  exact found_end (g := none) (n := 1) rfl rfl rfl (by simp [yesW]) rfl rfl trivial
theorem jtok_back {t : List Nat} : ∀ (k : Nat) (hd : Nat) (sn : Seen), k + 1 < t.length →
    Ends (2 * k + 4) { code := cJTok, text := t.toArray, lim := t.length, start := 0, wholeText := true, pc := 22, pos := k + 1, handed := hd, marks := #[], frames := [{ wait := .giveBack, pc := 5, pos := k + 1, outermost := true, count := (k + 1 : Nat) }], weight := 1, seen := sn } Lost
  | 0, hd, sn, hk => by
    refine Ends.mono (b := 1 + 1 + 1) ?_ (by omega)
    refine e_successNo rfl rfl rfl (by dsimp only; decide) rfl rfl (by dsimp only; omega) fun sn => ?_
    dsimp only
    refine e_backNo rfl rfl rfl rfl (by dsimp only; decide) ?_
    exact .step rfl (.done (b := 0) rfl rfl)
  | k + 1, hd, sn, hk => by
    refine Ends.mono (b := (2 * k + 4) + 1 + 1) ?_ (by omega)
    refine e_successNo rfl rfl rfl (by dsimp only; decide) rfl rfl (by dsimp only; omega) fun sn => ?_
    dsimp only
    refine e_backGo rfl rfl rfl rfl (by show ¬ (((k + 1 + 1 : Nat) : Int) - 1 < ((1 : Nat) : Int)); omega) (Nat.le_of_ble_eq_true rfl) rfl rfl ?_
    dsimp only
    have := jtok_back (t := t) k (k + 1) sn (by omega)
    have e : (((k + 1 + 1 : Nat) : Int) - 1) = ((k + 1 : Nat) : Int) := by omega
    rw [e]
    exact this
theorem jtok_no {t : List Nat} (hs : ∀ c ∈ t, c ∈ sigma) (h : t = [] ∨ ∃ c ∈ t, tokB c = false) (hl : t.length ≤ 100000) : Ends 400000 (forMatch cJTok t.toArray 0 0 t.length true false) Lost := by
  by_cases h0 : t = []
  · subst h0
    exact ⟨1, by omega, rfl, rfl⟩
  have : ∃ u c r, t = u ++ c :: r ∧ (∀ d ∈ u, tokB d = true) ∧ tokB c = false := by
    have h' : ∃ c ∈ t, tokB c = false := h.resolve_left h0
    clear h h0 hl hs
    induction t with
    | nil => obtain ⟨c, hc, _⟩ := h'; cases hc
    | cons a t ih =>
      by_cases ha : tokB a = true
      · obtain ⟨c, hc, hf⟩ := h'
        rcases List.mem_cons.mp hc with rfl | hc
        · rw [ha] at hf; cases hf
        · obtain ⟨u, c', r, rfl, h1, h2⟩ := ih ⟨c, hc, hf⟩
          exact ⟨a :: u, c', r, rfl, (fun d hd => by rcases List.mem_cons.mp hd with rfl | hd; exact ha; exact h1 d hd), h2⟩
      · exact ⟨[], a, t, rfl, (fun _ h => nomatch h), by simpa using ha⟩
  obtain ⟨u, c, r, hd, hu, hc⟩ := this
  rw [jtok_start h0]
  have hcm : c ∈ t := by rw [hd]; simp
  have ac : Acc cJTok 9 c false := acc_of (by rw [a_jtok c (hs c hcm), hc])
  have hlen : t.length = u.length + 1 + r.length := by rw [hd]; simp only [List.length_append, List.length_cons]; omega
  cases u with
  | nil =>
    refine Ends.mono (b := 1 + 1) ?_ (by omega)
    refine e_repNo (lo := 1) (t := t) (pre := []) (c := c) (r := r) rfl rfl rfl rfl rfl (by dsimp only; decide) rfl rfl rfl hd rfl ac (by simp only [maxRepeat]; omega) fun sn => ?_
    exact .step rfl (.done (b := 0) rfl rfl)
  | cons a u =>
    refine Ends.mono (b := (2 * u.length + 4) + 1) ?_ (by simp only [List.length_cons] at hlen; omega)
    refine e_rep (lo := 1) (t := t) (pre := []) (mid := a :: u) (post := c :: r) rfl rfl rfl rfl rfl (by dsimp only; decide) rfl rfl rfl (by rw [hd]; simp) (by simp) (fun d hd' => acc_of (code := cJTok) (i := 9) (by rw [a_jtok d (hs d (by rw [hd]; exact List.mem_append_left _ hd')), hu d hd'])) (.inr ⟨c, r, rfl, ac⟩) (by simp only [maxRepeat]; omega) (Nat.le_of_ble_eq_true rfl) (pc' := 22) rfl (pos' := u.length + 1) (by simp) (kp := {}) rfl (wt := 1) rfl fun sn => ?_
    dsimp only
    exact jtok_back u.length (u.length + 1) sn (by simp only [List.length_cons] at hlen; omega)
/-- the set ahead of a search -/
noncomputable def inB (code : Array Nat) (i c : Nat) : Option Bool := match inSet code c code.size i true {} with | .ok (b, _) => some b | .error _ => none
theorem in_of {code : Array Nat} {i c : Nat} {b : Bool} (h : inB code i c = some b) : ∀ s0, ∃ sn, inSet code c code.size i true s0 = .ok (b, sn) := by
  intro s0
  unfold inB at h
  revert h
  split
  · rename_i hq; intro h; cases h; exact inSet_seen _ _ _ _ _ _ _ _ _ hq
  · intro h; cases h
noncomputable def escB (c : Nat) : Bool := c == 34 || c == 92
theorem i_jesc : ∀ c ∈ sigma, inB cJEsc 5 c = some (escB c) ∧ accB cJEsc 12 c = some (escB c) := by decide +kernel
theorem admitted_go {m : M} {t : List Nat} (hc : m.code = cJEsc) (ht : m.text = t.toArray) (hl : m.lim = t.length) : ∀ (u pre rest : List Nat) (fuel : Nat) (sn : Seen), t = pre ++ u ++ rest → (∀ c ∈ u, c ∈ sigma ∧ escB c = false) → u.length + rest.length < fuel →
    (rest = [] → ∃ sn', M.admitted m fuel pre.length sn = .ok (none, sn')) ∧ (∀ c r, rest = c :: r → c ∈ sigma → escB c = true → ∃ sn', M.admitted m fuel pre.length sn = .ok (some (pre.length + u.length), sn'))
  | _, _, _, 0, _, _, _, hf => absurd hf (Nat.not_lt_zero _)
  | [], pre, rest, fuel + 1, sn, hd, _, hf => by
    constructor
    · rintro rfl
      refine ⟨sn, ?_⟩
      unfold M.admitted
      rw [if_pos (by rw [hl, hd]; simp)]
    · rintro c r rfl h1 h2
      obtain ⟨sn', e⟩ := in_of (i_jesc c h1).1 sn
      refine ⟨sn', ?_⟩
      unfold M.admitted
      rw [if_neg (by rw [hl, hd]; simp), hc, ht]
      have hq : t.toArray.getD pre.length 0 = c := by rw [hd]; simp
      rw [hq, e, h2]
      rfl
  | x :: u, pre, rest, fuel + 1, sn, hd, hu, hf => by
    obtain ⟨sn', e⟩ := in_of (i_jesc x (hu x (.head _)).1).1 sn
    have ih := admitted_go hc ht hl u (pre ++ [x]) rest fuel sn' (by rw [hd]; simp) (fun c h => hu c (.tail _ h)) (by simp only [List.length_cons] at hf; omega)
    have hq : t.toArray.getD pre.length 0 = x := by rw [hd]; simp
    have key : M.admitted m (fuel + 1) pre.length sn = M.admitted m fuel (pre ++ [x]).length sn' := by
      conv => lhs; unfold M.admitted
      rw [if_neg (by rw [hl, hd]; simp), hc, ht, hq, e, (hu x (.head _)).2]
      simp
    rw [key]
    refine ⟨ih.1, fun c r h1 h2 h3 => ?_⟩
    obtain ⟨s2, e2⟩ := ih.2 c r h1 h2 h3
    exact ⟨s2, by rw [e2]; simp only [List.length_append, List.length_cons, List.length_nil]; congr 3; omega⟩
noncomputable def jm (t : List Nat) (p : Nat) (sn : Seen) : M := { code := cJEsc, text := t.toArray, lim := t.length, start := p, lastStart := t.length, pc := 10, pos := p, handed := p, marks := #[none, none], seen := sn }
theorem jesc_start {t : List Nat} {p : Nat} (h : p + 1 ≤ t.length) : forSearch cJEsc t.toArray 1 p t.length false = M.attemptFrom (jm t p (({} : Seen).add 14)) p true := by
  unfold forSearch
  rw [if_neg (by rw [show header cJEsc = (1, 10) from by decide +kernel]; intro h; simp only [Bool.or_eq_true, decide_eq_true_eq] at h; omega)]
  rfl
theorem jesc_try {t : List Nat} {p : Nat} {o : Option Nat} {sn sn' : Seen} (e : M.admitted (jm t p sn) (t.length + 1 - p) p sn = .ok (o, sn')) :
    M.attemptFrom (jm t p sn) p true = match o with | some s => M.attemptAt { jm t p sn' with mustAdvance := false } s true | none => M.say (jm t p sn') false := by
  unfold M.attemptFrom
  refine (if_neg (by rw [show M.hasFirstSet (jm t p sn) = true from rfl]; decide)).trans ?_
  have e' : M.admitted (jm t p sn) ((jm t p sn).lim + 1 - p) p (jm t p sn).seen = .ok (o, sn') := e
  rw [e']
  cases o <;> rfl
theorem jesc_no {pre u : List Nat} (hu : ∀ c ∈ u, c ∈ sigma ∧ escB c = false) (hl : (pre ++ u).length ≤ 100000) : Ends 400000 (forSearch cJEsc (pre ++ u).toArray 1 pre.length (pre ++ u).length false) Lost := by
  generalize ht : pre ++ u = t
  by_cases h0 : pre.length + 1 ≤ t.length
  · obtain ⟨sn', e⟩ := (admitted_go (m := jm t pre.length (({} : Seen).add 14)) (t := t) rfl rfl rfl u pre [] (t.length + 1 - pre.length) (({} : Seen).add 14) (by rw [← ht]; simp) hu (by rw [← ht]; simp only [List.length_append, List.length_nil]; omega)).1 rfl
    rw [jesc_start h0, jesc_try e]
    exact .mono (.step rfl (.done (b := 0) rfl rfl)) (by decide)
  · have e : forSearch cJEsc t.toArray 1 pre.length t.length false = M.say { code := cJEsc, text := t.toArray, lim := t.length, start := pre.length, pc := 10, pos := pre.length, handed := pre.length, marks := #[none, none], seen := ({} : Seen).add 14 } false := by
      unfold forSearch
      rw [if_pos (by rw [show header cJEsc = (1, 10) from by decide +kernel]; simp only [Bool.or_eq_true, decide_eq_true_eq]; omega)]
      rfl
    rw [e]
    exact .mono (.step rfl (.done (b := 0) rfl rfl)) (by decide)
theorem jesc_yes {pre u r : List Nat} {c : Nat} (hu : ∀ c ∈ u, c ∈ sigma ∧ escB c = false) (hc : c ∈ sigma) (hb : escB c = true) (hl : (pre ++ u ++ c :: r).length ≤ 100000) :
    Ends 400000 (forSearch cJEsc (pre ++ u ++ c :: r).toArray 1 pre.length (pre ++ u ++ c :: r).length false) (Found (pre.length + u.length) (pre.length + u.length + 1) (some (pre.length + u.length, pre.length + u.length + 1))) := by
  generalize ht : pre ++ u ++ c :: r = t
  have hlen : t.length = pre.length + u.length + 1 + r.length := by rw [← ht]; simp only [List.length_append, List.length_cons]; omega
  have hq : t.toArray.getD (pre.length + u.length) 0 = c := by rw [← ht]; simp
  obtain ⟨sn', e⟩ := (admitted_go (m := jm t pre.length (({} : Seen).add 14)) (t := t) rfl rfl rfl u pre (c :: r) (t.length + 1 - pre.length) (({} : Seen).add 14) ht.symm hu (by simp only [List.length_cons]; omega)).2 c r rfl hc hb
  rw [jesc_start (by omega), jesc_try e]
  have e2 : M.attemptAt { jm t pre.length sn' with mustAdvance := false } (pre.length + u.length) true = At cJEsc 10 t #[none, none] t.length (pre.length + u.length) true false sn' := rfl
  dsimp only
  rw [e2]
  unfold At
  refine Ends.mono (b := (1 + 1) + 1 + 1 + 1 + 1) ?_ (by omega)
  refine e_mark (i := 0) rfl rfl rfl rfl (by dsimp only; decide) (by dsimp only; decide) (pc' := 12) rfl (mk' := #[some (pre.length + u.length), none]) rfl (lm := 0) rfl (li := -1) rfl fun sn => ?_
  dsimp only
  refine e_one (op := .IN) (c := c) rfl rfl rfl rfl (by dsimp only; decide) (by dsimp only; omega) hq (acc_of (code := cJEsc) (i := 12) (by rw [(i_jesc c hc).2, hb])) (pc' := 19) rfl fun sn => ?_
  dsimp only
  refine e_mark (i := 1) rfl rfl rfl rfl (by dsimp only; decide) (by dsimp only; decide) (pc' := 21) rfl (mk' := #[some (pre.length + u.length), some (pre.length + u.length + 1)]) rfl (lm := 1) rfl (li := 1) rfl fun sn => ?_
  dsimp only
  refine e_success rfl rfl rfl (by dsimp only; decide) (fun h => nomatch h) (fun h => nomatch h) fun sn => ?_
  dsimp only
  exact found_end (g := some (pre.length + u.length, pre.length + u.length + 1)) (n := 1) rfl rfl rfl (by simp [yesW]) rfl rfl ⟨rfl, rfl, rfl⟩
/-- searches in written texts -/
noncomputable def foundB (m : M) (a e : Nat) (g : Option (Nat × Nat)) : Bool :=
  (match m.outcome with | some .matched => true | _ => false) && m.start == a && m.handed == e && (match g with | none => true | some (p, q) => m.marks == #[some p, some q] && m.lastmark == 1 && m.lastindex == 1)
theorem found_of {m : M} {n a e : Nat} {g : Option (Nat × Nat)} (h : foundB (iter n m) a e g = true) (hn : n ≤ 400000) : Ends 400000 m (Found a e g) := by
  unfold foundB at h
  simp only [Bool.and_eq_true, beq_iff_eq] at h
  obtain ⟨⟨⟨h1, h2⟩, h3⟩, h4⟩ := h
  have ho : (iter n m).outcome = some .matched := by
    revert h1; cases (iter n m).outcome with
    | none => intro h; cases h
    | some o => cases o <;> intro h <;> first | rfl | cases h
  refine ⟨n, hn, by rw [ho]; rfl, ho, h2, h3, ?_⟩
  cases g with
  | none => trivial
  | some pq => simp only [Bool.and_eq_true, beq_iff_eq] at h4; exact ⟨h4.1.1, h4.1.2, h4.2⟩
noncomputable def lostB (m : M) : Bool := match m.outcome with | some .failed => true | _ => false
theorem lost_of {m : M} {n : Nat} (h : lostB (iter n m) = true) (hn : n ≤ 400000) : Ends 400000 m Lost := by
  have ho : (iter n m).outcome = some .failed := by
    unfold lostB at h
    revert h; cases (iter n m).outcome with
    | none => intro h; cases h
    | some o => cases o <;> intro h <;> first | rfl | cases h
  exact ⟨n, hn, by rw [ho]; rfl, ho⟩
theorem tok_z : Ends 400000 (forSearch cTok #[122] 1 0 1 false) (Found 0 1 (some (0, 1))) := found_of (n := 60) (by decide +kernel) (by decide)
theorem tok_sz : Ends 400000 (forSearch cTok #[32, 122] 1 0 2 false) (Found 0 2 (some (1, 2))) := found_of (n := 60) (by decide +kernel) (by decide)
theorem tok_semi : Ends 400000 (forSearch cTok #[59, 32, 122] 1 0 3 false) Lost := lost_of (n := 60) (by decide +kernel) (by decide)
theorem tok_comma : Ends 400000 (forSearch cTok #[44, 32, 122] 1 0 3 false) Lost := lost_of (n := 60) (by decide +kernel) (by decide)
theorem quo_nil : Ends 400000 (forSearch cQuo #[] 1 0 0 false) Lost := lost_of (n := 60) (by decide +kernel) (by decide)
theorem val_nil : Ends 400000 (forSearch cVal #[] 1 0 0 false) Lost := lost_of (n := 60) (by decide +kernel) (by decide)
theorem twin_0 : Ends 400000 (forSearch cTwin #[59, 32, 122] 0 0 3 false) (Found 0 2 none) := found_of (n := 60) (by decide +kernel) (by decide)
theorem twin_2 : Ends 400000 (forSearch cTwin #[59, 32, 122] 0 2 3 false) Lost := lost_of (n := 60) (by decide +kernel) (by decide)
end Rx
end Mine
end
section
open PySem PySem.Builtin PySem.Builtin.Re PyProof.Rows
set_option Elab.async false
set_option maxRecDepth 100000
namespace Mine
section
variable {prog : Program} {w : World} {A : Around} {E : Value → Shared → Prop} {s : Shared}
theorem call_raw {T : String} {name : Str} {id : String} {B : Builtin} {self : Value} {rest : List Value} {Q : Value → Shared → Prop} (slot : Slot T name id) (hT : s.TypeIs self T)
    (entry : entryFor table id = some B) (args : argsOk id ⟨self :: rest, []⟩)
    (h : wpAny (model prog w) A.in1 (B ⟨self :: rest, []⟩) (fun fin s' => match fin with
      | .done f => (match f with | .ret v => Q v s' | _ => False)
      | .again c' => c'.quiet = true ∧ codeAny (model prog w) A c' (fun r s' => match r with | .ok (.ret v) => Q v s' | .ok _ => False | .error e => E e s') s') E s) :
    wpAny (model prog w) A (call (.builtin id) (self :: rest)) Q E s := by
  refine wpAny_call (codeAny_call_builtin slot.plain entry (slot.check _ _ _ _ _ _ _ _ hT args (wpAny_mono h (fun fin s' h' => ?_) fun _ _ x => x)))
  cases fin with
  | done f => cases f <;> first | exact h' | exact h'.elim
  | again c' => exact h'
end
namespace Rp
theorem pa : PlainAttrs "re.Pattern" := ⟨⟨"object.__getattribute__", by rw [typeLookup_type, builtinLookup_eq_fast]; kernel_rfl, by decide +kernel⟩, by rw [typeLookup_type, builtinLookup_eq_fast]; kernel_rfl⟩
theorem pm : PlainAttrs "re.Match" := ⟨⟨"object.__getattribute__", by rw [typeLookup_type, builtinLookup_eq_fast]; kernel_rfl, by decide +kernel⟩, by rw [typeLookup_type, builtinLookup_eq_fast]; kernel_rfl⟩
theorem slot_p_search : Slot "re.Pattern" "search" "re.Pattern.search" :=
  .of (owner := "re.Pattern") (n := "search") (by rw [typeLookup_type, builtinLookup_eq_fast]; kernel_rfl) (by decide +kernel) (by decide +kernel) (by decide +kernel)
    (by first | exact .inl (by decide +kernel) | exact .inr (by decide +kernel)) (by rw [isSubtype_type]; kernel_rfl)
theorem entry_p_search : entryFor table "re.Pattern.search" = some Builtin.«re.Pattern.search» := entryFor_of_tree (by kernel_rfl)
theorem type_p_search : typeOf (.builtin "re.Pattern.search") = pure (.type "method_descriptor") := by kernel_rfl
theorem slot_p_fullmatch : Slot "re.Pattern" "fullmatch" "re.Pattern.fullmatch" :=
  .of (owner := "re.Pattern") (n := "fullmatch") (by rw [typeLookup_type, builtinLookup_eq_fast]; kernel_rfl) (by decide +kernel) (by decide +kernel) (by decide +kernel)
    (by first | exact .inl (by decide +kernel) | exact .inr (by decide +kernel)) (by rw [isSubtype_type]; kernel_rfl)
theorem entry_p_fullmatch : entryFor table "re.Pattern.fullmatch" = some Builtin.«re.Pattern.fullmatch» := entryFor_of_tree (by kernel_rfl)
theorem type_p_fullmatch : typeOf (.builtin "re.Pattern.fullmatch") = pure (.type "method_descriptor") := by kernel_rfl
theorem slot_p_sub : Slot "re.Pattern" "sub" "re.Pattern.sub" :=
  .of (owner := "re.Pattern") (n := "sub") (by rw [typeLookup_type, builtinLookup_eq_fast]; kernel_rfl) (by decide +kernel) (by decide +kernel) (by decide +kernel)
    (by first | exact .inl (by decide +kernel) | exact .inr (by decide +kernel)) (by rw [isSubtype_type]; kernel_rfl)
theorem entry_p_sub : entryFor table "re.Pattern.sub" = some Builtin.«re.Pattern.sub» := entryFor_of_tree (by kernel_rfl)
theorem type_p_sub : typeOf (.builtin "re.Pattern.sub") = pure (.type "method_descriptor") := by kernel_rfl
theorem slot_p_subn : Slot "re.Pattern" "subn" "re.Pattern.subn" :=
  .of (owner := "re.Pattern") (n := "subn") (by rw [typeLookup_type, builtinLookup_eq_fast]; kernel_rfl) (by decide +kernel) (by decide +kernel) (by decide +kernel)
    (by first | exact .inl (by decide +kernel) | exact .inr (by decide +kernel)) (by rw [isSubtype_type]; kernel_rfl)
theorem entry_p_subn : entryFor table "re.Pattern.subn" = some Builtin.«re.Pattern.subn» := entryFor_of_tree (by kernel_rfl)
theorem type_p_subn : typeOf (.builtin "re.Pattern.subn") = pure (.type "method_descriptor") := by kernel_rfl
theorem slot_m_span : Slot "re.Match" "span" "re.Match.span" :=
  .of (owner := "re.Match") (n := "span") (by rw [typeLookup_type, builtinLookup_eq_fast]; kernel_rfl) (by decide +kernel) (by decide +kernel) (by decide +kernel)
    (by first | exact .inl (by decide +kernel) | exact .inr (by decide +kernel)) (by rw [isSubtype_type]; kernel_rfl)
theorem entry_m_span : entryFor table "re.Match.span" = some Builtin.«re.Match.span» := entryFor_of_tree (by kernel_rfl)
theorem type_m_span : typeOf (.builtin "re.Match.span") = pure (.type "method_descriptor") := by kernel_rfl
theorem slot_m_group : Slot "re.Match" "group" "re.Match.group" :=
  .of (owner := "re.Match") (n := "group") (by rw [typeLookup_type, builtinLookup_eq_fast]; kernel_rfl) (by decide +kernel) (by decide +kernel) (by decide +kernel)
    (by first | exact .inl (by decide +kernel) | exact .inr (by decide +kernel)) (by rw [isSubtype_type]; kernel_rfl)
theorem entry_m_group : entryFor table "re.Match.group" = some Builtin.«re.Match.group» := entryFor_of_tree (by kernel_rfl)
theorem type_m_group : typeOf (.builtin "re.Match.group") = pure (.type "method_descriptor") := by kernel_rfl
theorem args_p_search (a b : Value) : argsOk "re.Pattern.search" ⟨[a, b], []⟩ := by unfold argsOk; kernel_rfl
theorem args_p_fullmatch (a b : Value) : argsOk "re.Pattern.fullmatch" ⟨[a, b], []⟩ := by unfold argsOk; kernel_rfl
theorem args_p_sub (a b c : Value) : argsOk "re.Pattern.sub" ⟨[a, b, c], []⟩ := by unfold argsOk; kernel_rfl
theorem args_p_subn (a b c : Value) : argsOk "re.Pattern.subn" ⟨[a, b, c], []⟩ := by unfold argsOk; kernel_rfl
theorem args_m_span (a b : Value) : argsOk "re.Match.span" ⟨[a, b], []⟩ := by unfold argsOk; kernel_rfl
theorem args_m_group (a b : Value) : argsOk "re.Match.group" ⟨[a, b], []⟩ := by unfold argsOk; kernel_rfl
theorem entry_loop : entryFor table "re.Pattern.sub.loop" = some Builtin.«re.Pattern.sub.loop» := entryFor_of_tree (by kernel_rfl)
theorem named1 (id f : String) (v : Value) : reNamed id f ["string", "pos", "endpos"] 1 [v] [] = pure [some v, none, none] := rfl
theorem named2 (id f : String) (v u : Value) : reNamed id f ["repl", "string", "count"] 2 [v, u] [] = pure [some v, some u, none] := rfl
end Rp
end Mine
end
section
open PySem PySem.Builtin PySem.Builtin.Re PyProof.Rows
set_option Elab.async false
set_option maxRecDepth 100000
namespace Mine
/-- a compiled pattern: its code words and how many groups -/
noncomputable def PatAt (h : Heap) (pat : Addr) (g : Nat) (code : Array Nat) : Prop :=
  ∃ p0 fl g3 g4 cd items n, h.get? pat = some { cls := .type "re.Pattern", data := .fields #[p0, fl, .int g 0, g3, g4, .ref cd, .int 0 0] } ∧
    h.get? cd = some { cls := .type "tuple", data := .seq items n } ∧ (items.map reRawOf).map (·.toNat) = code
theorem PatAt.keeps {h h' : Heap} {pat : Addr} {g : Nat} {code : Array Nat} (p : PatAt h pat g code) (k : ∀ b o, h.get? b = some o → h'.get? b = some o) : PatAt h' pat g code :=
  by obtain ⟨p0, fl, g3, g4, cd, items, n, h1, h2, h3⟩ := p; exact ⟨p0, fl, g3, g4, cd, items, n, k _ _ h1, k _ _ h2, h3⟩
noncomputable abbrev spansObj (l : List Value) : Obj := { cls := .type "tuple", data := .seq l.toArray }
noncomputable abbrev matchObj (x : Str) (t : Tok) (pat : Addr) (lim : Nat) (li : Int) (tp : Addr) : Obj := { cls := .type "re.Match", data := .fields #[.str x t, .ref pat, rawInt 0, rawInt lim, rawInt li, .ref tp] }
noncomputable abbrev spansOf (b e : Nat) (g : Option (Nat × Nat)) : List Value := rawInt b :: rawInt e :: (match g with | none => [] | some (p, q) => [rawInt p, rawInt q])
noncomputable def groupsOf : Option (Nat × Nat) → Nat
  | none => 0
  | some _ => 1
section
variable {prog : Program} {w : World} {M : Model} {A : Around} {E : Value → Shared → Prop} {s : Shared} {pat : Addr} {g : Nat} {code : Array Nat} {x : Str} {t : Tok}
theorem typeIs_pat (P : PatAt s.heap pat g code) : s.TypeIs (.ref pat) "re.Pattern" := by
  obtain ⟨_, _, _, _, _, _, _, h1, _⟩ := P
  exact ⟨_, h1, rfl⟩
theorem wp_text {Q : Array Nat × Nat → Shared → Prop} (h : Q (x.cps, 0) s) : wpAny M A (reTextOf (.str x t)) Q E s := by
  unfold reTextOf
  exact wpAny_bind (wpAny_pure (wpAny_pure h))
theorem wp_items {cd : Addr} {items : Array Value} {n : Nat} {Q : Array Int → Shared → Prop} (h2 : s.heap.get? cd = some { cls := .type "tuple", data := .seq items n }) (h : Q (items.map reRawOf) s) : wpAny M A (reRawItems (.ref cd)) Q E s := by
  unfold reRawItems
  exact wpAny_bind (wpAny_seqItems h2 rfl (wpAny_pure h))
theorem wp_target {id f : String} {Q : ReTarget → Shared → Prop} (P : PatAt s.heap pat g code) (hx : x.cps.size ≤ 2 ^ 24)
    (h : Q { pattern := .ref pat, string := .str x t, code := code, text := x.cps, kind := 0, groups := g, pos := 0, lim := x.cps.size } s) : wpAny M A (reTarget id f ⟨[.ref pat, .str x t], []⟩) Q E s := by
  obtain ⟨p0, fl, g3, g4, cd, items, n, h1, h2, h3⟩ := P
  unfold reTarget
  dsimp only
  rw [Rp.named1]
  refine wpAny_bind (wpAny_pure ?_)
  refine wpAny_bind (wpAny_pure (wpAny_bind (wpAny_pure (wpAny_bind (wpAny_fieldsOf h1 rfl (wpAny_bind (wp_text ?_)))))))
  refine wpAny_bind (wpAny_pure (wpAny_bind (wp_items h2 (wpAny_pure ?_))))
  have e : min ((2 : Int) ^ 63 - 1).toNat x.cps.size = x.cps.size := by
    have : ((2 : Int) ^ 63 - 1).toNat = 9223372036854775807 := by decide
    rw [this]; omega
  rw [h3]
  simp only [e]
  exact h
theorem wp_wholeTarget {Q : ReTarget → Shared → Prop} (P : PatAt s.heap pat g code)
    (h : Q { pattern := .ref pat, string := .str x t, code := code, text := x.cps, kind := 0, groups := g, pos := 0, lim := x.cps.size } s) : wpAny M A (reWholeTarget (.ref pat) (.str x t)) Q E s := by
  obtain ⟨p0, fl, g3, g4, cd, items, n, h1, h2, h3⟩ := P
  unfold reWholeTarget
  refine wpAny_bind (wpAny_fieldsOf h1 rfl (wpAny_bind (wp_text ?_)))
  refine wpAny_bind (wpAny_pure (wpAny_bind (wp_items h2 (wpAny_pure ?_))))
  rw [h3]
  exact h
theorem wp_newMatch {m : Sre.M} {b e : Nat} {gp : Option (Nat × Nat)} {lim : Nat} {Q : Value → Shared → Prop} (hm : Rx.Found b e gp m) (hg : ∀ p q, gp = some (p, q) → p ≤ q)
    (h : ∀ li, Q (.ref (s.heap.objs.size + 1)) { s with heap := (s.heap.push (spansObj (spansOf b e gp))).push (matchObj x t pat lim li s.heap.objs.size) }) :
    wpAny M A (reNewMatch (.ref pat) (.str x t) (groupsOf gp) 0 lim m) Q E s := by
  obtain ⟨_, h2, h3, h4⟩ := hm
  have fin : wpAny M A (newTuple (spansOf b e gp) >>= fun tp => newFields "re.Match" [.str x t, .ref pat, rawInt 0, rawInt lim, rawInt m.lastindex, tp]) Q E s := by
    refine wpAny_bind (wpAny_newObj_type ?_ (by cases gp <;> exact Nat.le_of_ble_eq_true rfl))
    refine wpAny_newObj_type ?_ (Nat.le_of_ble_eq_true rfl)
    have := h m.lastindex
    simpa [Heap.push] using this
  cases gp with
  | none =>
    unfold reNewMatch
    rw [h2, h3]
    exact fin
  | some pq =>
    obtain ⟨p, q⟩ := pq
    obtain ⟨h5, h6, h7⟩ := h4
    have hpq := hg p q rfl
    have hd : decide (q < p) = false := decide_eq_false (by omega)
    obtain ⟨⟩ := m
    dsimp only at h2 h3 h5 h6 h7 fin
    subst h2 h3 h5 h6 h7
    unfold reNewMatch
    show wpAny M A (if (decide (((2 * 0 + 1 : Nat) : Int) ≤ 1) && decide (q < p) || false) = true then _ else _) Q E s
    rw [hd]
    exact fin
end
end Mine
end
section
open PySem PySem.Builtin PySem.Builtin.Re PyProof.Rows
set_option Elab.async false
set_option maxRecDepth 100000
namespace Mine
section
variable {prog : Program} {w : World} {M : Model} {A : Around} {E : Value → Shared → Prop} {s : Shared} {pat : Addr} {g : Nat} {code : Array Nat} {x : Str} {t : Tok} {Q : Value → Shared → Prop} {n : Nat} {b e : Nat} {gp : Option (Nat × Nat)}
theorem answer_yes {m : Sre.M} {Q : Fin → Shared → Prop} (hE : Rx.Ends n m (Rx.Found b e gp)) (hn : n ≤ 400000) (hg : ∀ p q, gp = some (p, q) → p ≤ q)
    (h : ∀ li, Q (.done (.ret (.ref (s.heap.objs.size + 1)))) { s with heap := (s.heap.push (spansObj (spansOf b e gp))).push (matchObj x t pat x.cps.size li s.heap.objs.size) }) :
    wpAny M A (reAnswer { pattern := .ref pat, string := .str x t, code := code, text := x.cps, kind := 0, groups := groupsOf gp, pos := 0, lim := x.cps.size } m) Q E s := by
  unfold reAnswer
  refine wpAny_bind (Rx.runToEnd hE (by omega) fun m' hm => ?_)
  rw [hm.1]
  dsimp only
  exact wpAny_bind (wp_newMatch hm hg fun li => wpAny_pure (h li))
theorem answer_no {m : Sre.M} {T : ReTarget} {Q : Fin → Shared → Prop} (hE : Rx.Ends n m Rx.Lost) (hn : n ≤ 400000) (h : Q (.done (.ret .none)) s) : wpAny M A (reAnswer T m) Q E s := by
  unfold reAnswer
  refine wpAny_bind (Rx.runToEnd hE (by omega) fun m' hm => ?_)
  rw [show m'.outcome = some .failed from hm]
  dsimp only
  exact wpAny_pure h
theorem search_yes (P : PatAt s.heap pat (groupsOf gp) code) (hx : x.cps.size ≤ 2 ^ 24) (hE : Rx.Ends n (Sre.forSearch code x.cps (groupsOf gp) 0 x.cps.size false) (Rx.Found b e gp)) (hn : n ≤ 400000) (hg : ∀ p q, gp = some (p, q) → p ≤ q)
    (h : ∀ li, Q (.ref (s.heap.objs.size + 1)) { s with heap := (s.heap.push (spansObj (spansOf b e gp))).push (matchObj x t pat x.cps.size li s.heap.objs.size) }) :
    wpAny (model prog w) A (call (.builtin "re.Pattern.search") [.ref pat, .str x t]) Q E s := by
  refine call_raw Rp.slot_p_search (typeIs_pat P) Rp.entry_p_search (Rp.args_p_search _ _) ?_
  unfold Builtin.«re.Pattern.search»
  exact wpAny_bind (wp_target P hx (answer_yes hE hn hg h))
theorem search_no (P : PatAt s.heap pat g code) (hx : x.cps.size ≤ 2 ^ 24) (hE : Rx.Ends n (Sre.forSearch code x.cps g 0 x.cps.size false) Rx.Lost) (hn : n ≤ 400000) (h : Q .none s) :
    wpAny (model prog w) A (call (.builtin "re.Pattern.search") [.ref pat, .str x t]) Q E s := by
  refine call_raw Rp.slot_p_search (typeIs_pat P) Rp.entry_p_search (Rp.args_p_search _ _) ?_
  unfold Builtin.«re.Pattern.search»
  exact wpAny_bind (wp_target P hx (answer_no hE hn h))
theorem fullmatch_yes (P : PatAt s.heap pat (groupsOf gp) code) (hx : x.cps.size ≤ 2 ^ 24) (hE : Rx.Ends n (Sre.forMatch code x.cps (groupsOf gp) 0 x.cps.size true false) (Rx.Found b e gp)) (hn : n ≤ 400000) (hg : ∀ p q, gp = some (p, q) → p ≤ q)
    (h : ∀ li, Q (.ref (s.heap.objs.size + 1)) { s with heap := (s.heap.push (spansObj (spansOf b e gp))).push (matchObj x t pat x.cps.size li s.heap.objs.size) }) :
    wpAny (model prog w) A (call (.builtin "re.Pattern.fullmatch") [.ref pat, .str x t]) Q E s := by
  refine call_raw Rp.slot_p_fullmatch (typeIs_pat P) Rp.entry_p_fullmatch (Rp.args_p_fullmatch _ _) ?_
  unfold Builtin.«re.Pattern.fullmatch»
  exact wpAny_bind (wp_target P hx (answer_yes hE hn hg h))
theorem fullmatch_no (P : PatAt s.heap pat g code) (hx : x.cps.size ≤ 2 ^ 24) (hE : Rx.Ends n (Sre.forMatch code x.cps g 0 x.cps.size true false) Rx.Lost) (hn : n ≤ 400000) (h : Q .none s) :
    wpAny (model prog w) A (call (.builtin "re.Pattern.fullmatch") [.ref pat, .str x t]) Q E s := by
  refine call_raw Rp.slot_p_fullmatch (typeIs_pat P) Rp.entry_p_fullmatch (Rp.args_p_fullmatch _ _) ?_
  unfold Builtin.«re.Pattern.fullmatch»
  exact wpAny_bind (wp_target P hx (answer_no hE hn h))
theorem method_pat {name : Str} {id : String} {pl : Sem Bool} {Q : Value × List Value → Shared → Prop} (P : PatAt s.heap pat g code) (slot : Slot "re.Pattern" name id) (hty : typeOf (.builtin id) = pure (.type "method_descriptor")) (h : Q (.builtin id, [.ref pat]) s) :
    wpAny M A (getMethod (.ref pat) name pl) Q E s :=
  getMethod_builtin (typeIs_pat P) Rp.pa slot hty (fun a ha => by cases ha; obtain ⟨_, _, _, _, _, _, _, h1, _⟩ := P; exact ⟨_, h1, rfl⟩) h
/-- a match object: the text, and where it and its group lie -/
noncomputable def MatchAt (h : Heap) (a : Addr) (x : Str) (t : Tok) (b e : Nat) (gp : Option (Nat × Nat)) : Prop :=
  ∃ pat lim li tp, h.get? a = some (matchObj x t pat lim li tp) ∧ h.get? tp = some (spansObj (spansOf b e gp))
theorem MatchAt.keeps {h h' : Heap} {a : Addr} (m : MatchAt h a x t b e gp) (k : ∀ b o, h.get? b = some o → h'.get? b = some o) : MatchAt h' a x t b e gp :=
  let ⟨p, l, li, tp, h1, h2⟩ := m; ⟨p, l, li, tp, k _ _ h1, k _ _ h2⟩
theorem typeIs_match {a : Addr} (m : MatchAt s.heap a x t b e gp) : s.TypeIs (.ref a) "re.Match" := let ⟨_, _, _, _, h1, _⟩ := m; ⟨_, h1, rfl⟩
theorem method_match {a : Addr} {name : Str} {id : String} {pl : Sem Bool} {Q : Value × List Value → Shared → Prop} (m : MatchAt s.heap a x t b e gp) (slot : Slot "re.Match" name id) (hty : typeOf (.builtin id) = pure (.type "method_descriptor")) (h : Q (.builtin id, [.ref a]) s) :
    wpAny M A (getMethod (.ref a) name pl) Q E s :=
  getMethod_builtin (typeIs_match m) Rp.pm slot hty (fun a ha => by cases ha; obtain ⟨_, _, _, _, h1, _⟩ := m; exact ⟨_, h1, rfl⟩) h
theorem wp_found {a : Addr} {Q : ReFound → Shared → Prop} (m : MatchAt s.heap a x t b e gp) (h : ∀ f1 f2 f3 f4 f5, Q { fields := #[.str x t, f1, f2, f3, f4, f5], spans := ((spansOf b e gp).map reRawOf).toArray } s) : wpAny M A (reFound (.ref a)) Q E s := by
  obtain ⟨pat, lim, li, tp, h1, h2⟩ := m
  unfold reFound
  refine wpAny_bind (wpAny_fieldsOf h1 rfl (wpAny_bind (wp_items (items := (spansOf b e gp).toArray) (n := 0) h2 (wpAny_pure ?_))))
  rw [List.map_toArray]
  exact h _ _ _ _ _
theorem group_1 {a : Addr} {p q : Nat} {u : Tok} (m : MatchAt s.heap a x t b e (some (p, q))) (hx : x.cps.size ≤ 2 ^ 24) (h : Q (.str ⟨x.cps.extract p q⟩ s.toks) { s with toks := s.toks + 1 }) :
    wpAny (model prog w) A (call (.builtin "re.Match.group") [.ref a, .int 1 u]) Q E s := by
  refine call_raw Rp.slot_m_group (typeIs_match m) Rp.entry_m_group (Rp.args_m_group _ _) ?_
  unfold Builtin.«re.Match.group»
  refine wpAny_bind (wpAny_pure ?_)
  refine wpAny_bind (wp_found m fun f1 f2 f3 f4 f5 => ?_)
  dsimp only
  refine wpAny_bind ?_
  unfold reGroupNumber
  refine wpAny_bind (wpAny_bind (wpAny_pure (wpAny_pure ?_)))
  refine wpAny_pure ?_
  refine wpAny_bind ?_
  unfold reGroupText
  dsimp only
  rw [if_neg (by show ¬ ((decide ((p : Int) < 0) || decide ((q : Int) < 0)) = true); simp)]
  refine wpAny_bind (wp_text ?_)
  unfold reSlice
  refine wpAny_mkStr (wpAny_pure h) ?_
  show (x.cps.extract p q).size ≤ sizeLine
  rw [Array.size_extract, show sizeLine = 2 ^ 24 from rfl]
  omega
theorem span_0 {a : Addr} {u : Tok} (m : MatchAt s.heap a x t b e gp) (h : Q (.ref s.heap.objs.size) { s with heap := s.heap.push (spansObj [.int b s.toks, .int e (s.toks + 1)]), toks := s.toks + 2 }) :
    wpAny (model prog w) A (call (.builtin "re.Match.span") [.ref a, .int 0 u]) Q E s := by
  refine call_raw Rp.slot_m_span (typeIs_match m) Rp.entry_m_span (Rp.args_m_span _ _) ?_
  unfold Builtin.«re.Match.span»
  refine wpAny_bind ?_
  unfold reOneGroup
  refine wpAny_bind (wpAny_pure ?_)
  refine wpAny_bind (wp_found m fun f1 f2 f3 f4 f5 => ?_)
  dsimp only
  refine wpAny_bind ?_
  unfold reGroupNumber
  rcases gp with _ | ⟨p, q⟩
  all_goals
    refine wpAny_bind (wpAny_bind (wpAny_pure (wpAny_pure ?_)))
    refine wpAny_pure (wpAny_pure ?_)
    refine wpAny_bind (wpAny_mkInt (wpAny_bind (wpAny_mkInt (wpAny_bind (wpAny_newObj_type (wpAny_pure ?_) (Nat.le_of_ble_eq_true rfl))))))
    exact h
end
end Mine
end
section
open PySem PySem.Builtin PySem.Builtin.Re PyProof.Rows
set_option Elab.async false
set_option maxRecDepth 100000
namespace Mine
local macro_rules | `(tactic| omega) => `(tactic| lia)
noncomputable abbrev Grow (h h' : Heap) : Prop := ∀ b o, h.get? b = some o → h'.get? b = some o
theorem Grow.push {h h' : Heap} (g : Grow h h') (o : Obj) : Grow h (h'.push o) := fun b x e => Heap.get?_push_of_some _ (g b x e)
theorem Grow.trans {h h' h'' : Heap} (g : Grow h h') (k : Grow h' h'') : Grow h h'' := fun b x e => k b x (g b x e)
theorem Grow.refl (h : Heap) : Grow h h := fun _ _ e => e
theorem Grow.update {h h' : Heap} (g : Grow h h') {a : Addr} (ha : h.get? a = none) (f : Obj → Obj) : Grow h (h'.update a f) := fun b x e => by
  have hne : b ≠ a := fun q => by rw [q, ha] at e; cases e
  exact (Heap.get?_update_ne _ _ _ _ hne).trans (g b x e)
/-- what a substitution makes of the text from k on -/
inductive Subs (code : Array Nat) (f : List Nat → List Nat) (x : Array Nat) : Nat → List Nat → Prop
  | done {k : Nat} : Rx.Ends 400000 (Sre.forSearch code x 1 k x.size false) Rx.Lost → k ≤ x.size → Subs code f x k (x.extract k x.size).toList
  | more {k b e p q : Nat} {r : List Nat} : Rx.Ends 400000 (Sre.forSearch code x 1 k x.size false) (Rx.Found b e (some (p, q))) → k ≤ b → b < e → e ≤ x.size → p ≤ q → q ≤ x.size →
      (f (x.extract p q).toList).length ≤ 3 → Subs code f x e r → Subs code f x k ((x.extract k b).toList ++ f (x.extract p q).toList ++ r)
theorem strs_append {vs : List Value} {ys : List Str} {us : List Value} {zs : List Str} (H : StrsAre vs ys) (h : StrsAre us zs) : StrsAre (vs ++ us) (ys ++ zs) := by
  induction H with
  | nil => exact h
  | cons y t r ih => exact .cons y t ih
theorem glued_nil (ys : List Str) : (Txt.join Str.empty ys).cps.toList = (ys.map (·.cps.toList)).flatten := by
  unfold Txt.join
  rw [StrLaws.glued_eq_join]
  induction ys with
  | nil => rfl
  | cons y r ih =>
    cases r with
    | nil => simp [Str.join]
    | cons z r =>
      rw [Str.join]
      · rw [Str.cps_append, Str.cps_append, List.map_cons, List.flatten_cons, ← ih]
        simp [Str.empty]
      · exact fun h => nomatch h
section
variable {prog : Program} {w : World} {A : Around} {E : Value → Shared → Prop} {s : Shared} {pat lam pl : Addr} {code : Array Nat} {x : Str} {t : Tok} {f : List Nat → List Nat}
noncomputable abbrev listO (items : Array Value) (n : Nat) : Obj := { cls := .type "list", data := .seq items n }
noncomputable abbrev loopArgs (pat lam pl : Addr) (x : Str) (t : Tok) (n : Int) (k : Nat) : Args := ⟨[.ref pat, .str x t, .ref lam, rawInt 1, rawInt 0, rawInt n, rawInt k, rawInt k, .bool false, .ref pl, .bool false], []⟩
theorem push_list {items : Array Value} {cnt : Nat} {v : Value} {Q : Unit → Shared → Prop} (hp : s.heap.get? pl = some (listO items cnt)) (hz : items.size ≤ 16000000)
    (h : ∀ h' cnt', h'.get? pl = some (listO (items.push v) cnt') → (∀ h0, Grow h0 s.heap → h0.get? pl = none → Grow h0 h') → (∀ b o, b ≠ pl → s.heap.get? b = some o → h'.get? b = some o) → Q () { s with heap := h' }) {M : Model} :
    wpAny M A (updateSeq pl (·.push v)) Q E s := by
  refine wpAny_updateSeq hp rfl ?_ (by rw [show sizeLine = 2 ^ 24 from rfl]; omega) (by simp only [Array.size_push]; rw [show sizeLine = 2 ^ 24 from rfl]; omega)
  refine h _ _ (Heap.get?_update_self (Obj.mapSeq (·.push v)) hp rfl) (fun h0 g hn => g.update hn _) ?_
  exact fun b o hb e => (Heap.get?_update_ne _ _ _ _ hb).trans e
/-- what the function that is handed to a substitution does -/
noncomputable def LamIs (prog : Program) (w : World) (A : Around) (lam : Addr) (f : List Nat → List Nat) (h0 : Heap) : Prop :=
  ∀ (s : Shared) (a : Addr) (x : Str) (t : Tok) (b e p q : Nat) (Q : Value → Shared → Prop) (E : Value → Shared → Prop), Grow h0 s.heap → MatchAt s.heap a x t b e (some (p, q)) → x.cps.size ≤ 100000 →
    (∀ h' tk u, Grow s.heap h' → Q (.str ⟨(f (x.cps.extract p q).toList).toArray⟩ u) { s with heap := h', toks := tk }) → wpAny (model prog w) A (call (.ref lam) [.ref a]) Q E s
theorem in1_under (n : Int) (k : Nat) : A.under (.builtin "re.Pattern.sub.loop" (loopArgs pat lam pl x t n k)) = A.in1 := Around.under_plainId (by decide +kernel) _
theorem next_yes {b e p q k : Nat} {M : Model} {Q : Option Sre.M → Shared → Prop} (hE : Rx.Ends 400000 (Sre.forSearch code x.cps 1 k x.cps.size false) (Rx.Found b e (some (p, q)))) (h : ∀ m, Rx.Found b e (some (p, q)) m → Q (some m) s) :
    wpAny M A (reNextFound { pattern := .ref pat, string := .str x t, code := code, text := x.cps, kind := 0, groups := 1, pos := 0, lim := x.cps.size } k false) Q E s := by
  unfold reNextFound
  refine Rx.runToEnd hE (by omega) fun m hm => ?_
  rw [hm.1]; exact h m hm
theorem next_no {k : Nat} {M : Model} {Q : Option Sre.M → Shared → Prop} {g : Nat} (hE : Rx.Ends 400000 (Sre.forSearch code x.cps g k x.cps.size false) Rx.Lost) (h : Q none s) :
    wpAny M A (reNextFound { pattern := .ref pat, string := .str x t, code := code, text := x.cps, kind := 0, groups := g, pos := 0, lim := x.cps.size } k false) Q E s := by
  unfold reNextFound
  refine Rx.runToEnd hE (by omega) fun m hm => ?_
  rw [show m.outcome = some .failed from hm]; exact h
theorem sub_loop {h0 : Heap} (P : PatAt h0 pat 1 code) (hl : LamIs prog w A.in1 lam f h0) (hx : x.cps.size ≤ 100000) (hpl : h0.get? pl = none) {R : Result → Shared → Prop} {k : Nat} {r : List Nat} (S : Subs code f x.cps k r) :
    ∀ (s : Shared) (n : Int) (items : Array Value) (cnt : Nat) (ys : List Str), Grow h0 s.heap → s.heap.get? pl = some (listO items cnt) → StrsAre items.toList ys → items.size = ys.length → (ys.map (·.length)).sum + ys.length ≤ 6 * k → k ≤ x.cps.size →
      (∀ h' tk u, Grow h0 h' → R (.ok (.ret (.str ⟨((ys.map (·.cps.toList)).flatten ++ r).toArray⟩ u))) { s with heap := h', toks := tk }) →
      codeAny (model prog w) A (.builtin "re.Pattern.sub.loop" (loopArgs pat lam pl x t n k)) R s := by
  induction S with
  | @done k hE hk =>
    intro s n items cnt ys g hp hs hsz hsum hkx hR
    refine codeAny_builtin Rp.entry_loop ?_
    rw [in1_under]
    unfold Builtin.«re.Pattern.sub.loop»
    dsimp only
    refine wpAny_bind (wp_wholeTarget (P.keeps g) ?_)
    refine wpAny_bind ?_
    rw [if_neg (by simp), Int.toNat_natCast]
    refine next_no hE ?_
    dsimp only
    have tail : ∀ (s' : Shared) (items' : Array Value) (cnt' : Nat) (ys' : List Str), (∃ h' tk, s' = { s with heap := h', toks := tk }) → Grow h0 s'.heap → s'.heap.get? pl = some (listO items' cnt') → StrsAre items'.toList ys' → items'.size = ys'.length → (ys'.map (·.length)).sum + ys'.length ≤ 7000000 →
        (ys'.map (·.cps.toList)).flatten = (ys.map (·.cps.toList)).flatten ++ (x.cps.extract k x.cps.size).toList →
        wpAny (model prog w) A.in1 (do
          let joiner ← reSlice x.cps 0 0 0
          let __do_lift ← seqItems? (.ref pl)
          if (__do_lift.getD #[]).isEmpty = true then do
            let text ← pure joiner
            ret text
          else do
            let text ← call (.builtin "str.join") [joiner, .ref pl]
            ret text) (fun fin s' => match fin with | .done f => R (.ok f) s' | .again c' => c'.quiet = true ∧ codeAny (model prog w) A c' R s') (fun e s' => R (.error e) s') s' := by
      rintro s' items' cnt' ys' ⟨h', tk, rfl⟩ g' hp' hs' hsz' hsum' hfl
      unfold reSlice
      refine wpAny_bind (wpAny_mkStr ?_ (by show (x.cps.extract 0 0).size ≤ _; simp))
      refine wpAny_bind (wpAny_seqItems hp' rfl ?_)
      have e0 : (⟨x.cps.extract 0 0⟩ : Str) = Str.empty := by simp [Str.empty]
      by_cases he : items'.isEmpty = true
      · rw [if_pos (by simpa using he)]
        refine wpAny_bind (wpAny_pure (wpAny_pure ?_))
        have hz : ys' = [] := by
          have : items'.size = 0 := by simpa using he
          rw [hsz'] at this
          exact List.eq_nil_of_length_eq_zero this
        have hr := hR h' (tk + 1) tk g'
        rw [← hfl, hz] at hr
        rw [e0]
        exact hr
      · rw [if_neg (by simpa using he)]
        refine wpAny_bind ?_
        rw [e0]
        refine join_list (ys := ys') ⟨_, hp', rfl, _, rfl⟩ hs' (by rw [show Str.empty.length = 0 from rfl]; omega) fun u tk' => wpAny_pure ?_
        have hr := hR h' tk' u g'
        rw [← hfl, ← glued_nil] at hr
        exact hr
    by_cases hkl : k < x.cps.size
    · rw [if_pos hkl]
      unfold reSlice
      refine wpAny_bind (wpAny_mkStr ?_ (by show (x.cps.extract k x.cps.size).size ≤ _; rw [Array.size_extract, show sizeLine = 2 ^ 24 from rfl]; omega))
      refine wpAny_bind (push_list (show ({ s with toks := s.toks + 1 } : Shared).heap.get? pl = _ from hp) (by rw [hsz]; omega) fun h' cnt' hp' hg' _ => ?_)
      refine tail _ (items.push (.str ⟨x.cps.extract k x.cps.size⟩ s.toks)) cnt' (ys ++ [⟨x.cps.extract k x.cps.size⟩]) ⟨_, _, rfl⟩ (hg' _ g hpl) hp' ?_ (by simp [hsz]) ?_ (by simp)
      · rw [Array.toList_push]
        exact strs_append hs (.cons _ _ .nil)
      · rw [List.map_append, List.sum_append, List.length_append]
        have : (x.cps.extract k x.cps.size).size ≤ 100000 := by rw [Array.size_extract]; omega
        simp only [List.map_cons, List.map_nil, List.sum_cons, List.sum_nil, List.length_cons, List.length_nil]
        show _ + ((x.cps.extract k x.cps.size).size + 0) + _ ≤ _
        omega
    · rw [if_neg hkl]
      refine tail _ items cnt ys ⟨_, _, rfl⟩ g hp hs hsz (by omega) ?_
      have : x.cps.extract k x.cps.size = #[] := by
        apply Array.eq_empty_of_size_eq_zero; rw [Array.size_extract]; omega
      rw [this]; simp
  | @more k b e p q r hE hkb hbe hex hpq hqx hf3 hS ih =>
    intro s n items cnt ys g hp hs hsz hsum hkx hR
    refine codeAny_builtin Rp.entry_loop ?_
    rw [in1_under]
    unfold Builtin.«re.Pattern.sub.loop»
    dsimp only
    refine wpAny_bind (wp_wholeTarget (P.keeps g) ?_)
    refine wpAny_bind ?_
    rw [if_neg (by simp), Int.toNat_natCast]
    refine next_yes hE fun m hm => ?_
    dsimp only
    have hst : m.start = b := hm.2.1
    have hhd : m.handed = e := hm.2.2.1
    have tail : ∀ (s' : Shared) (items' : Array Value) (cnt' : Nat) (ys' : List Str), (∃ h' tk, s' = { s with heap := h', toks := tk }) → Grow h0 s'.heap → s'.heap.get? pl = some (listO items' cnt') → StrsAre items'.toList ys' → items'.size = ys'.length → (ys'.map (·.length)).sum + ys'.length ≤ 6 * k + (b - k) + 1 →
        (ys'.map (·.cps.toList)).flatten = (ys.map (·.cps.toList)).flatten ++ (x.cps.extract k b).toList →
        wpAny (model prog w) A.in1 (do
          let found ← reNewMatch (.ref pat) (.str x t) 1 0 x.cps.size m
          let item ← holding [found] (if ((1 : Int) == 1) = true then call (.ref lam) [found] else do
            let __do_lift ← reFound found
            reExpand (.ref lam) __do_lift)
          if (item != .none) = true then do
            updateSeq pl fun x => x.push item
            again (.builtin "re.Pattern.sub.loop" { pos := [.ref pat, .str x t, .ref lam, rawInt 1, rawInt 0, rawInt (n + 1), rawInt m.handed, rawInt m.handed, .bool (m.handed == m.start), .ref pl, .bool false] })
          else again (.builtin "re.Pattern.sub.loop" { pos := [.ref pat, .str x t, .ref lam, rawInt 1, rawInt 0, rawInt (n + 1), rawInt m.handed, rawInt m.handed, .bool (m.handed == m.start), .ref pl, .bool false] }))
          (fun fin s' => match fin with | .done f => R (.ok f) s' | .again c' => c'.quiet = true ∧ codeAny (model prog w) A c' R s') (fun e s' => R (.error e) s') s' := by
      rintro s' items' cnt' ys' ⟨h', tk, rfl⟩ g' hp' hs' hsz' hsum' hfl
      have hpp : h0.get? pl = none := hpl
      refine wpAny_bind (wp_newMatch (gp := some (p, q)) hm (fun p' q' e' => by cases e'; exact hpq) fun li => ?_)
      refine wpAny_bind (wpAny_holding ?_)
      rw [if_pos (by decide)]
      refine hl _ _ x t b e p q _ _ ((g'.push _).push _) ⟨pat, x.cps.size, li, h'.objs.size, ?_, ?_⟩ hx fun h2 tk2 u g2 => ?_
      · have := Heap.get?_push_size (h'.push (spansObj (spansOf b e (some (p, q))))) (o := matchObj x t pat x.cps.size li h'.objs.size) rfl
        simpa [Heap.push] using this
      · exact Heap.get?_push_of_some _ (Heap.get?_push_size _ rfl)
      · rw [if_pos (by rfl)]
        have hp2 : h2.get? pl = some (listO items' cnt') := g2 _ _ (Heap.get?_push_of_some _ (Heap.get?_push_of_some _ hp'))
        refine wpAny_bind (push_list hp2 (by rw [hsz']; omega) fun h3 cnt3 hp3 hg3 _ => ?_)
        refine wpAny_pure ⟨plainId_quiet (by decide +kernel) _, ?_⟩
        rw [hhd, hst, show (e == b) = false from by simp; omega]
        refine ih { s with heap := h3, toks := tk2 } (n + 1) (items'.push (.str ⟨(f (x.cps.extract p q).toList).toArray⟩ u)) cnt3 (ys' ++ [⟨(f (x.cps.extract p q).toList).toArray⟩]) (hg3 _ (((g'.push _).push _).trans g2) hpp) hp3 ?_ (by simp [hsz']) ?_ hex fun h4 tk4 u4 g4 => ?_
        · rw [Array.toList_push]
          exact strs_append hs' (.cons _ _ .nil)
        · rw [List.map_append, List.sum_append, List.length_append]
          simp only [List.map_cons, List.map_nil, List.sum_cons, List.sum_nil, List.length_cons, List.length_nil]
          show _ + ((f (x.cps.extract p q).toList).toArray.size + 0) + _ ≤ _
          rw [List.size_toArray]
          omega
        · have := hR h4 tk4 u4 g4
          rw [List.map_append, List.flatten_append, hfl]
          simpa using this
    by_cases hkl : k < m.start
    · rw [if_pos hkl]
      unfold reSlice
      rw [hst] at hkl ⊢
      refine wpAny_bind (wpAny_mkStr ?_ (by show (x.cps.extract k b).size ≤ _; rw [Array.size_extract, show sizeLine = 2 ^ 24 from rfl]; omega))
      refine wpAny_bind (push_list (show ({ s with toks := s.toks + 1 } : Shared).heap.get? pl = _ from hp) (by rw [hsz]; omega) fun h' cnt' hp' hg' _ => ?_)
      rw [← hst]
      refine tail _ (items.push (.str ⟨x.cps.extract k m.start⟩ s.toks)) cnt' (ys ++ [⟨x.cps.extract k m.start⟩]) ⟨_, _, rfl⟩ (hg' _ g hpl) (by rw [hst]; exact hp') ?_ (by simp [hsz]) ?_ (by rw [hst]; simp)
      · rw [Array.toList_push]
        exact strs_append hs (.cons _ _ .nil)
      · rw [List.map_append, List.sum_append, List.length_append]
        have : (x.cps.extract k m.start).size ≤ b - k := by rw [Array.size_extract, hst]; omega
        simp only [List.map_cons, List.map_nil, List.sum_cons, List.sum_nil, List.length_cons, List.length_nil]
        show _ + ((x.cps.extract k m.start).size + 0) + _ ≤ _
        omega
    · rw [if_neg hkl]
      refine tail _ items cnt ys ⟨_, _, rfl⟩ g hp hs hsz (by omega) ?_
      have : x.cps.extract k b = #[] := by
        apply Array.eq_empty_of_size_eq_zero; rw [Array.size_extract]; omega
      rw [this]; simp
end
end Mine
end
section
open PySem PySem.Builtin PySem.Builtin.Re PyProof.Rows
set_option Elab.async false
set_option maxRecDepth 100000
namespace Mine
theorem lk_fn_call : typeLookup (.type "function") "__call__" = pure (some (.builtin "function.__call__")) := by rw [typeLookup_type, builtinLookup_eq_fast]; kernel_rfl
theorem lk_str_call : typeLookup (.type "str") "__call__" = pure none := by rw [typeLookup_type, builtinLookup_eq_fast]; kernel_rfl
theorem sub_str_bytearray : isSubtype (.type "str") (.type "bytearray") = pure false := by rw [isSubtype_type]; kernel_rfl
theorem lit_ok (y : Str) (v : Tok) : reLiteralCannotBeTurned (.str y v) = pure () := rfl
theorem wp_slice {M : Model} {A : Around} {E : Value → Shared → Prop} {s : Shared} {y : Array Nat} {b e : Nat} {Q : Value → Shared → Prop} (h : Q (.str ⟨y.extract b e⟩ s.toks) { s with toks := s.toks + 1 }) (hy : y.size ≤ 16777216) : wpAny M A (reSlice y 0 b e) Q E s := by
  unfold reSlice
  refine wpAny_mkStr h ?_
  show (y.extract b e).size ≤ sizeLine
  rw [Array.size_extract, show sizeLine = 2 ^ 24 from rfl]
  omega
section
variable {prog : Program} {w : World} {A : Around} {E : Value → Shared → Prop} {s : Shared} {pat lam pl : Addr} {code : Array Nat} {x : Str} {t : Tok} {f : List Nat → List Nat} {Q : Value → Shared → Prop}
theorem re_sub {r : List Nat} (P : PatAt s.heap pat 1 code) (hT : s.TypeIs (.ref lam) "function") (hl : LamIs prog w A.in1 lam f s.heap) (hx : x.cps.size ≤ 100000) (S : Subs code f x.cps 0 r)
    (h : ∀ h' tk u, Grow s.heap h' → Q (.str ⟨r.toArray⟩ u) { s with heap := h', toks := tk }) :
    wpAny (model prog w) A (call (.builtin "re.Pattern.sub") [.ref pat, .ref lam, .str x t]) Q E s := by
  refine call_raw Rp.slot_p_sub (typeIs_pat P) Rp.entry_p_sub (Rp.args_p_sub _ _ _) ?_
  unfold Builtin.«re.Pattern.sub» reSubstitute
  dsimp only
  rw [Rp.named2]
  refine wpAny_bind (wpAny_pure (wpAny_bind (wpAny_pure (wpAny_bind (wpAny_specialOf hT lk_fn_call ?_)))))
  try dsimp only
  refine wpAny_bind (wpAny_pure (wpAny_bind (wpAny_pure ?_)))
  dsimp only
  refine wpAny_bind (wpAny_holding (wp_wholeTarget P ?_))
  refine wpAny_bind ?_
  unfold reNotHeld
  refine wpAny_bind (wpAny_isInstance (typeIs_str _ _ _) sub_str_bytearray (wpAny_pure ?_))
  refine wpAny_bind (wpAny_newObj_type (wpAny_pure ⟨plainId_quiet (by decide +kernel) _, ?_⟩) (Nat.zero_le _))
  have hfree : s.heap.get? s.heap.objs.size = none := by
    cases hq : s.heap.get? s.heap.objs.size with
    | none => rfl
    | some o => exact absurd (Heap.lt_size hq) (Nat.lt_irrefl _)
  refine sub_loop (h0 := s.heap) (f := f) P hl hx hfree S _ 0 #[] 0 [] ((Grow.refl _).push _) (Heap.get?_push_size _ rfl) .nil rfl (Nat.zero_le _) (Nat.zero_le _) fun h' tk u g => ?_
  simpa using h h' tk u g
set_option maxHeartbeats 400000 in
theorem re_subn_z {u u' : Tok} (P : PatAt s.heap pat 0 code) (twin_0 : Rx.Ends 400000 (Sre.forSearch code #[59, 32, 122] 0 0 3 false) (Rx.Found 0 2 none)) (twin_2 : Rx.Ends 400000 (Sre.forSearch code #[59, 32, 122] 0 2 3 false) Rx.Lost) (h : ∀ h' tk v v' tp, Grow s.heap h' → s.heap.get? tp = none → h'.get? tp = some (spansObj [.str ⟨#[122]⟩ v, .int 1 v']) → Q (.ref tp) { s with heap := h', toks := tk }) :
    wpAny (model prog w) A (call (.builtin "re.Pattern.subn") [.ref pat, .str ⟨#[]⟩ u, .str ⟨#[59, 32, 122]⟩ u']) Q E s := by
  refine call_raw Rp.slot_p_subn (typeIs_pat P) Rp.entry_p_subn (Rp.args_p_subn _ _ _) ?_
  unfold Builtin.«re.Pattern.subn» reSubstitute
  dsimp only
  rw [Rp.named2]
  refine wpAny_bind (wpAny_pure (wpAny_bind (wpAny_pure (wpAny_bind (wpAny_specialOf (typeIs_str _ _ _) lk_str_call ?_)))))
  try dsimp only
  refine wpAny_bind (wpAny_bind (wpAny_pure (wpAny_pure ?_)))
  refine wpAny_bind (wpAny_pure ?_)
  rw [if_neg (by decide), if_pos (by simp)]
  refine wpAny_bind (wpAny_pure ?_)
  dsimp only
  refine wpAny_bind (wpAny_holding (wp_wholeTarget P ?_))
  refine wpAny_bind (wpAny_newObj_type (wpAny_pure ⟨plainId_quiet (by decide +kernel) _, ?_⟩) (Nat.zero_le _))
  have hfree : s.heap.get? s.heap.objs.size = none := by
    cases hq : s.heap.get? s.heap.objs.size with
    | none => rfl
    | some o => exact absurd (Heap.lt_size hq) (Nat.lt_irrefl _)
  generalize hpl : s.heap.objs.size = pl at hfree
  have hp0 : (s.heap.push (listO #[] 0)).get? pl = some (listO #[] 0) := by rw [← hpl]; exact Heap.get?_push_size _ rfl
  have g0 : Grow s.heap (s.heap.push (listO #[] 0)) := (Grow.refl _).push _
  refine codeAny_builtin Rp.entry_loop ?_
  rw [Around.under_plainId (by decide +kernel)]
  unfold Builtin.«re.Pattern.sub.loop»
  dsimp only
  refine wpAny_bind (wp_wholeTarget (P.keeps g0) ?_)
  rw [if_pos (by rfl)]
  rw [lit_ok]
  refine wpAny_bind (wpAny_pure ?_)
  dsimp only
  refine wpAny_bind ?_
  rw [if_neg (by simp)]
  unfold reNextFound
  refine Rx.runToEnd twin_0 (by omega) fun m hm => ?_
  rw [hm.1]
  dsimp only
  rw [if_neg (by rw [hm.2.1]; simp)]
  refine wpAny_bind (wpAny_pure ?_)
  rw [if_pos (by rfl)]
  refine wpAny_bind (push_list hp0 (by simp) fun h1 c1 hp1 hg1 _ => ?_)
  have g1 := hg1 _ g0 hfree
  refine wpAny_pure ⟨plainId_quiet (by decide +kernel) _, ?_⟩
  rw [hm.2.1, hm.2.2.1]
  refine codeAny_builtin Rp.entry_loop ?_
  rw [Around.under_plainId (by decide +kernel)]
  unfold Builtin.«re.Pattern.sub.loop»
  dsimp only
  refine wpAny_bind (wp_wholeTarget (P.keeps g1) ?_)
  rw [if_pos (by rfl)]
  rw [lit_ok]
  refine wpAny_bind (wpAny_pure ?_)
  dsimp only
  refine wpAny_bind ?_
  rw [if_neg (by simp)]
  unfold reNextFound
  refine Rx.runToEnd twin_2 (by omega) fun m2 hm2 => ?_
  rw [show m2.outcome = some .failed from hm2]
  dsimp only
  rw [if_pos (by decide)]
  refine wpAny_bind (wp_slice ?_ (by decide))
  refine wpAny_bind (push_list (by exact hp1) (by simp) fun h2 c2 hp2 hg2 _ => ?_)
  have g2 := hg2 _ g1 hfree
  refine wpAny_bind (wp_slice ?_ (by decide))
  refine wpAny_bind (wpAny_seqItems hp2 rfl ?_)
  rw [if_neg (by simp)]
  refine wpAny_bind (show wpAny _ _ (call (.builtin "str.join") _) _ _ _ from join_list (ys := [⟨#[]⟩, ⟨#[122]⟩]) ⟨_, hp2, rfl, _, rfl⟩ (.cons _ _ (.cons _ _ .nil)) (by decide) fun v tk => ?_)
  rw [if_pos (by rfl)]
  refine wpAny_bind (wpAny_holding (wpAny_bind (wpAny_mkInt (wpAny_newObj_type (wpAny_pure ?_) (Nat.le_of_ble_eq_true rfl)))))
  have hj : Txt.join ⟨Array.extract #[59, 32, 122] 0 0⟩ [⟨#[]⟩, ⟨#[122]⟩] = (⟨#[122]⟩ : Str) := by decide
  rw [hj]
  refine h _ _ v _ _ (g2.push _) ?_ (Heap.get?_push_size _ rfl)
  cases hq : s.heap.get? h2.objs.size with
  | none => rfl
  | some o => exact absurd (Heap.lt_size (g2 _ _ hq)) (Nat.lt_irrefl _)
end
end Mine
end
section
open PySem PySem.Builtin PySem.Builtin.Re PyProof.Rows
set_option Elab.async false
set_option maxRecDepth 100000
namespace Mine
open Rx
theorem extract_mid (pre u r : List Nat) : ((pre ++ u ++ r).toArray.extract pre.length (pre.length + u.length)).toList = u := by
  simp
theorem extract_end (pre u : List Nat) : ((pre ++ u).toArray.extract pre.length (pre ++ u).toArray.size).toList = u := by
  simp
theorem not_esc {c : Nat} (h : ¬ (c = 34 ∨ c = 92)) : escB c = false := by
  unfold escB
  simp only [not_or] at h
  simp [h.1, h.2]
theorem is_esc {c : Nat} (h : c = 34 ∨ c = 92) : escB c = true := by rcases h with rfl | rfl <;> rfl
theorem subs_jesc (t : List Nat) (hl : t.length ≤ 100000) (hs : ∀ c ∈ t, c ∈ sigma) : ∀ (n : Nat) (rest pre : List Nat), rest.length ≤ n → t = pre ++ rest → Subs cJEsc (fun g => 92 :: g) t.toArray pre.length (escOf rest) := by
  intro n
  induction n with
  | zero =>
    intro rest pre hn ht
    have : rest = [] := List.eq_nil_of_length_eq_zero (Nat.le_zero.mp hn)
    subst this
    have h := Subs.done (code := cJEsc) (f := fun g => 92 :: g) (x := t.toArray) (k := pre.length) (by have := jesc_no (pre := pre) (u := []) (fun _ h => nomatch h) (by rw [← ht]; exact hl); rw [← ht] at this; exact this) (by rw [ht]; simp)
    rw [ht, extract_end] at h
    rw [ht]; exact h
  | succ n ih =>
    intro rest pre hn ht
    obtain ⟨u, r, rfl, hu, hr⟩ := cut rest
    have hu' : ∀ c ∈ u, c ∈ sigma ∧ escB c = false := fun c hc => ⟨hs c (by rw [ht]; simp [hc]), not_esc (hu c hc)⟩
    rcases hr with rfl | ⟨x, r', rfl, hx⟩
    · have h := Subs.done (code := cJEsc) (f := fun g => 92 :: g) (x := t.toArray) (k := pre.length) (by have := jesc_no (pre := pre) (u := u) hu' (by simp only [List.append_nil] at ht; rw [← ht]; exact hl); simp only [List.append_nil] at ht; rw [← ht] at this; exact this) (by rw [ht]; simp)
      simp only [List.append_nil] at ht ⊢
      rw [ht, extract_end] at h
      rw [escOf_plain hu, ht]; exact h
    · have ht' : t = pre ++ u ++ x :: r' := by rw [ht]; simp
      have hE := jesc_yes (pre := pre) (u := u) (r := r') (c := x) hu' (hs x (by rw [ht']; simp)) (is_esc hx) (by rw [← ht']; exact hl)
      rw [← ht'] at hE
      have hlen : t.length = pre.length + u.length + 1 + r'.length := by rw [ht']; simp only [List.length_append, List.length_cons]; omega
      have h2 := ih r' (pre ++ u ++ [x]) (by simp only [List.length_append, List.length_cons] at hn; omega) (by rw [ht']; simp)
      have e1 : (pre ++ u ++ [x]).length = pre.length + u.length + 1 := by simp only [List.length_append, List.length_cons, List.length_nil]
      rw [e1] at h2
      have g1 : (t.toArray.extract (pre.length + u.length) (pre.length + u.length + 1)).toList = [x] := by
        rw [ht', show pre ++ u ++ x :: r' = (pre ++ u) ++ [x] ++ r' by simp, show pre.length + u.length = (pre ++ u).length by simp]
        exact extract_mid (pre ++ u) [x] r'
      have h := Subs.more (code := cJEsc) (f := fun g => 92 :: g) (x := t.toArray) (k := pre.length) hE (by omega) (by omega) (by simp only [List.size_toArray]; omega) (by omega) (by simp only [List.size_toArray]; omega) (by rw [g1]; simp) h2
      rw [g1] at h
      have g2 : (t.toArray.extract pre.length (pre.length + u.length)).toList = u := by rw [ht']; exact extract_mid pre u _
      rw [g2] at h
      rw [escOf_append, escOf_plain hu, escOf_cons, esc1, if_pos hx]
      simpa using h
theorem esc_sigma {v : List Nat} (hs : ∀ c ∈ v, c ∈ sigma) : ∀ c ∈ escOf v, c ∈ sigma := by
  intro c hc
  unfold escOf at hc
  obtain ⟨d, hd, hcd⟩ := List.mem_flatMap.mp hc
  unfold esc1 at hcd
  split at hcd
  · simp only [List.mem_cons, List.not_mem_nil, or_false] at hcd
    rcases hcd with rfl | rfl
    · decide
    · exact hs _ hd
  · simp only [List.mem_cons, List.not_mem_nil, or_false] at hcd
    subst hcd; exact hs _ hd
theorem subs_esc (t : List Nat) (hl : t.length ≤ 100000) : ∀ (n : Nat) (rest pre : List Nat), rest.length ≤ n → (∀ c ∈ rest, c ∈ sigma) → t = pre ++ escOf rest → Subs cEsc (fun g => g) t.toArray pre.length rest := by
  intro n
  induction n with
  | zero =>
    intro rest pre hn hs ht
    have : rest = [] := List.eq_nil_of_length_eq_zero (Nat.le_zero.mp hn)
    subst this
    have ht1 : t = pre ++ [] := ht
    have h := Subs.done (code := cEsc) (f := fun g => g) (x := t.toArray) (k := pre.length) (by have := esc_no (pre := pre) (u := []) (fun _ h => nomatch h) (by rw [← ht1]; exact hl); rw [← ht1] at this; exact this) (by rw [ht1]; simp)
    rw [ht1, extract_end] at h
    rw [ht1]; exact h
  | succ n ih =>
    intro rest pre hn hs ht
    obtain ⟨u, r, rfl, hu, hr⟩ := cut rest
    have hu' : ∀ c ∈ u, c ≠ 92 := fun c hc h => hu c hc (.inr h)
    rw [escOf_append, escOf_plain hu] at ht
    rcases hr with rfl | ⟨x, r', rfl, hx⟩
    · have ht1 : t = pre ++ u := by rw [ht]; simp [escOf]
      have h := Subs.done (code := cEsc) (f := fun g => g) (x := t.toArray) (k := pre.length) (by have := esc_no (pre := pre) (u := u) hu' (by rw [← ht1]; exact hl); rw [← ht1] at this; exact this) (by rw [ht1]; simp)
      rw [ht1, extract_end] at h
      rw [List.append_nil, ht1]; exact h
    · have ht' : t = pre ++ u ++ 92 :: x :: escOf r' := by rw [ht, escOf_cons, esc1, if_pos hx]; simp
      have hE := esc_yes (pre := pre) (u := u) (r := escOf r') (c := x) hu' (hs x (by simp)) (by rw [← ht']; exact hl)
      rw [← ht'] at hE
      have hlen : t.length = pre.length + u.length + 2 + (escOf r').length := by rw [ht']; simp only [List.length_append, List.length_cons]; omega
      have h2 := ih r' (pre ++ u ++ [92, x]) (by simp only [List.length_append, List.length_cons] at hn; omega) (fun c hc => hs c (by simp [hc])) (by rw [ht']; simp)
      have e1 : (pre ++ u ++ [92, x]).length = pre.length + u.length + 2 := by simp only [List.length_append, List.length_cons, List.length_nil]
      rw [e1] at h2
      have g1 : (t.toArray.extract (pre.length + u.length + 1) (pre.length + u.length + 2)).toList = [x] := by
        rw [ht', show pre ++ u ++ 92 :: x :: escOf r' = (pre ++ u ++ [92]) ++ [x] ++ escOf r' by simp, show pre.length + u.length + 1 = (pre ++ u ++ [92]).length by simp only [List.length_append, List.length_cons, List.length_nil], show pre.length + u.length + 2 = (pre ++ u ++ [92]).length + [x].length by simp only [List.length_append, List.length_cons, List.length_nil]]
        exact extract_mid (pre ++ u ++ [92]) [x] (escOf r')
      have h := Subs.more (code := cEsc) (f := fun g => g) (x := t.toArray) (k := pre.length) hE (by omega) (by omega) (by simp only [List.size_toArray]; omega) (by omega) (by simp only [List.size_toArray]; omega) (by rw [g1]; simp) h2
      rw [g1] at h
      have g2 : (t.toArray.extract pre.length (pre.length + u.length)).toList = u := by rw [ht']; exact extract_mid pre u _
      rw [g2] at h
      simpa using h
end Mine
end
section
open PySem PySem.Builtin PySem.Builtin.Str PyProof.Rows
set_option Elab.async false
set_option maxRecDepth 100000
namespace Mine
theorem forIn_list {α σ : Type} {M : Model} {A : Around} {E : Value → Shared → Prop} {body : α → σ → Sem (ForInStep σ)} {Q : σ → Shared → Prop} (P : List α → σ → Shared → Prop)
    (turn : ∀ a l st s, P (a :: l) st s → wpAny M A (body a st) (fun r s' => match r with | .yield st' => P l st' s' | .done _ => False) E s) (fin : ∀ st s, P [] st s → Q st s) :
    ∀ (l : List α) (st : σ) (s : Shared), P l st s → wpAny M A (forIn l st body) Q E s
  | [], st, s, h => wpAny_pure (fin st s h)
  | a :: l, st, s, h => by
    rw [List.forIn_cons]
    refine wpAny_bind (wpAny_mono (turn a l st s h) (fun r s' h' => ?_) fun _ _ x => x)
    cases r with
    | done _ => exact h'.elim
    | yield st' => exact forIn_list P turn fin l st' s' h'
/-- the signs that a pattern escapes -/
noncomputable def spB (c : Nat) : Bool := c == 32 || c == 40 || c == 41 || c == 46 || c == 63 || c == 126 || c == 92 || c == 42
noncomputable def tr1 (c : Nat) : List Nat := if spB c then [92, c] else [c]
noncomputable def trOf (v : List Nat) : List Nat := v.flatMap tr1
theorem sub_KeyError : isSubtype (.type "KeyError") (.type "LookupError") = pure true := by rw [isSubtype_type]; kernel_rfl
theorem slot_translate : Slot "str" "translate" "str.translate" :=
  .of (owner := "str") (n := "translate") (by rw [typeLookup_type, builtinLookup_eq_fast]; kernel_rfl) (by decide +kernel) (by decide +kernel) (by decide +kernel)
    (by first | exact .inl (by decide +kernel) | exact .inr (by decide +kernel)) (by rw [isSubtype_type]; kernel_rfl)
theorem entry_translate : entryFor table "str.translate" = some Builtin.«str.translate» := entryFor_of_tree (by kernel_rfl)
theorem args_translate (a b : Value) : argsOk "str.translate" ⟨[a, b], []⟩ := by unfold argsOk; kernel_rfl
section
variable {prog : Program} {w : World} {A : Around} {E : Value → Shared → Prop} {s : Shared} {d : Addr} {f : Int → Option Value}
theorem look_text {c : Nat} {y : Str} {tk : Tok} {Q : Mapped → Shared → Prop} (hm : s.heap.MapOf (intKind prog w) d f) (hc : f c = some (.str y tk)) (h : Q (.text y) { s with toks := s.toks + 1 + 1 }) :
    wpAny (model prog w) A (tableLookup (.ref d) c) Q E s := by
  unfold tableLookup
  refine wpAny_bind (wpAny_attempt (wpAny_bind (wpAny_mkInt (wpAny_getItem_of (k := (c : Int)) (by simp [intKind, Value.isInt]) (show ({ s with toks := s.toks + 1 } : Shared).heap.MapOf _ _ _ from hm) hc ?_))))
  dsimp only
  refine wpAny_bind (wpAny_bind (wpAny_pure (wpAny_pure (wpAny_pure ?_))))
  exact h
theorem look_keep {c : Nat} {Q : Mapped → Shared → Prop} (hm : s.heap.MapOf (intKind prog w) d f) (hd : (d == sysModules) = false) (hh : A.handled = none) (hc : f c = none) (h : ∀ h' tk, Grow s.heap h' → Q .keep { s with heap := h', toks := tk }) :
    wpAny (model prog w) A (tableLookup (.ref d) c) Q E s := by
  unfold tableLookup
  refine wpAny_bind (wpAny_attempt (wpAny_bind (wpAny_mkInt (wpAny_getItem_missing_of (k := (c : Int)) (by simp [intKind, Value.isInt]) hd hh (show ({ s with toks := s.toks + 1 } : Shared).heap.MapOf _ _ _ from hm) hc fun h' e x => ?_))))
  dsimp only
  have hT : ({ s with heap := h', toks := s.toks + 1 + 1 } : Shared).TypeIs (.ref e) "KeyError" := by
    obtain ⟨ob, t, h1, h2, _⟩ := x.there
    exact ⟨ob, h1, h2⟩
  refine wpAny_bind (wpAny_isInstance hT sub_KeyError ?_)
  rw [if_pos rfl]
  exact wpAny_bind (wpAny_rule (wpAny_pure (h h' _ x.keeps)))
theorem look_any {c : Nat} {β : Type} {k : Mapped → Sem β} {Q : β → Shared → Prop} (hm : s.heap.MapOf (intKind prog w) d f) (hd : (d == sysModules) = false) (hh : A.handled = none)
    (hs : spB c = true → ∃ u, f c = some (.str ⟨#[92, c]⟩ u)) (hn : spB c = false → f c = none)
    (h1 : spB c = true → ∀ tk, wpAny (model prog w) A (k (.text ⟨#[92, c]⟩)) Q E { s with toks := tk }) (h2 : spB c = false → ∀ h' tk, Grow s.heap h' → wpAny (model prog w) A (k .keep) Q E { s with heap := h', toks := tk }) :
    wpAny (model prog w) A (tableLookup (.ref d) c >>= k) Q E s := by
  cases hb : spB c with
  | true =>
    obtain ⟨u, hu⟩ := hs hb
    exact wpAny_bind (look_text hm hu (h1 hb _))
  | false => exact wpAny_bind (look_keep hm hd hh (hn hb) (h2 hb))
theorem flat_rev (pieces : List Str) (acc : Array Nat) : (pieces.foldl (fun acc p => acc ++ p.cps) acc).toList = acc.toList ++ (pieces.map (·.cps.toList)).flatten := by
  induction pieces generalizing acc with
  | nil => simp
  | cons p r ih => rw [List.foldl_cons, ih]; simp
theorem trOf_len (v : List Nat) : (trOf v).length ≤ 2 * v.length := by
  induction v with
  | nil => exact Nat.le_refl _
  | cons c v ih =>
    have : trOf (c :: v) = tr1 c ++ trOf v := by simp [trOf]
    rw [this, List.length_append, List.length_cons, tr1]
    split <;> simp only [List.length_cons, List.length_nil] <;> omega
theorem trOf_snoc (v : List Nat) (c : Nat) : trOf (v ++ [c]) = trOf v ++ tr1 c := by simp [trOf]
noncomputable def Inv (s : Shared) (x : Str) (sp : Nat → Bool) (rest : List Nat) (st : List Str × Nat × Bool × List (Nat × Option Nat) × Bool) (s' : Shared) : Prop :=
  ∃ done h' tk, x.cps.toList = done ++ rest ∧ s' = { s with heap := h', toks := tk } ∧ Grow s.heap h' ∧ (st.1.reverse.map (·.cps.toList)).flatten = trOf done ∧ st.2.1 = (trOf done).length ∧
      (∀ p ∈ st.2.2.2.1, p.2 = some p.1 ∧ sp p.1 = false) ∧ st.2.2.2.2 = false
theorem translate_K {x : Str} {t : Tok} {Q : Value → Shared → Prop} (hm : s.heap.MapOf (intKind prog w) d f) (hd : (d == sysModules) = false) (hh : A.handled = none) (hx : x.cps.size ≤ 100000)
    (hs : ∀ c ∈ x.cps.toList, spB c = true → ∃ u, f c = some (.str ⟨#[92, c]⟩ u)) (hn : ∀ c ∈ x.cps.toList, spB c = false → f c = none)
    (h : ∀ h' tk u, Grow s.heap h' → Q (.str ⟨(trOf x.cps.toList).toArray⟩ u) { s with heap := h', toks := tk }) : wpAny (model prog w) A (call (.builtin "str.translate") [.str x t, .ref d]) Q E s := by
  refine call_raw slot_translate (typeIs_str _ _ _) entry_translate (args_translate _ _) ?_
  have hh1 : A.in1.handled = none := hh
  unfold Builtin.«str.translate»
  refine wpAny_bind (wpAny_pure ?_)
  dsimp only
  by_cases h0 : x.length == 0
  · rw [if_pos h0]
    have hx0 : x.cps = #[] := by
      have : x.cps.size = 0 := beq_iff_eq.mp h0
      exact Array.eq_empty_of_size_eq_zero this
    have e : x = ⟨(trOf x.cps.toList).toArray⟩ := by rw [hx0]; cases x; simp only at hx0; rw [hx0]; rfl
    refine wpAny_bind (wpAny_rule (wpAny_bind (wpAny_pure (wpAny_pure ?_))))
    have := h s.heap s.toks t (Grow.refl _)
    rw [← e] at this
    exact this
  · rw [if_neg h0]
    refine wpAny_bind ?_
    rw [← Array.forIn_toList]
    refine forIn_list (Inv s x spB) ?_ ?_ _ _ _ ⟨[], s.heap, s.toks, rfl, rfl, Grow.refl _, rfl, rfl, (fun _ h => nomatch h), rfl⟩
    · rintro c l ⟨pieces, total, fast, known, ad⟩ s' ⟨done, h', tk, hsp, rfl, g, hp, ht, hk, had⟩
      dsimp only at hp ht hk had ⊢
      subst had ht
      have hcm : c ∈ x.cps.toList := by rw [hsp]; simp
      have hdl : done.length < 100000 := by
        have : x.cps.toList.length ≤ 100000 := hx
        rw [hsp] at this
        simp only [List.length_append, List.length_cons] at this; omega
      have htl := trOf_len done
      have hsp' : x.cps.toList = (done ++ [c]) ++ l := by rw [hsp]; simp
      rw [if_neg (by unfold tooLong; rw [show sizeLine = 16777216 from rfl]; simp; omega)]
      have hm' : h'.MapOf (intKind prog w) d f := let ⟨o, es, ep, ho, r⟩ := hm; ⟨o, es, ep, g _ _ ho, r⟩
      have ends1 : spB c = true → ∀ (fast : Bool) (known : List (Nat × Option Nat)) (h1 : Heap) (tk1 : Nat), Grow s.heap h1 → (∀ p ∈ known, p.2 = some p.1 ∧ spB p.1 = false) → Inv s x spB l ((⟨#[92, c]⟩ : Str) :: pieces, (trOf done).length + 2, fast, known, false) { s with heap := h1, toks := tk1 } := by
        intro hb fast known h1 tk1 g1 hk1
        refine ⟨done ++ [c], _, _, hsp', rfl, g1, ?_, ?_, hk1, rfl⟩
        · dsimp only; rw [List.reverse_cons, List.map_append, List.flatten_append, hp, trOf_snoc, tr1, if_pos hb]; simp
        · dsimp only; rw [trOf_snoc, List.length_append, tr1, if_pos hb]; rfl
      have ends0 : spB c = false → ∀ (fast : Bool) (known : List (Nat × Option Nat)) (h1 : Heap) (tk1 : Nat), Grow s.heap h1 → (∀ p ∈ known, p.2 = some p.1 ∧ spB p.1 = false) → Inv s x spB l ((⟨#[c]⟩ : Str) :: pieces, (trOf done).length + 1, fast, known, false) { s with heap := h1, toks := tk1 } := by
        intro hb fast known h1 tk1 g1 hk1
        refine ⟨done ++ [c], _, _, hsp', rfl, g1, ?_, ?_, hk1, rfl⟩
        · dsimp only; rw [List.reverse_cons, List.map_append, List.flatten_append, hp, trOf_snoc, tr1, if_neg (by rw [hb]; decide)]; simp
        · dsimp only; rw [trOf_snoc, List.length_append, tr1, if_neg (by rw [hb]; decide)]; rfl
      cases fast with
      | false =>
        rw [if_neg Bool.false_ne_true, if_neg Bool.false_ne_true]
        exact look_any (show ({ s with heap := h', toks := tk } : Shared).heap.MapOf _ _ _ from hm') hd hh1 (hs c hcm) (hn c hcm) (fun hb tk1 => wpAny_pure (ends1 hb _ _ _ _ g hk)) (fun hb h2 tk2 g2 => wpAny_pure (ends0 hb _ _ _ _ (g.trans g2) hk))
      | true =>
        rw [if_pos rfl]
        cases hlk : List.lookup c known with
        | some a =>
          dsimp only
          have hmem : (c, a) ∈ known := by
            clear ends0 ends1 hp hk
            induction known with
            | nil => cases hlk
            | cons p r ih =>
              rw [List.lookup_cons] at hlk
              by_cases hq : c == p.1
              · simp only [hq] at hlk; cases hlk; rw [beq_iff_eq.mp hq]; exact .head _
              · simp only [hq] at hlk; exact .tail _ (ih hlk)
          obtain ⟨h1, h2⟩ := hk _ hmem
          dsimp only at h1 h2
          subst h1
          exact wpAny_bind (wpAny_pure (wpAny_pure (ends0 h2 _ _ _ _ g hk)))
        | none =>
          dsimp only
          refine look_any (show ({ s with heap := h', toks := tk } : Shared).heap.MapOf _ _ _ from hm') hd hh1 (hs c hcm) (hn c hcm) (fun hb tk1 => ?_) (fun hb h2 tk2 g2 => ?_)
          · dsimp only
            rw [if_neg (by show ¬ (((2 : Nat) == 1) && _) = true; simp)]
            refine wpAny_bind (wpAny_pure (wpAny_bind (wpAny_rule ?_)))
            rw [if_neg Bool.false_ne_true]
            exact look_any (show ({ s with heap := h', toks := tk1 } : Shared).heap.MapOf _ _ _ from hm') hd hh1 (hs c hcm) (hn c hcm) (fun hb tk1 => wpAny_pure (ends1 hb _ _ _ _ g hk)) (fun hb h2 tk2 g2 => wpAny_pure (ends0 hb _ _ _ _ (g.trans g2) hk))
          · dsimp only
            refine wpAny_bind (wpAny_pure (wpAny_pure (ends0 hb _ _ _ _ (g.trans g2) ?_)))
            intro p hp'
            rcases List.mem_cons.mp hp' with rfl | hp'
            · exact ⟨rfl, hb⟩
            · exact hk p hp'
    · rintro ⟨pieces, total, fast, known, ad⟩ s' ⟨done, h', tk, hsp, rfl, g, hp, ht, hk, had⟩
      dsimp only at hp ht hk had ⊢
      simp only [List.append_nil] at hsp
      have htl := trOf_len done
      have hdl : done.length ≤ 100000 := by rw [← hsp]; exact hx
      rw [if_neg (by unfold tooLong; rw [show sizeLine = 16777216 from rfl]; simp; omega)]
      have e : (⟨List.foldl (fun acc p => acc ++ p.cps) #[] pieces.reverse⟩ : Str) = ⟨(trOf x.cps.toList).toArray⟩ := by
        congr 1
        apply Array.toList_inj.mp
        rw [flat_rev, hp, hsp]; simp
      rw [e]
      unfold retStr
      refine wpAny_bind (wpAny_mkStr (wpAny_pure (h h' _ _ g)) ?_)
      show (trOf x.cps.toList).toArray.size ≤ sizeLine
      rw [hsp, List.size_toArray, show sizeLine = 16777216 from rfl]; omega
end
end Mine
end
section
open PySem PySem.W PySem.W.X PyProof.Rows PySem.Spec PySem.Calls
set_option Elab.async false
set_option maxRecDepth 100000
namespace Mine
noncomputable abbrev AA (dp un : Nat) (fr : Option (List Env)) (gd : Option (List Code)) : Around := { handled := none, depth := dp, frames := fr, guards := gd, units := un }
theorem AA_eq {A : Around} (hh : A.handled = none) : A = AA A.depth A.units A.frames A.guards := by
  obtain ⟨a, b, c, d, e⟩ := A
  cases hh; rfl
section
variable {w : World} {h : Heap}
theorem pat_twin (X : (Mine.hd.heap_1 w.params).In h) : PatAt h 55 0 Rx.cTwin := ⟨_, _, _, _, 54, _, _, X 55 _ rfl, X 54 _ rfl, by decide +kernel⟩
theorem pat_tok (X : (Mine.hd.heap_1 w.params).In h) : PatAt h 67 1 Rx.cTok := ⟨_, _, _, _, 66, _, _, X 67 _ rfl, X 66 _ rfl, by decide +kernel⟩
theorem pat_quo (X : (Mine.hd.heap_1 w.params).In h) : PatAt h 72 1 Rx.cQuo := ⟨_, _, _, _, 71, _, _, X 72 _ rfl, X 71 _ rfl, by decide +kernel⟩
theorem pat_val (X : (Mine.hd.heap_1 w.params).In h) : PatAt h 77 1 Rx.cVal := ⟨_, _, _, _, 76, _, _, X 77 _ rfl, X 76 _ rfl, by decide +kernel⟩
theorem pat_esc (X : (Mine.hd.heap_1 w.params).In h) : PatAt h 82 1 Rx.cEsc := ⟨_, _, _, _, 81, _, _, X 82 _ rfl, X 81 _ rfl, by decide +kernel⟩
theorem pat_jtok (X : (Mine.hd.heap_1 w.params).In h) : PatAt h 94 0 Rx.cJTok := ⟨_, _, _, _, 93, _, _, X 94 _ rfl, X 93 _ rfl, by decide +kernel⟩
theorem pat_jesc (X : (Mine.hd.heap_1 w.params).In h) : PatAt h 99 1 Rx.cJEsc := ⟨_, _, _, _, 98, _, _, X 99 _ rfl, X 98 _ rfl, by decide +kernel⟩
noncomputable def mapFacts (f : Int → Option Value) : Prop := (∀ c ∈ Rx.sigma, spB c = true → ∃ u, f c = some (.str ⟨#[92, c]⟩ u)) ∧ (∀ c ∈ Rx.sigma, spB c = false → f c = none)
noncomputable def strAt (o : Option Value) (c : Nat) : Bool := match o with | some (.str y _) => y == ⟨#[92, c]⟩ | _ => false
theorem strAt_ex {o : Option Value} {c : Nat} (h : strAt o c = true) : ∃ u, o = some (.str ⟨#[92, c]⟩ u) := by
  unfold strAt at h
  split at h
  · rename_i y t; exact ⟨t, by rw [beq_iff_eq.mp h]⟩
  · cases h
theorem map_33 {prog : Program} (X : (Mine.hd.heap_1 w.params).In h) : ∃ f, h.MapOf (intKind prog w) 33 f ∧ mapFacts f := by
  refine ⟨_, ⟨_, _, _, X 33 _ rfl, ⟨rfl, rfl, rfl⟩, rfl, ?_, fun _ => rfl⟩, ?_, ?_⟩
  · intro e he
    simp only [List.mem_toArray, List.mem_cons, List.not_mem_nil, or_false] at he
    rcases he with rfl | rfl | rfl | rfl | rfl | rfl | rfl | rfl | rfl | rfl | rfl | rfl | rfl | rfl | rfl | rfl | rfl | rfl | rfl | rfl | rfl | rfl | rfl | rfl <;> exact ⟨_, by simp [intKind, Value.isInt]; rfl, by simp only [intKind]; decide +kernel⟩
  · intro c hc hb
    apply strAt_ex
    revert c
    simp only [intKind]
    decide +kernel
  · simp only [intKind]
    decide +kernel
end
end Mine
end
section
open PySem PySem.W PySem.W.X PyProof.Rows PySem.Spec PySem.Calls
set_option Elab.async false
set_option maxRecDepth 100000
set_option maxHeartbeats 0
namespace Mine
local macro_rules | `(tactic| walk_at "pad") => `(tactic| skip)
theorem off_F1 : True := by
  w_top off
  trivial
theorem type_translate : typeOf (.builtin "str.translate") = pure (.type "method_descriptor") := by kernel_rfl
theorem noRefS {x : Str} {t : Tok} {s : Shared} : ∀ a, Value.str x t = .ref a → ∃ o, s.heap.get? a = some o ∧ o.dict = none := fun a ha => by cases ha
theorem gm_translate {M : Model} {A : Around} {E : Value → Shared → Prop} {s : Shared} {x : Str} {t : Tok} {pl : Sem Bool} {Q : Value × List Value → Shared → Prop} (h : Q (.builtin "str.translate", [.str x t]) s) : wpAny M A (getMethod (.str x t) "translate" pl) Q E s := by
  with_reducible exact getMethod_builtin (typeIs_str _ _ _) PySem.F.plainAttrs_str slot_translate type_translate noRefS h
theorem spec_escape {w : World} {A : Around} {s : Shared} {x : Str} {t : Tok} {loose mean mg mb} {Q : Value → Shared → Prop} {E : Value → Shared → Prop}
  (X : (Mine.hd.heap_1 w.params).In s.heap) (T : Top topProg loose mean mg mb s.heap) (hd : A.depth < 900) (hh : A.handled = none) (hx : x.cps.size ≤ 100000) (hs : ∀ c ∈ x.cps.toList, c ∈ Rx.sigma)
  (h : ∀ h' tk u, Grow s.heap h' → Q (.str ⟨(trOf x.cps.toList).toArray⟩ u) { s with heap := h', toks := tk }) :
  wpAny (model PySem.Challenge.rw_re0054_01.row.prog w) A (call (.ref 43) [.str x t]) Q E s := by
  revert X; k_fill; intro X
  refine' enterK ?k1 ?k2 ?k3 ?k4 ?k5 ?k6 ?k7 ?_ ?k8 ?k9 ?k10 ?k11
  case k1 => assumption
  case k2 => exact T.nolimit
  case k3 => k_is
  case k4 => k_is
  case k5 => have : recursionLimit = 1000 := rfl; omega
  case k6 => exact BindsTo.of_eq rfl
  case k7 => exact locs rfl
  case k8 => rfl
  case k9 => rfl
  case k10 => rfl
  case k11 => decide
  intro L h₁ hL F N
  dsimp only
  k_fold
  k_steps
  refine gm_translate ?_
  k_steps
  obtain ⟨f, hm, hf1, hf2⟩ := map_33 (prog := PySem.Challenge.rw_re0054_01.row.prog) X
  have hm' : h₁.MapOf (intKind PySem.Challenge.rw_re0054_01.row.prog w) 33 f := by
    obtain ⟨o, es, ep, ho, r⟩ := hm
    exact ⟨o, es, ep, F.keep _ _ ho, r⟩
  have h33 : ((33 : Addr) == sysModules) = false := by decide
  refine' translate_K (f := f) ?a1 h33 ?a2 hx (fun c hc => hf1 c (hs c hc)) (fun c hc => hf2 c (hs c hc)) ?_
  case a1 => exact hm'
  case a2 => exact hh
  intro h' tk u g
  exact h _ _ _ (fun b o e => g b o (F.keep b o e))
end Mine
end
section
open PySem PySem.Builtin PySem.Builtin.Re PyProof.Rows Builtin.ObjectAttr Builtin.Getset_descriptor
set_option Elab.async false
set_option maxRecDepth 100000
namespace Mine
namespace Ms
theorem slot_ga : Slot "re.Match" "__getattribute__" "object.__getattribute__" :=
  .of (owner := "object") (n := "__getattribute__") (by rw [typeLookup_type, builtinLookup_eq_fast]; kernel_rfl) (by decide +kernel) (by decide +kernel) (by decide +kernel)
    (by first | exact .inl (by decide +kernel) | exact .inr (by decide +kernel)) (by rw [isSubtype_type]; kernel_rfl)
theorem args_ga (a b : Value) : argsOk "object.__getattribute__" ⟨[a, b], []⟩ := by unfold argsOk; kernel_rfl
theorem lk_string : typeLookup (.type "re.Match") "string" = pure (some (.builtin "re.Match.string")) := by rw [typeLookup_type, builtinLookup_eq_fast]; kernel_rfl
theorem ty_string : typeOf (.builtin "re.Match.string") = pure (.type "member_descriptor") := by kernel_rfl
theorem slot_get : Slot "member_descriptor" "__get__" "member_descriptor.__get__" :=
  .of (owner := "member_descriptor") (n := "__get__") (by rw [typeLookup_type, builtinLookup_eq_fast]; kernel_rfl) (by decide +kernel) (by decide +kernel) (by decide +kernel)
    (by first | exact .inl (by decide +kernel) | exact .inr (by decide +kernel)) (by rw [isSubtype_type]; kernel_rfl)
theorem lk_set : typeLookup (.type "member_descriptor") "__set__" = pure (some (.builtin "member_descriptor.__set__")) := by rw [typeLookup_type, builtinLookup_eq_fast]; kernel_rfl
theorem entry_get : entryFor table "member_descriptor.__get__" = some Builtin.«member_descriptor.__get__» := entryFor_of_tree (by kernel_rfl)
theorem args_get (a b c : Value) : argsOk "member_descriptor.__get__" ⟨[a, b, c], []⟩ := by unfold argsOk; kernel_rfl
theorem entry_string : entryFor table "re.Match.string" = some Builtin.«re.Match.string» := entryFor_of_tree (by kernel_rfl)
theorem sub_match : isSubtype (.type "re.Match") (.type "re.Match") = pure true := by rw [isSubtype_type]; kernel_rfl
theorem cls_string : descrNameAndClass (.builtin "re.Match.string") = pure (("string" : Str), .type "re.Match") := by kernel_rfl
end Ms
section
variable {prog : Program} {w : World} {A : Around} {E : Value → Shared → Prop} {s : Shared} {x : Str} {t : Tok} {b e : Nat} {gp : Option (Nat × Nat)} {a : Addr}
theorem get_string {Q : Value → Shared → Prop} {ex : Bool} (m : MatchAt s.heap a x t b e gp) (h : Q (.str x t) { s with toks := s.toks + 1 }) : wpAny (model prog w) A (getAttr (.ref a) "string" ex) Q E s := by
  have hT : ({ s with toks := s.toks + 1 } : Shared).TypeIs (.ref a) "re.Match" := typeIs_match m
  have hD : ({ s with toks := s.toks + 1 } : Shared).TypeIs (.builtin "re.Match.string") "member_descriptor" := Ms.ty_string
  unfold getAttr getAttrBy
  refine wpAny_bind (wpAny_mkText (wpAny_holding ?_))
  refine wpAny_bind (wpAny_typeOf hT ?_)
  refine wpAny_bind (wpAny_of_eq Ms.slot_ga.lookup ?_)
  dsimp only
  rw [if_neg (by decide)]
  unfold getAttrByItsOwn hookBefore
  rw [if_neg (by decide)]
  refine wpAny_bind (wpAny_pure ?_)
  refine wpAny_bind (wpAny_attempt (wpAny_holding ?_))
  unfold callGetattribute
  rw [if_neg (by simp [onTheHeap])]
  unfold boundAndCalled
  refine wpAny_bind (wpAny_of_eq (Ms.slot_ga.bind _) ?_)
  refine call_raw Ms.slot_ga hT PySem.F.entry_object_getattribute (Ms.args_ga _ _) ?_
  unfold Builtin.«object.__getattribute__»
  refine wpAny_bind (wpAny_pure ?_)
  dsimp only
  refine wpAny_bind (wpAny_pure ?_)
  refine wpAny_bind (wpAny_typeOf hT ?_)
  refine wpAny_bind ?_
  unfold find
  refine wpAny_bind (wpAny_of_eq Ms.lk_string ?_)
  refine wpAny_bind (wpAny_specialOf hD Ms.slot_get.lookup ?_)
  refine wpAny_bind ?_
  unfold dataDescriptor?
  refine wpAny_bind ?_
  unfold takesStores
  refine wpAny_bind (wpAny_specialOf hD Ms.lk_set ?_)
  refine wpAny_pure ?_
  refine wpAny_pure ?_
  refine wpAny_bind (wpAny_rule (wpAny_pure ?_))
  dsimp only
  unfold bindTo
  refine wpAny_bind (wpAny_holding ?_)
  refine call_raw Ms.slot_get hD Ms.entry_get (Ms.args_get _ _ _) ?_
  unfold Builtin.«member_descriptor.__get__» descrGet
  refine wpAny_bind (wpAny_pure ?_)
  dsimp only
  unfold descrGetter
  refine wpAny_bind ?_
  unfold descrCheckInstance
  refine wpAny_bind (wpAny_of_eq Ms.cls_string ?_)
  dsimp only
  refine wpAny_bind (wpAny_isInstance hT Ms.sub_match ?_)
  rw [if_neg (by decide)]
  refine wpAny_pure ?_
  refine wpAny_pure ⟨plainId_quiet (by decide +kernel) _, ?_⟩
  refine codeAny_builtin Ms.entry_string ?_
  unfold Builtin.«re.Match.string»
  obtain ⟨pat, lim, li, tp, h1, h2⟩ := m
  refine wpAny_bind (wpAny_field (i := 0) h1 rfl rfl ?_)
  refine wpAny_pure ?_
  refine wpAny_pure ?_
  exact wpAny_pure h
end
end Mine
end
section
open PySem PySem.Builtin PySem.Builtin.Str PyProof.Rows
set_option Elab.async false
set_option maxRecDepth 100000
namespace Mine
theorem txt_slice (x : Str) {a b : Nat} (hab : a ≤ b) (hb : b ≤ x.length) : Txt.slice x (some (a : Int)) (some (b : Int)) = ⟨x.cps.extract a b⟩ := by
  unfold Txt.slice
  have hl : (strSliceIndices (some (a : Int)) (some (b : Int)) 1 x.length).length = b - a := by
    rw [StrLaws.strSliceIndices_plain hab hb]; simp
  rw [hl, StrLaws.sliced_plain x hab hb]
  have hx : x.length = x.cps.size := rfl
  by_cases h : b - a = x.length
  · rw [if_pos (by simp [h])]
    have ha : a = 0 := by omega
    have hb' : b = x.cps.size := by omega
    subst ha hb'
    cases x; simp
  · rw [if_neg (by simp [h])]
    congr 1
    apply Array.toList_inj.mp
    simp
theorem slice_none_l (u : Option Int) (n : Nat) : strSliceIndices none u 1 n = strSliceIndices (some ((0 : Nat) : Int)) u 1 n := by
  unfold strSliceIndices
  have : max (0 : Int) (min 0 (n : Int)) = 0 := by omega
  simp [this]
theorem slice_none_u (l : Option Int) (n : Nat) : strSliceIndices l none 1 n = strSliceIndices l (some (n : Int)) 1 n := by
  unfold strSliceIndices
  have h : ¬ ((n : Int) < 0) := by omega
  simp [h]
theorem slice_to (x : Str) {b : Nat} (hb : b ≤ x.length) : Txt.slice x none (some (b : Int)) = ⟨x.cps.extract 0 b⟩ := by
  rw [← txt_slice x (Nat.zero_le b) hb]
  unfold Txt.slice
  rw [slice_none_l]
theorem slice_from (x : Str) {a : Nat} (ha : a ≤ x.length) : Txt.slice x (some (a : Int)) none = ⟨x.cps.extract a x.cps.size⟩ := by
  refine Eq.trans ?_ (txt_slice x ha (Nat.le_refl x.length))
  unfold Txt.slice
  rw [slice_none_u]
  rfl
end Mine
end
section
open PySem PySem.W PySem.W.X PyProof.Rows PySem.Spec PySem.Calls
set_option Elab.async false
set_option maxRecDepth 100000
set_option maxHeartbeats 0
namespace Mine
theorem off_F2 : True := by
  w_top off
  trivial
section
variable {M : Model} {prog : Program} {w : World} {A : Around} {E : Value → Shared → Prop} {s : Shared} {h₀ : Heap} {L a : Addr} {m : Str → Option Value} {news : List (Addr × Obj)} {x : Str} {t : Tok} {b e : Nat} {gp : Option (Nat × Nat)}
theorem span_K {u : Tok} {Q : Value → Shared → Prop} (F : Fr h₀ L s.heap m) (N : News h₀ L s.heap news) (mt : MatchAt s.heap a x t b e gp)
    (h : ∀ p h', Fr h₀ L h' m → News h₀ L h' ((p, spansObj [.int b s.toks, .int e (s.toks + 1)]) :: news) → Q (.ref p) { s with heap := h', toks := s.toks + 2 }) :
    wpAny (model prog w) A (call (.builtin "re.Match.span") [.ref a, .int 0 u]) Q E s := span_0 mt (h _ _ (F.push _) (N.push F _))
theorem gm_span {pl : Sem Bool} {Q : Value × List Value → Shared → Prop} (mt : MatchAt s.heap a x t b e gp) (h : Q (.builtin "re.Match.span", [.ref a]) s) : wpAny M A (getMethod (.ref a) "span" pl) Q E s := by
  with_reducible exact method_match mt Rp.slot_m_span Rp.type_m_span h
theorem gm_group {pl : Sem Bool} {Q : Value × List Value → Shared → Prop} (mt : MatchAt s.heap a x t b e gp) (h : Q (.builtin "re.Match.group", [.ref a]) s) : wpAny M A (getMethod (.ref a) "group" pl) Q E s := by
  with_reducible exact method_match mt Rp.slot_m_group Rp.type_m_group h
end
theorem MatchAt.ofNews {h : Heap} {h₀ : Heap} {L a tp pat : Addr} {news : List (Addr × Obj)} {x : Str} {t : Tok} {lim : Nat} {li : Int} {b e : Nat} {gp : Option (Nat × Nat)} (N : News h₀ L h news) (h1 : (a, matchObj x t pat lim li tp) ∈ news) (h2 : (tp, spansObj (spansOf b e gp)) ∈ news) : MatchAt h a x t b e gp :=
  ⟨pat, lim, li, tp, N.get h1, N.get h2⟩
local macro_rules | `(tactic| walk_at "getMethod ref") => `(tactic| (with_reducible refine gm_span (by first | assumption | exact MatchAt.keeps (by assumption) (Fr.keep (by assumption)) | exact MatchAt.ofNews (by assumption) (by k_mem) (by k_mem)) ?_))
local macro_rules | `(tactic| walk_at "getMethod ref") => `(tactic| (with_reducible refine gm_group (by first | assumption | exact MatchAt.keeps (by assumption) (Fr.keep (by assumption)) | exact MatchAt.ofNews (by assumption) (by k_mem) (by k_mem)) ?_))
local macro_rules | `(tactic| walk_at "getAttr ref") => `(tactic| (with_reducible refine get_string (by first | assumption | exact MatchAt.keeps (by assumption) (Fr.keep (by assumption)) | exact MatchAt.ofNews (by assumption) (by k_mem) (by k_mem)) ?_))
local macro_rules | `(tactic| walk_at "call builtin:re.Match.span") => `(tactic| (refine' span_K ?k1 ?k2 ?k3 ?_; (case k1 => k_asm); (case k2 => k_asm); (case k3 => first | assumption | exact MatchAt.keeps (by assumption) (Fr.keep (by assumption)) | exact MatchAt.ofNews (by assumption) (by k_mem) (by k_mem)); intro p' h' F' N'; (try k_sweep)))
theorem spec_unmatched {w : World} {dp un : Nat} {fr : Option (List Env)} {gd : Option (List Code)} {s : Shared} {a : Addr} {x : Str} {t : Tok} {b e : Nat} {gp : Option (Nat × Nat)} {loose mean mg mb} {Q : Value → Shared → Prop} {E : Value → Shared → Prop}
  (X : (Mine.hd.heap_1 w.params).In s.heap) (T : Top topProg loose mean mg mb s.heap) (hd : dp < 900) (hu : un < 500) (mt : MatchAt s.heap a x t b e gp) (hx : x.cps.size ≤ 100000) (hbe : b ≤ e) (hes : e ≤ x.cps.size)
  (h : ∀ h' tk u, Grow s.heap h' → Q (.str ⟨x.cps.extract 0 b ++ x.cps.extract e x.cps.size⟩ u) { s with heap := h', toks := tk }) :
  wpAny (model PySem.Challenge.rw_re0054_01.row.prog w) (AA dp un fr gd) (call (.ref 62) [.ref a]) Q E s := by
  revert X; k_fill; intro X
  refine' enterK ?k1 ?k2 ?k3 ?k4 ?k5 ?k6 ?k7 ?_ ?k8 ?k9 ?k10 ?k11
  case k1 => assumption
  case k2 => exact T.nolimit
  case k3 => k_is
  case k4 => k_is
  case k5 => have : recursionLimit = 1000 := rfl; show dp < recursionLimit; omega
  case k6 => exact BindsTo.of_eq rfl
  case k7 => exact locs rfl
  case k8 => rfl
  case k9 => rfl
  case k10 => rfl
  case k11 => decide
  intro L h₁ hL F N
  dsimp only
  k_fold
  have hxl : x.length ≤ 100000 := hx
  k_steps
  rw [slice_to x (Nat.le_trans hbe hes), slice_from x hes]
  exact h _ _ _ (Fr.keep (by assumption))
end Mine
end
section
open PySem PySem.Builtin PySem.Builtin.SmallTypes PyProof.Rows
set_option Elab.async false
set_option maxRecDepth 100000
namespace Mine
namespace Mf
theorem mro : mroOf (.type "map") = pure [.type "map", .type "object"] := by rw [mroOf_type]; kernel_rfl
theorem lk_new : typeLookup (.type "map") "__new__" = pure (some (.builtin "map.__new__")) := by rw [typeLookup_type, builtinLookup_eq_fast]; kernel_rfl
theorem slot_init : Slot "map" "__init__" "object.__init__" :=
  .of (owner := "object") (n := "__init__") (by rw [typeLookup_type, builtinLookup_eq_fast]; kernel_rfl) (by decide +kernel) (by decide +kernel) (by decide +kernel)
    (by first | exact .inl (by decide +kernel) | exact .inr (by decide +kernel)) (by rw [isSubtype_type]; kernel_rfl)
theorem called : TypeCalled "map" "map.__new__" "object.__init__" :=
  ⟨by decide +kernel, by decide +kernel, ⟨_, _, mro⟩, madeBy_type mro lk_new (by decide +kernel), by decide +kernel, by rw [isSubtype_type]; kernel_rfl, slot_init⟩
theorem typeCall (a b : Value) : checkTypeCall "map" ⟨[a, b], []⟩ = pure () := by kernel_rfl
theorem newCall (a b : Value) : checkBuiltinCall "map.__new__" ⟨[.type "map", a, b], []⟩ = pure () := by kernel_rfl
theorem entry_new : entryFor table "map.__new__" = some Builtin.«map.__new__» := entryFor_of_tree (by kernel_rfl)
theorem sub_map : isSubtype (.type "map") (.type "map") = pure true := by rw [isSubtype_type]; kernel_rfl
theorem slot_next : Slot "map" "__next__" "map.__next__" :=
  .of (owner := "map") (n := "__next__") (by rw [typeLookup_type, builtinLookup_eq_fast]; kernel_rfl) (by decide +kernel) (by decide +kernel) (by decide +kernel)
    (by first | exact .inl (by decide +kernel) | exact .inr (by decide +kernel)) (by rw [isSubtype_type]; kernel_rfl)
theorem entry_next : entryFor table "map.__next__" = some Builtin.«map.__next__» := entryFor_of_tree (by kernel_rfl)
theorem args_next (a : Value) : argsOk "map.__next__" ⟨[a], []⟩ := by unfold argsOk; kernel_rfl
theorem no_len : typeLookup (.type "map") "__len__" = pure none := by rw [typeLookup_type, builtinLookup_eq_fast]; kernel_rfl
theorem no_hint : typeLookup (.type "map") "__length_hint__" = pure none := by rw [typeLookup_type, builtinLookup_eq_fast]; kernel_rfl
theorem slot_iter : typeLookup (.type "map") "__iter__" = pure (some (.builtin "map.__iter__")) := by rw [typeLookup_type, builtinLookup_eq_fast]; kernel_rfl
theorem isType_map : isType (.type "map") = pure true := by kernel_rfl
end Mf
noncomputable abbrev mapObj (tp : Addr) (f : Value) : Obj := { cls := .type "map", data := .fields #[.ref tp, f] }
noncomputable abbrev tup1 (v : Value) : Obj := { cls := .type "tuple", data := .seq [v].toArray }
noncomputable abbrev liObj (l : Addr) (i : Nat) : Obj := { cls := .type "list_iterator", data := .fields #[.ref l, .int i 0] }
section
variable {prog : Program} {w : World} {A : Around} {E : Value → Shared → Prop} {s : Shared}
theorem meets_map_new (f : Value) (l : Addr) (items : Array Value) :
    Meets (Builtin.«map.__new__» ⟨[.type "map", f, .ref l], []⟩) (fun _ R s => s.heap.IsList l items ∧
      R (.ok (.ret (.ref (s.heap.objs.size + 2)))) { s with heap := ((s.heap.push (liObj l 0)).push (tup1 (.ref s.heap.objs.size))).push (mapObj (s.heap.objs.size + 1) f) }) :=
  .of_wp fun prog w A R s h => by
    obtain ⟨hl, h⟩ := h
    unfold Builtin.«map.__new__»
    refine wpAny_bind ?_
    unfold newClass
    dsimp only
    refine wpAny_bind (wpAny_of_eq Mf.isType_map ?_)
    rw [if_neg (by decide)]
    refine wpAny_bind (wpAny_of_eq Mf.sub_map ?_)
    rw [if_neg (by decide)]
    refine wpAny_pure ?_
    dsimp only
    refine wpAny_bind (wpAny_pure ?_)
    rw [if_neg (by simp)]
    refine wpAny_bind ?_
    unfold iterAll
    simp only [List.drop_succ_cons, List.drop_zero, List.forIn_cons, List.forIn_nil]
    refine wpAny_bind (wpAny_bind (wpAny_bind (wpAny_holding (wpAny_pyIter_list hl ?_))))
    refine wpAny_pure (wpAny_pure (wpAny_pure ?_))
    refine wpAny_bind (wpAny_newObj_type ?_ (Nat.le_of_ble_eq_true rfl))
    refine wpAny_bind ?_
    unfold newRecord
    refine wpAny_newObj_type (wpAny_pure ⟨_, rfl, ?_⟩) (Nat.le_of_ble_eq_true rfl)
    simp only [Heap.size_push]
    exact h
theorem map_new {f : Value} {l : Addr} {items : Array Value} {Q : Value → Shared → Prop} (hl : s.heap.IsList l items)
    (h : Q (.ref (s.heap.objs.size + 2)) { s with heap := ((s.heap.push (liObj l 0)).push (tup1 (.ref s.heap.objs.size))).push (mapObj (s.heap.objs.size + 1) f) }) :
    wpAny (model prog w) A (call (.type "map") [f, .ref l]) Q E s := by
  refine callType_new Mf.called (by decide) (Mf.typeCall _ _) (Mf.newCall _ _) (fun obj => PySem.F.args_object_init_3 obj _ _) Mf.entry_new (meets_map_new f l items) ⟨hl, ⟨mapObj (s.heap.objs.size + 1) f, ?_, rfl⟩, h⟩
  have := Heap.get?_push_size ((s.heap.push (liObj l 0)).push (tup1 (.ref s.heap.objs.size))) (o := mapObj (s.heap.objs.size + 1) f) rfl
  simp only [Heap.size_push] at this
  exact this
end
end Mine
end
section
open PySem PySem.Builtin PySem.Builtin.SmallTypes PyProof.Rows
set_option Elab.async false
set_option maxRecDepth 100000
namespace Mine
namespace Mf
theorem slot_iter' : Slot "map" "__iter__" "map.__iter__" :=
  .of (owner := "map") (n := "__iter__") (by rw [typeLookup_type, builtinLookup_eq_fast]; kernel_rfl) (by decide +kernel) (by decide +kernel) (by decide +kernel)
    (by first | exact .inl (by decide +kernel) | exact .inr (by decide +kernel)) (by rw [isSubtype_type]; kernel_rfl)
theorem entry_iter : entryFor table "map.__iter__" = some Builtin.«dict_keyiterator.__iter__» :=
  entryFor_alias (id' := "dict_keyiterator.__iter__") (by kernel_rfl) (by first | rfl | decide +kernel | (unfold String.splitOn; simp +decide [String.splitOnAux])) (by decide +kernel) (by kernel_rfl)
theorem args_iter (a : Value) : argsOk "map.__iter__" ⟨[a], []⟩ := by unfold argsOk; kernel_rfl
end Mf
section
variable {prog : Program} {w : World} {A : Around} {E : Value → Shared → Prop} {s : Shared}
theorem li_item {it l : Addr} {i : Nat} {items : Array Value} {x : Value} {Q : Value → Shared → Prop} (hit : s.heap.IsListIter it l i) (hl : s.heap.IsList l items) (hx : items[i]? = some x)
    (hQ : ∀ h', h'.IsListIter it l (i + 1) → Heap.SameBut it s.heap h' → Q x { s with heap := h' }) : wpAny (model prog w) A (nextOf (.ref it)) Q E s := by
  obtain ⟨o, ho, hc, hd⟩ := id hit
  obtain ⟨ol, hol, _, nl, hdl⟩ := hl
  unfold nextOf
  refine wpAny_bind (wpAny_callSpecial?_slot (name := Str.ofString "__next__") hit.typeIs slot_listiter_next (wpAny_call_entry slot_listiter_next hit.typeIs entry_listiter_next ?_ (args_listiter_next _)))
  show wpAny _ _ (field (.ref it) 0 >>= _) _ _ s
  refine wpAny_bind (wpAny_field ho hd (x := .ref l) rfl ?_)
  show wpAny _ _ (if (Value.ref l == Value.none) = true then _ else _) _ _ s
  rw [if_neg (show ¬ ((Value.ref l == Value.none) = true) from Bool.false_ne_true)]
  show wpAny _ _ (field (.ref it) 1 >>= _) _ _ s
  refine wpAny_bind (wpAny_field ho hd (x := .int i 0) rfl ?_)
  show wpAny _ _ (seqItems? (.ref l) >>= _) _ _ s
  refine wpAny_bind (wpAny_seqItems hol hdl ?_)
  simp only [Int.toNat_natCast, hx]
  refine wpAny_bind (wpAny_setField ho hd (by simp) (wpAny_pure ⟨x, rfl, wpAny_pure (hQ _ ?_ (Heap.SameBut.update ..))⟩))
  exact ⟨_, Heap.get?_update_self _ ho (Obj.isFreed_of_fields (Obj.data_mapFields hd _)), (Obj.cls_mapFields ..).trans hc, by rw [Obj.data_mapFields hd]; simp [rawInt]⟩
theorem li_end {it l : Addr} {i : Nat} {items : Array Value} {Q : Value → Shared → Prop} (hh : A.handled = none) (hit : s.heap.IsListIter it l i) (hl : s.heap.IsList l items) (hx : items[i]? = none)
    (hE : ∀ e h', Heap.ExtBut it s.heap h' → ({ s with heap := h' } : Shared).TypeIs (.ref e) "StopIteration" → E (.ref e) { s with heap := h' }) : wpAny (model prog w) A (nextOf (.ref it)) Q E s := by
  obtain ⟨o, ho, hc, hd⟩ := id hit
  obtain ⟨ol, hol, _, nl, hdl⟩ := hl
  unfold nextOf
  refine wpAny_bind (wpAny_callSpecial?_slot (name := Str.ofString "__next__") hit.typeIs slot_listiter_next (wpAny_call_entry slot_listiter_next hit.typeIs entry_listiter_next ?_ (args_listiter_next _)))
  show wpAny _ _ (field (.ref it) 0 >>= _) _ _ s
  refine wpAny_bind (wpAny_field ho hd (x := .ref l) rfl ?_)
  show wpAny _ _ (if (Value.ref l == Value.none) = true then _ else _) _ _ s
  rw [if_neg (show ¬ ((Value.ref l == Value.none) = true) from Bool.false_ne_true)]
  show wpAny _ _ (field (.ref it) 1 >>= _) _ _ s
  refine wpAny_bind (wpAny_field ho hd (x := .int i 0) rfl ?_)
  show wpAny _ _ (seqItems? (.ref l) >>= _) _ _ s
  refine wpAny_bind (wpAny_seqItems hol hdl ?_)
  simp only [Int.toNat_natCast, hx]
  refine wpAny_bind (wpAny_rule (wpAny_bind (wpAny_setField ho hd (by simp) ?_)))
  show wpAny _ _ (newExc (.type "StopIteration") [] >>= _) _ _ _
  refine wpAny_bind ?_
  simp only [newExc, newTuple]
  refine wpAny_bind (wpAny_newObj_type ?_ (by size_fits))
  refine wpAny_bind (m := firstArgMember _ _) (wpAny_of_eq (a := Value.none) (by first | rfl | (simp only [firstArgMember]; rfl)) ?_)
  refine wpAny_newObj_type ?_ (by size_fits)
  simp only [raiseNew]
  refine wpAny_bind (wpAny_handled ?_)
  rw [show A.in1.handled = none from hh]
  exact wpAny_bind (wpAny_pure (wpAny_throw (hE _ _ (((Heap.SameBut.update ..).extBut.push _).push _) ⟨_, Heap.get?_push_size _ rfl, rfl⟩)))
/-- what stands while a map over a list is drawn on -/
noncomputable def MapSt (h0 : Heap) (mp tp li l : Addr) (fv : Value) (items : Array Value) (i : Nat) (s : Shared) : Prop :=
  Grow h0 s.heap ∧ s.heap.get? mp = some (mapObj tp fv) ∧ s.heap.get? tp = some (tup1 (.ref li)) ∧ s.heap.IsListIter li l i ∧ s.heap.IsList l items
theorem walks_map {h0 : Heap} {mp tp li l : Addr} {fv : Value} {items : Array Value} {P : Nat → Value → Prop} (hh : A.handled = none) (h1 : li ≠ mp) (h2 : li ≠ tp) (h3 : li ≠ l) (h4 : h0.get? li = none)
    (hf : ∀ (s : Shared) (i : Nat) (v : Value) (Q E : Value → Shared → Prop), Grow h0 s.heap → items[i]? = some v → (∀ r h' tk, P i r → Grow s.heap h' → Q r { s with heap := h', toks := tk }) → wpAny (model prog w) A.in1 (call fv [v]) Q E s) :
    WalksS prog w A mp (mp :: tp :: li :: l :: List.range h0.objs.size) [li] (fun a b => b = a) items.size P (MapSt h0 mp tp li l fv items) where
  sub := fun b hb => by simp at hb; simp [hb]
  grefl := fun _ => rfl
  gtrans := fun _ _ _ h1 h2 => h2.trans h1
  frame := fun i s h' tk st _ hk => by
    obtain ⟨g, a1, a2, a3, a4⟩ := st
    refine ⟨fun b o e => hk b (by simp only [List.mem_cons, List.mem_range]; exact .inr (.inr (.inr (.inr (Heap.lt_size e))))) o (g b o e), hk mp (by simp) _ a1, hk tp (by simp) _ a2, a3.at fun o e => hk li (by simp) o e, a4.at fun o e => hk l (by simp) o e⟩
  item := fun i s Q E hi st hQ => by
    obtain ⟨g, a1, a2, a3, a4⟩ := st
    refine wpAny_with_toks (Nat.le_refl s.toks) ?_
    unfold pyNext
    refine wpAny_bind (wpAny_attempt (wpAny_callSpecial?_slot (name := Str.ofString "__next__") ⟨_, a1, rfl⟩ Mf.slot_next (wpAny_call_entry Mf.slot_next ⟨_, a1, rfl⟩ Mf.entry_next ?_ (Mf.args_next _))))
    unfold Builtin.«map.__next__»
    refine wpAny_bind (wpAny_pure ?_)
    dsimp only
    refine wpAny_bind (wpAny_field (i := 0) a1 rfl rfl (wpAny_bind (wpAny_seqItems a2 rfl ?_)))
    dsimp only
    refine wpAny_bind ?_
    simp only [List.forIn_toArray, List.forIn_cons, List.forIn_nil]
    refine wpAny_bind (wpAny_bind (wpAny_holding (li_item a3 a4 (x := items[i]) (by simp [hi]) fun h' hit hs => ?_)))
    refine wpAny_pure (wpAny_pure ?_)
    have g' : Grow h0 h' := fun b o e => hs.extBut b o (fun q => by rw [q, h4] at e; cases e) (g b o e)
    have b1 : h'.get? mp = some (mapObj tp fv) := hs.extBut _ _ (Ne.symm h1) a1
    have b2 : h'.get? tp = some (tup1 (.ref li)) := hs.extBut _ _ (Ne.symm h2) a2
    have b4 : h'.IsList l items := a4.extBut hs.extBut (Ne.symm h3)
    refine wpAny_bind (wpAny_field (s := { s with heap := h' }) (i := 1) b1 rfl rfl ?_)
    refine wpAny_bind (wpAny_holding (hf _ i items[i] _ _ g' (by simp [hi]) fun r h'' tk hp g2 => ?_))
    refine wpAny_bind (wpAny_letGo ?_)
    refine wpAny_pure ⟨r, rfl, ?_⟩
    dsimp only
    refine wpAny_pure ?_
    intro htk
    exact hQ r _ hp ⟨g'.trans g2, g2 _ _ b1, g2 _ _ b2, hit.at fun o e => g2 _ _ e, b4.at fun o e => g2 _ _ e⟩ ⟨fun b o hb e => g2 _ _ (hs.extBut b o (fun q => hb (by simp [q])) e), rfl, rfl, rfl, htk⟩
  done := fun s Q E st hQ => by
    obtain ⟨g, a1, a2, a3, a4⟩ := st
    refine wpAny_with_toks (Nat.le_refl s.toks) ?_
    unfold pyNext
    refine wpAny_bind (wpAny_attempt (wpAny_callSpecial?_slot (name := Str.ofString "__next__") ⟨_, a1, rfl⟩ Mf.slot_next (wpAny_call_entry Mf.slot_next ⟨_, a1, rfl⟩ Mf.entry_next ?_ (Mf.args_next _))))
    unfold Builtin.«map.__next__»
    refine wpAny_bind (wpAny_pure ?_)
    dsimp only
    refine wpAny_bind (wpAny_field (i := 0) a1 rfl rfl (wpAny_bind (wpAny_seqItems a2 rfl ?_)))
    dsimp only
    refine wpAny_bind ?_
    simp only [List.forIn_toArray, List.forIn_cons, List.forIn_nil]
    refine wpAny_bind (wpAny_bind (wpAny_holding (li_end (by exact hh) a3 a4 (by simp) fun e h' hs hT => ?_)))
    refine wpAny_bind (wpAny_isInstance hT isSubtype_stop ?_)
    rw [if_pos rfl]
    refine wpAny_pure fun htk => hQ _ ⟨fun b o hb e => hs b o (fun q => hb (by simp [q])) e, rfl, rfl, rfl, htk⟩
  self := fun i s Q E st hQ => by
    have hT : s.TypeIs (.ref mp) "map" := ⟨_, st.2.1, rfl⟩
    refine wpAny_pyIter_slot hT Mf.slot_iter' (wpAny_call_entry Mf.slot_iter' hT Mf.entry_iter ?_ (Mf.args_iter _))
    show wpAny _ _ (ret (.ref mp)) _ _ s
    exact wpAny_pure ⟨_, rfl, "map", _, hT, Mf.slot_next.lookup, hQ⟩
end
end Mine
end
section
open PySem PySem.Builtin PySem.Builtin.SmallTypes PyProof.Rows
set_option Elab.async false
set_option maxRecDepth 100000
namespace Mine
section
variable {prog : Program} {w : World} {A : Around} {E : Value → Shared → Prop} {s : Shared} {I : Addr} {fp wr : List Addr} {G : Array GenState → Array GenState → Prop} {n : Nat} {P : Nat → Value → Prop} {St : Nat → Shared → Prop}
/-- a list of what a map hands out -/
theorem list_of_map {Q : Value → Shared → Prop} (W : WalksS prog w A.in1.in1 I fp wr G n P St) (hT : ∀ i s, St i s → s.TypeIs (.ref I) "map") (hst : St 0 s) (hfp : ∀ b ∈ fp, b < s.heap.objs.size) (hI : I ∈ fp) (hn : n ≤ 1000000)
    (hQ : ∀ s' acc c, Moved (s.heap.objs.size :: wr) G { s with heap := s.heap.push (listO #[] 0) } s' → s'.heap.get? s.heap.objs.size = some (listO acc c) → ItemsOf P acc n → Q (.ref s.heap.objs.size) s') :
    wpAny (model prog w) A (call (.type "list") [.ref I]) Q E s := by
  have hnew : s.heap.objs.size ∉ fp := fun hm => Nat.lt_irrefl _ (hfp _ hm)
  have hne : s.heap.objs.size ≠ I := fun e => hnew (e ▸ hI)
  have hnl : n ≤ sizeLine := by rw [show sizeLine = 16777216 from rfl]; omega
  refine callType_codes (Q₁ := fun obj s₁ => obj = .ref s.heap.objs.size ∧ s₁ = { s with heap := s.heap.push (listO #[] 0) }) PySem.F.called_list (PySem.F.typeCall_list_1 _) PySem.F.entry_list_init (code_list_new _ ⟨rfl, rfl⟩) fun obj s₁ h₁ => ?_
  obtain ⟨rfl, rfl⟩ := h₁
  have hS : (s.heap.push (listO #[] 0)).get? s.heap.objs.size = some (listO #[] 0) := Heap.get?_push_size _ rfl
  refine ⟨⟨_, hS, rfl⟩, PySem.F.args_list_init_2 _ _, ?_⟩
  show wpAny _ A.in1.in1 (do let old ← Builtin.List.listItems (.ref s.heap.objs.size); Builtin.List.listUpdate (.ref s.heap.objs.size) (fun _ => #[]); letGo old.toList.reverse; Builtin.List.listExtendWith (.ref s.heap.objs.size) (.ref I) .none) _ _ _
  generalize hL : s.heap.objs.size = S at hnew hne hS hQ ⊢
  -- what stays
  have still : ∀ h' tk, s.toks ≤ tk → (∀ b o, b ≠ S → s.heap.get? b = some o → h'.get? b = some o) → St 0 { s with heap := h', toks := tk } := fun h' tk htk hk => W.frame 0 s h' tk hst htk fun b hb o e => hk b o (fun q => hnew (q ▸ hb)) e
  have k0 : ∀ b o, b ≠ S → s.heap.get? b = some o → (s.heap.push (listO #[] 0)).get? b = some o := fun b o _ e => Heap.get?_push_of_some _ e
  unfold Builtin.List.listItems
  refine wpAny_bind (wpAny_bind (wpAny_seqItems hS rfl (wpAny_pure ?_)))
  show wpAny _ _ (updateSeq S (fun _ => #[]) >>= _) _ _ _
  refine wpAny_bind (wpAny_updateSeq hS rfl ?_ (Nat.zero_le _) (Nat.zero_le _))
  have hS1 := Heap.get?_update_self (Obj.mapSeq (fun _ => (#[] : Array Value))) hS rfl
  refine wpAny_bind (wpAny_letGo ?_)
  have k1 : ∀ b o, b ≠ S → s.heap.get? b = some o → ((s.heap.push (listO #[] 0)).update S (Obj.mapSeq (fun _ => (#[] : Array Value)))).get? b = some o := fun b o hb e => (Heap.get?_update_ne _ _ _ _ hb).trans (k0 b o hb e)
  have st1 := still _ s.toks (Nat.le_refl _) k1
  unfold Builtin.List.listExtendWith
  refine wpAny_bind (wpAny_typeOf (hT 0 _ st1) ?_)
  have h1 : Builtin.List.listSameRef (.ref S) (.ref I) = false := by simp [Builtin.List.listSameRef, hne]
  have h2 : (Value.type "map" == Value.type "list") = false := by decide
  have h3 : (Value.type "map" == Value.type "tuple") = false := by decide
  simp only [h1, h2, h3, Bool.or_false, Bool.false_eq_true, if_false]
  refine wpAny_bind (W.self 0 _ _ _ st1 ?_)
  refine wpAny_bind (wpAny_holding ?_)
  unfold Builtin.List.listLengthHint
  refine wpAny_bind (wpAny_specialOf (hT 0 _ st1) Mf.no_len ?_)
  show wpAny _ _ (specialOf (Value.ref I) (Str.ofString "__length_hint__") >>= _) _ _ _
  refine wpAny_bind (wpAny_specialOf (hT 0 _ st1) Mf.no_hint ?_)
  refine wpAny_pure ?_
  show wpAny _ _ (rule "list.extend.makes-room" >>= fun _ => Builtin.List.listTouch (.ref S) >>= fun _ => again (.builtin "list.extend.loop" ⟨[.ref S, .ref I, .none], []⟩)) _ _ _
  refine wpAny_bind (wpAny_rule (wpAny_bind ?_))
  show wpAny _ _ (updateSeq S (·.push .none) >>= fun _ => updateSeq S (·.pop)) _ _ _
  refine wpAny_bind (wpAny_updateSeq hS1 rfl ?_ (Nat.zero_le _) (Nat.le_of_ble_eq_true rfl))
  have hS2 := Heap.get?_update_self (Obj.mapSeq (·.push Value.none)) hS1 rfl
  refine wpAny_updateSeq hS2 rfl ?_ (Nat.le_of_ble_eq_true rfl) (Nat.zero_le _)
  have hS3 := Heap.get?_update_self (Obj.mapSeq (·.pop)) hS2 rfl
  have k3 : ∀ b o, b ≠ S → s.heap.get? b = some o → ((((s.heap.push (listO #[] 0)).update S (Obj.mapSeq (fun _ => (#[] : Array Value)))).update S (Obj.mapSeq (·.push Value.none))).update S (Obj.mapSeq (·.pop))).get? b = some o :=
    fun b o hb e => (Heap.get?_update_ne _ _ _ _ hb).trans ((Heap.get?_update_ne _ _ _ _ hb).trans (k1 b o hb e))
  refine wpAny_pure ⟨plainId_quiet PySem.F.plain_extend_loop _, codeAny_extend_loopS W hnl S hnew _ n 0 _ _ _ rfl (Nat.zero_le _) (still _ s.toks (Nat.le_refl _) k3) hS3 (ItemsOf.nil P) fun s' acc c hm hS' hacc => ?_⟩
  refine ⟨rfl, hQ s' acc c ⟨fun b o hb e => hm.heap b o hb ?_, hm.gens, hm.drawn, hm.os, hm.toks⟩ hS' hacc⟩
  have hbS : b ≠ S := fun q => hb (by simp [q])
  exact (Heap.get?_update_ne _ _ _ _ hbS).trans ((Heap.get?_update_ne _ _ _ _ hbS).trans ((Heap.get?_update_ne _ _ _ _ hbS).trans e))
end
end Mine
end
section
open PySem PySem.W PySem.W.X PyProof.Rows PySem.Spec PySem.Calls
set_option Elab.async false
set_option maxRecDepth 100000
namespace Mine
noncomputable def trS (y : Str) : Str := ⟨(trOf y.cps.toList).toArray⟩
theorem strsAre_of {P : Nat → Value → Prop} : ∀ (ys : List Str) (acc : List Value), acc.length = ys.length → (∀ (j : Nat) (v : Value), acc[j]? = some v → ∃ y, ys[j]? = some y ∧ ∃ u, v = Value.str (trS y) u) → StrsAre acc (ys.map trS)
  | [], [], _, _ => .nil
  | [], _ :: _, h, _ => by cases h
  | _ :: _, [], h, _ => by cases h
  | y :: ys, v :: acc, h, hp => by
    obtain ⟨y', e, u, rfl⟩ := hp 0 v rfl
    cases e
    exact .cons _ _ (strsAre_of (P := P) ys acc (Nat.succ.inj h) fun j v' hj => hp (j + 1) v' hj)
theorem strs_get {vs : List Value} {ys : List Str} (H : StrsAre vs ys) : ∀ (i : Nat) (v : Value), vs[i]? = some v → ∃ y u, ys[i]? = some y ∧ v = Value.str y u := by
  induction H with
  | nil => intro i v h; cases h
  | cons y t r ih =>
    intro i v h
    cases i with
    | zero => cases h; exact ⟨y, t, rfl, rfl⟩
    | succ i => exact ih i v h
theorem strs_len {vs : List Value} {ys : List Str} (H : StrsAre vs ys) : vs.length = ys.length := by
  induction H with
  | nil => rfl
  | cons y t r ih => exact congrArg (· + 1) ih
section
variable {w : World} {A : Around} {E : Value → Shared → Prop} {s : Shared} {h₀ : Heap} {L : Addr} {m : Str → Option Value} {news : List (Addr × Obj)}
theorem map_K {f : Value} {l : Addr} {items : Array Value} {Q : Value → Shared → Prop} {prog : Program} (F : Fr h₀ L s.heap m) (N : News h₀ L s.heap news) (hl : s.heap.IsList l items)
    (h : ∀ mp tp li h', Fr h₀ L h' m → News h₀ L h' ((mp, mapObj tp f) :: (tp, tup1 (.ref li)) :: (li, liObj l 0) :: news) → (∀ p ∈ news, p.1 < li) → li < tp → tp < mp → Q (.ref mp) { s with heap := h' }) :
    wpAny (model prog w) A (call (.type "map") [f, .ref l]) Q E s := by
  refine map_new hl (h (s.heap.objs.size + 2) (s.heap.objs.size + 1) s.heap.objs.size _ (((F.push _).push _).push _) ?_ (fun p hp => Heap.lt_size (N p hp).1) (Nat.lt_succ_self _) (Nat.lt_succ_self _))
  have N1 := N.push F (liObj l 0)
  have N2 := N1.push (F.push _) (tup1 (.ref s.heap.objs.size))
  have N3 := N2.push ((F.push _).push _) (mapObj (s.heap.objs.size + 1) f)
  simp only [Heap.size_push] at N3
  exact N3
theorem list_map_K {mp tp li l : Addr} {items : Array Value} {n0 : Nat} {ys : List Str} {Q : Value → Shared → Prop} {loose mean mg mb} (X : (Mine.hd.heap_1 w.params).In h₀) (T : Top topProg loose mean mg mb h₀) (hd : A.depth < 900) (hh : A.handled = none)
    (F : Fr h₀ L s.heap m) (N : News h₀ L s.heap ((mp, mapObj tp (.ref 43)) :: (tp, tup1 (.ref li)) :: (li, liObj l 0) :: news)) (hlt : ∀ p ∈ news, p.1 < li) (h1 : li < tp) (h2 : tp < mp) (hl : (l, listO items n0) ∈ news)
    (hi : StrsAre items.toList ys) (hy : ∀ y ∈ ys, y.cps.size ≤ 100000 ∧ ∀ c ∈ y.cps.toList, c ∈ Rx.sigma) (hn : ys.length ≤ 1000000)
    (h : ∀ S (vs : List Value) c h' tk, Fr h₀ L h' m → News h₀ L h' ((S, listO vs.toArray c) :: news) → StrsAre vs (ys.map trS) → (∀ p ∈ news, p.1 < S) → Q (.ref S) { s with heap := h', toks := tk }) :
    wpAny (model PySem.Challenge.rw_re0054_01.row.prog w) A (call (.type "list") [.ref mp]) Q E s := by
  have hll : l < li := hlt _ hl
  have hsz : items.size = ys.length := by rw [← strs_len hi]; simp
  have Nl := N (l, listO items n0) (.tail _ (.tail _ (.tail _ hl)))
  have Nm := N (mp, _) (.head _)
  have Nt := N (tp, _) (.tail _ (.head _))
  have Ni := N (li, _) (.tail _ (.tail _ (.head _)))
  have W := walks_map (prog := PySem.Challenge.rw_re0054_01.row.prog) (w := w) (A := A.in1.in1) (h0 := h₀) (mp := mp) (tp := tp) (li := li) (l := l) (fv := .ref 43) (items := items) (P := fun i v => ∃ y, ys[i]? = some y ∧ ∃ u, v = Value.str (trS y) u) hh
    (Nat.ne_of_lt (Nat.lt_trans h1 h2)) (Nat.ne_of_lt h1) (Ne.symm (Nat.ne_of_lt hll)) Ni.2.2 ?_
  · refine list_of_map W (fun i s st => ⟨_, st.2.1, rfl⟩) ⟨F.keep, Nm.1, Nt.1, ⟨_, Ni.1, rfl, rfl⟩, ⟨_, Nl.1, rfl, _, rfl⟩⟩ ?_ (by simp) (by rw [hsz]; exact hn) fun s' acc c hm hS hacc => ?_
    · intro b hb
      simp only [List.mem_cons, List.mem_range] at hb
      rcases hb with rfl | rfl | rfl | rfl | hb
      · exact Heap.lt_size Nm.1
      · exact Heap.lt_size Nt.1
      · exact Heap.lt_size Ni.1
      · exact Heap.lt_size Nl.1
      · obtain ⟨oL, _, _, hL, _⟩ := F.ns
        exact Nat.lt_of_lt_of_le (Nat.lt_of_lt_of_le hb F.above) (Nat.le_of_lt (Heap.lt_size hL))
    · obtain ⟨h', g', d', tk, os'⟩ := s'
      have e1 : g' = s.gens := hm.gens
      have e2 : d' = s.drawn := hm.drawn
      have e3 : os' = s.os := hm.os
      subst e1 e2 e3
      have keep : ∀ b o, b ≠ li → s.heap.get? b = some o → h'.get? b = some o := fun b o hb e =>
        hm.heap b o (fun q => by
          rcases List.mem_cons.mp q with q | q
          · exact absurd (Heap.lt_size e) (q ▸ Nat.lt_irrefl _)
          · exact hb (List.mem_singleton.mp q)) (Heap.get?_push_of_some _ e)
      obtain ⟨oL, es, ep, hL, hr⟩ := F.ns
      have F' : Fr h₀ L h' m := ⟨⟨oL, es, ep, keep L oL (Ne.symm Ni.2.1) hL, hr⟩, fun b o e => keep b o (fun q => by rw [q, Ni.2.2] at e; cases e) (F.keep b o e), F.above⟩
      have hsz' : acc.size = ys.length := by rw [hacc.1, hsz]
      refine h s.heap.objs.size acc.toList c h' tk F' ?_ (strsAre_of (P := fun _ _ => True) ys acc.toList (by simpa using hsz') fun j v hj => hacc.2 j v (by simpa using hj)) (fun p hp => Heap.lt_size (N p (.tail _ (.tail _ (.tail _ hp)))).1)
      intro p hp
      rcases List.mem_cons.mp hp with rfl | hp
      · refine ⟨hS, Nat.ne_of_gt (Heap.lt_size hL), ?_⟩
        cases hq : h₀.get? s.heap.objs.size with
        | none => rfl
        | some o => exact absurd (Heap.lt_size (F.keep _ _ hq)) (Nat.lt_irrefl _)
      · have Np := N p (.tail _ (.tail _ (.tail _ hp)))
        exact ⟨keep _ _ (Nat.ne_of_lt (hlt p hp)) Np.1, Np.2⟩
  · intro s i v Q E g hv hq
    obtain ⟨y, u, hy1, rfl⟩ := strs_get hi i v (by simpa using hv)
    have hym := List.mem_of_getElem? hy1
    refine spec_escape (Frag.In.keeps X g) (T.keeps g) hd hh (hy y hym).1 (hy y hym).2 fun h' tk u g' => ?_
    exact hq _ h' tk ⟨y, hy1, u, rfl⟩ g'
end
end Mine
end
section
open PySem PySem.W PySem.W.X PyProof.Rows PySem.Spec PySem.Calls
set_option Elab.async false
set_option maxRecDepth 100000
namespace Mine
noncomputable def Hold (P : Prop) : Prop := P
theorem hold_in {P : Prop} (h : Hold P) : P := h
section
variable {prog : Program} {w : World} {A : Around} {E : Value → Shared → Prop} {s : Shared} {env : Env} {h₀ : Heap} {x : Str} {body : List Stmt} {Q : Flow → Shared → Prop}
/-- a for over a range, by an invariant over the turn's number -/
theorem iter_rangeJ {r : Addr} {a₀ b₀ : Int} {t₀ u₀ v₀ : Tok} {n : Nat} {m₀ : Str → Option Value} {news : List (Addr × Obj)} (J : Nat → (Str → Option Value) → List (Addr × Obj) → Prop)
    (hh : A.handled = none) (hr : IsRange s.heap r a₀ b₀ 1 t₀ u₀ v₀) (hsmall : Builtin.Range.small a₀ b₀ 1 = true) (hn : Builtin.Range.rangeSize a₀ b₀ 1 = (n : Int)) (F : Fr h₀ env.locals s.heap m₀) (N : News h₀ env.locals s.heap news) (hj : J 0 m₀ news)
    (turn : ∀ i t m₁ nx h tk own, i < n → OwnOff own (news.map (·.1)) → J i m₁ nx → Fr h₀ env.locals h (fun y => if y = x then some (.int (a₀ + (i : Nat)) t) else m₁ y) → News h₀ env.locals h (nx ++ own) →
      wpAny (model prog w) A (execs body env) (InvPostN h₀ env.locals (J (i + 1)) own (news.map (·.1)) { s with heap := h, toks := tk } Q) E { s with heap := h, toks := tk })
    (done : ∀ m₁ nx h tk, J n m₁ nx → Fr h₀ env.locals h m₁ → News h₀ env.locals h nx → Q .next { s with heap := h, toks := tk }) :
    wpAny (model prog w) A (pyIter (.ref r)) (fun it s₂ => LoopAtV prog w A h₀ env x body Q E it s₂) E s := by
  refine wpAny_pyIter_range hr hsmall ?_
  have W := Walks.range (prog := prog) (w := w) hh s.heap.objs.size a₀ 1 n
  refine loop_invN J W ?_ ?_ ?_ ?_ (by show IsRangeIter _ _ _ _ _; rw [hn]; simpa using Heap.get?_push_size _ rfl) (F.push _) (fun p hp => ⟨Heap.get?_push_of_some _ (N p hp).1, (N p hp).2⟩) hj ?_ done
  · intro hm; exact absurd F.ns.lt ((List.mem_singleton.mp hm) ▸ Nat.lt_irrefl _)
  · intro b hb; rw [List.mem_singleton.mp hb]; exact next_is_new F
  · intro p hp hI; exact absurd (Heap.lt_size (N p hp).1) ((List.mem_singleton.mp hI) ▸ Nat.lt_irrefl _)
  · intro p hp hI; exact absurd (Heap.lt_size (N p hp).1) ((List.mem_singleton.mp hI) ▸ Nat.lt_irrefl _)
  · rintro i v m₁ nx h tk own hi ⟨t, rfl⟩ _ ho hJ F' N'
    rw [Int.mul_one] at F'
    exact turn i t m₁ nx h tk own hi ho hJ F' N'
end
end Mine
end
section
open PySem PySem.W PySem.W.X PyProof.Rows PySem.Spec PySem.Calls
set_option Elab.async false
set_option maxRecDepth 100000
set_option maxHeartbeats 0
namespace Mine
theorem enterH {w : World} {A : Around} {s : Shared} {Q : Value → Shared → Prop} {E : Value → Shared → Prop} {name qual : Str} {params : Arguments} {body : List Stmt} {scope : Scope} {dV kV doc pm cdv ct oc : Value} {an od : Option Addr} {osl : Array (Option Value)} {f : Addr} {args : List Value} {binds : List (Str × Value)} (tabs : List (Addr × Obj))
    (X : (Mine.hd.heap_1 w.params).In (hideAll s.heap (tabs.map (·.1)))) (hlim : (hideAll s.heap (tabs.map (·.1))).NoLimit) (ht : ∀ p ∈ tabs, s.heap.get? p.1 = some p.2)
    (ho : (Mine.hd.heap_1 w.params).lookup f = some ⟨oc, od, .func (fnOf name qual params body scope dV kV doc pm an cdv ct), osl⟩) (hcd : codeIn (Mine.hd.heap_1 w.params) cdv qual = true) (hroom : A.depth < recursionLimit)
    (hbind : BindsTo s (fnOf name qual params body scope dV kV doc pm an cdv ct) ⟨args, []⟩ binds) (hloc : ∀ y ∈ binds, scope.names.lookup y.1 = some .local)
    (h : ∀ L' h₁ (g : Heap), g = hideAll s.heap (tabs.map (·.1)) → (∀ p ∈ tabs, p.1 < L') → (Mine.hd.heap_1 w.params).In g → Fr g L' h₁ (fun y => binds.reverse.lookup y) → News g L' h₁ tabs →
      wpAny (model PySem.Challenge.rw_re0054_01.row.prog w) (A.deeper (envOf qual scope L' f cdv)) (execs body (envOf qual scope L' f cdv))
        (fun fl s' => Q (match fl with | .ret v => v | _ => .none) s')
        (fun _ _ => False)
        { s with heap := h₁, toks := s.toks + binds.length })
    (hco : scope.isCoroutine = false) (hgen : scope.isGenerator = false) (hk : scope.kind = .function)
    (hcell : ∀ x ∈ scope.names, x.2 ≠ .cell) : wpAny (model PySem.Challenge.rw_re0054_01.row.prog w) A (call (.ref f) args) Q E s := by
  have X' : (Mine.hd.heap_1 w.params).In s.heap := fun a o e => of_hideAll _ (X a o e)
  have hlim' : s.heap.NoLimit := let ⟨mc, a, r⟩ := hlim; ⟨mc, a.keeps fun _ _ e => of_hideAll _ e, r⟩
  refine wpAny_call ?_
  refine codeAny_call_def (fd := fnOf name qual params body scope dV kV doc pm an cdv ct) (body := body) (binds := binds) hroom (X' _ _ ho) rfl hlim' (codeRec_of X' hcd) rfl hbind hcell hloc (fun h₁ hns hk₁ => ?_) hco hgen hk
  refine wpAny_mono (h s.heap.objs.size h₁ _ rfl (fun p hp => Heap.lt_size (ht p hp)) X ⟨hns, fun b o e => hk₁ b o (of_hideAll _ e), by rw [hideAll_size]; exact Nat.le_refl _⟩ ?_) (fun _ _ x => x) (fun _ _ x => x.elim)
  intro p hp
  exact ⟨hk₁ _ _ (ht p hp), Nat.ne_of_lt (Heap.lt_size (ht p hp)), hideAll_none _ (List.mem_map_of_mem hp)⟩
theorem enterL {prog : Program} {w : World} {A : Around} {s : Shared} {Q : Value → Shared → Prop} {E : Value → Shared → Prop} {name qual : Str} {params : Arguments} {body : Expr} {scope : Scope} {pm ctv : Value} {c' f : Addr} {args : List Value} {binds : List (Str × Value)}
    (hlim : s.heap.NoLimit) (ho : s.heap.get? f = some (kla_obj name qual params body scope [] pm c' ctv)) (hcd : s.heap.CodeRec (.ref c') qual) (hroom : A.depth < recursionLimit)
    (hbind : bindArgs (kla_fn name qual params body scope [] pm (.ref c') ctv) ⟨args, []⟩ = pure binds) (hloc : ∀ y ∈ binds, scope.names.lookup y.1 = some .local)
    (h : ∀ L' h₁, L' = s.heap.objs.size → Fr s.heap L' h₁ (fun y => binds.reverse.lookup y) → News s.heap L' h₁ [] →
      wpAny (model prog w) (A.deeper (envX qual scope L' f (.ref c') [])) (eval body (envX qual scope L' f (.ref c') []))
        Q (fun _ _ => False) { s with heap := h₁, toks := s.toks + binds.length })
    (hco : scope.isCoroutine = false) (hgen : scope.isGenerator = false) (hk : scope.kind = .function)
    (hcell : ∀ x ∈ scope.names, x.2 ≠ .cell) : wpAny (model prog w) A (call (.ref f) args) Q E s := by
  refine wpAny_call ?_
  refine kla_callFunE hroom ho rfl hco hgen rfl hcd ?_
  rw [hbind]
  refine wpAny_pure (wpAny_newFunctionEnv hcell hloc (fun h₁ hns hsb => ⟨hlim.fresh _ hsb, ?_⟩) hk)
  have hk₁ : ∀ b o, s.heap.get? b = some o → h₁.get? b = some o := fun b o e => hsb.extBut b o (Nat.ne_of_lt (Heap.lt_size e)) (Heap.get?_push_of_some _ e)
  exact kla_codeExpr (wpAny_mono (h _ h₁ rfl ⟨hns, hk₁, Nat.le_refl _⟩ News.nil) (fun v s' x => x) fun _ _ y => y.elim)
end Mine
end
section
open PySem PySem.W PySem.W.X PyProof.Rows PySem.Spec PySem.Calls
set_option Elab.async false
set_option maxRecDepth 100000
set_option maxHeartbeats 0
namespace Mine
theorem nb_match : typeLookup (.type "re.Match") "__bool__" = pure none := by rw [typeLookup_type, builtinLookup_eq_fast]; kernel_rfl
theorem nl_match : typeLookup (.type "re.Match") "__len__" = pure none := by rw [typeLookup_type, builtinLookup_eq_fast]; kernel_rfl
theorem truthy_match {M : Model} {A : Around} {E : Value → Shared → Prop} {s : Shared} {a : Addr} {x : Str} {t : Tok} {b e : Nat} {gp : Option (Nat × Nat)} {Q : Bool → Shared → Prop} (mt : MatchAt s.heap a x t b e gp) (h : Q true s) : wpAny M A (truthy (.ref a)) Q E s := by
  have hT : s.TypeIs (.ref a) "re.Match" := typeIs_match mt
  unfold truthy
  refine wpAny_bind (wpAny_callSpecial?_none (name := Str.ofString "__bool__") hT nb_match ?_)
  refine wpAny_bind (wpAny_specialOf (name := Str.ofString "__len__") hT nl_match ?_)
  exact wpAny_pure h
section
variable {M : Model} {prog : Program} {w : World} {A : Around} {E : Value → Shared → Prop} {s : Shared} {h₀ : Heap} {L pat : Addr} {m : Str → Option Value} {news : List (Addr × Obj)} {x : Str} {t : Tok} {b e n g : Nat} {gp : Option (Nat × Nat)} {code : Array Nat}
theorem gm_groupN {a tp : Addr} {lim : Nat} {li : Int} {pl : Sem Bool} {Q : Value × List Value → Shared → Prop} (N : News h₀ L s.heap news) (h1 : (a, matchObj x t pat lim li tp) ∈ news) (h : Q (.builtin "re.Match.group", [.ref a]) s) : wpAny M A (getMethod (.ref a) "group" pl) Q E s := by
  have hT : s.TypeIs (.ref a) "re.Match" := ⟨_, N.get h1, rfl⟩
  with_reducible exact getMethod_builtin hT Rp.pm Rp.slot_m_group Rp.type_m_group (fun a ha => by cases ha; exact ⟨_, N.get h1, rfl⟩) h
theorem gm_search {pl : Sem Bool} {Q : Value × List Value → Shared → Prop} (P : PatAt h₀ pat g code) (F : Fr h₀ L s.heap m) (h : Q (.builtin "re.Pattern.search", [.ref pat]) s) : wpAny M A (getMethod (.ref pat) "search" pl) Q E s := by
  with_reducible exact method_pat (P.keeps F.keep) Rp.slot_p_search Rp.type_p_search h
theorem gm_fullmatch {pl : Sem Bool} {Q : Value × List Value → Shared → Prop} (P : PatAt h₀ pat g code) (F : Fr h₀ L s.heap m) (h : Q (.builtin "re.Pattern.fullmatch", [.ref pat]) s) : wpAny M A (getMethod (.ref pat) "fullmatch" pl) Q E s := by
  with_reducible exact method_pat (P.keeps F.keep) Rp.slot_p_fullmatch Rp.type_p_fullmatch h
theorem gm_sub {pl : Sem Bool} {Q : Value × List Value → Shared → Prop} (P : PatAt h₀ pat g code) (F : Fr h₀ L s.heap m) (h : Q (.builtin "re.Pattern.sub", [.ref pat]) s) : wpAny M A (getMethod (.ref pat) "sub" pl) Q E s := by
  with_reducible exact method_pat (P.keeps F.keep) Rp.slot_p_sub Rp.type_p_sub h
theorem gm_subn {pl : Sem Bool} {Q : Value × List Value → Shared → Prop} (P : PatAt h₀ pat g code) (F : Fr h₀ L s.heap m) (h : Q (.builtin "re.Pattern.subn", [.ref pat]) s) : wpAny M A (getMethod (.ref pat) "subn" pl) Q E s := by
  with_reducible exact method_pat (P.keeps F.keep) Rp.slot_p_subn Rp.type_p_subn h
theorem search_yes_K {Q : Value → Shared → Prop} (P : PatAt h₀ pat (groupsOf gp) code) (F : Fr h₀ L s.heap m) (N : News h₀ L s.heap news) (hx : x.cps.size ≤ 2 ^ 24) (hE : Rx.Ends n (Sre.forSearch code x.cps (groupsOf gp) 0 x.cps.size false) (Rx.Found b e gp)) (hn : n ≤ 400000) (hg : ∀ p q, gp = some (p, q) → p ≤ q)
    (h : ∀ mt sp li h', Fr h₀ L h' m → News h₀ L h' ((mt, matchObj x t pat x.cps.size li sp) :: (sp, spansObj (spansOf b e gp)) :: news) → (∀ p ∈ news, p.1 < sp) → sp < mt → Q (.ref mt) { s with heap := h' }) :
    wpAny (model prog w) A (call (.builtin "re.Pattern.search") [.ref pat, .str x t]) Q E s := by
  refine search_yes (P.keeps F.keep) hx hE hn hg fun li => ?_
  have ee : (s.heap.push (spansObj (spansOf b e gp))).objs.size = s.heap.objs.size + 1 := by rw [Heap.size_push]
  have k := h (s.heap.push (spansObj (spansOf b e gp))).objs.size s.heap.objs.size li _ ((F.push _).push _) ((N.push F _).push (F.push _) _) (fun p hp => Heap.lt_size (N p hp).1) (by rw [ee]; exact Nat.lt_succ_self _)
  rw [ee] at k; exact k
theorem fullmatch_yes_K {Q : Value → Shared → Prop} (P : PatAt h₀ pat (groupsOf gp) code) (F : Fr h₀ L s.heap m) (N : News h₀ L s.heap news) (hx : x.cps.size ≤ 2 ^ 24) (hE : Rx.Ends n (Sre.forMatch code x.cps (groupsOf gp) 0 x.cps.size true false) (Rx.Found b e gp)) (hn : n ≤ 400000) (hg : ∀ p q, gp = some (p, q) → p ≤ q)
    (h : ∀ mt sp li h', Fr h₀ L h' m → News h₀ L h' ((mt, matchObj x t pat x.cps.size li sp) :: (sp, spansObj (spansOf b e gp)) :: news) → (∀ p ∈ news, p.1 < sp) → sp < mt → Q (.ref mt) { s with heap := h' }) :
    wpAny (model prog w) A (call (.builtin "re.Pattern.fullmatch") [.ref pat, .str x t]) Q E s := by
  refine fullmatch_yes (P.keeps F.keep) hx hE hn hg fun li => ?_
  have ee : (s.heap.push (spansObj (spansOf b e gp))).objs.size = s.heap.objs.size + 1 := by rw [Heap.size_push]
  have k := h (s.heap.push (spansObj (spansOf b e gp))).objs.size s.heap.objs.size li _ ((F.push _).push _) ((N.push F _).push (F.push _) _) (fun p hp => Heap.lt_size (N p hp).1) (by rw [ee]; exact Nat.lt_succ_self _)
  rw [ee] at k; exact k
noncomputable def lamPos (ps : Array Value) (q : Str) (h : Heap) (ln cl : Int) : Prop := ps = #[] ∨ ∃ c' oc vs t, ps = #[rawInt ln, rawInt cl, .ref c'] ∧ h.get? c' = some oc ∧ oc.data = .fields vs ∧ vs[1]? = some (.str q t)
theorem lam_make {Q : Value → Shared → Prop} {c P a : Addr} {ps : Array Value} {mg mb : Str → Option Value} {p : Program} {loose : List Str} {mean : ExcName → Option Value} {cn : Str} {params : Arguments} {body : Expr} {scope cs : Scope} {pos : Pos} {g : Obj → List (Addr × Obj)}
    (F : Fr h₀ L s.heap m) (N : News h₀ L s.heap news) (T : Top p loose mean mg mb h₀) (C : CodeHd h₀ c P) (U : UpdF P (tabObj ps) news g) (hps : lamPos ps (Env.qual (envX cn cs L a (.ref c) []) ++ "<lambda>") h₀ pos.line pos.col)
    (hcl : closureFor scope (envX cn cs L a (.ref c) []) = pure []) (hdef : defaultsOf params (envX cn cs L a (.ref c) []) = ([], []))
    (h : ∀ f c' ctv pm ps' x ox h' tk, Fr h₀ L h' m → News h₀ L h' ((f, kla_obj "<lambda>" (Env.qual (envX cn cs L a (.ref c) []) ++ "<lambda>") params body scope [] pm c' ctv) :: (x, ox) :: g (tabObj ps')) → h'.CodeRec (.ref c') (Env.qual (envX cn cs L a (.ref c) []) ++ "<lambda>") →
      (∀ hh : Heap, (∀ b o, h₀.get? b = some o → hh.get? b = some o) → hh.get? x = some ox → lamPos ps' (Env.qual (envX cn cs L a (.ref c) []) ++ "<lambda>") hh pos.line pos.col) → (∀ q ∈ news, q.1 < x) → (∀ q ∈ news, q.1 < f) → Q (.ref f) { s with heap := h', toks := tk }) :
    wpAny M A (eval (.Lambda params body scope pos) (envX cn cs L a (.ref c) [])) Q E s := by
  refine kla_eval hdef ?_
  rcases hps with rfl | ⟨c', oc, vs, t, rfl, hoc, hd, hv⟩
  · refine kla_nest F N T C rfl U (by trivial) rfl hcl fun f c' oc vs t ctv h' tk F' N' hd hv l1 l2 => ?_
    have hc' := N' (c', oc) (.tail _ (.head _))
    exact h f c' ctv ((mg "__name__").getD .none) (#[] ++ #[rawInt pos.line, rawInt pos.col, .ref c']) c' oc h' tk F' N' ⟨c', oc, vs, t, rfl, hc'.1, hd, hv⟩ (fun hh _ e => .inr ⟨c', oc, vs, t, rfl, e, hd, hv⟩) l1 (fun q hq => Nat.lt_trans (l1 q hq) l2)
  · obtain ⟨own, rest, rfl, hgr, h1, h2⟩ := U.split
    refine kla_hit F N T C rfl (List.mem_append_right _ (.head _)) (by trivial) (c' := c') (by simp [codeAmong, rawInt]) hcl fun f ctv h' tk F' N' l1 => ?_
    have hk : h'.get? c' = some oc := F'.keep _ _ hoc
    refine h f c' ctv ((mg "__name__").getD .none) #[rawInt pos.line, rawInt pos.col, .ref c'] f (kla_obj "<lambda>" (Env.qual (envX cn cs L a (.ref c) []) ++ "<lambda>") params body scope [] ((mg "__name__").getD .none) c' ctv) h' tk F' ?_ ⟨c', oc, vs, t, rfl, hk, hd, hv⟩ (fun hh kk _ => .inr ⟨c', oc, vs, t, rfl, kk _ _ hoc, hd, hv⟩) l1 l1
    rw [hgr]
    intro q hq
    rcases List.mem_cons.mp hq with rfl | hq
    · exact N' _ (.head _)
    · exact N' _ hq
end
theorem code_105 {w : World} {h : Heap} (X : (Mine.hd.heap_1 w.params).In h) : CodeHd h 105 101 := ⟨_, _, _, _, _, _, _, _, _, X 105 _ rfl, rfl, rfl, rfl, rfl, rfl, rfl, rfl, rfl, by decide⟩
theorem code_88 {w : World} {h : Heap} (X : (Mine.hd.heap_1 w.params).In h) : CodeHd h 88 84 := ⟨_, _, _, _, _, _, _, _, _, X 88 _ rfl, rfl, rfl, rfl, rfl, rfl, rfl, rfl, rfl, by decide⟩
end Mine
end
section
open PySem PySem.W PySem.W.X PyProof.Rows PySem.Spec PySem.Calls
set_option Elab.async false
set_option maxRecDepth 100000
namespace Mine
theorem All2.length {α β : Type} {R : α → β → Prop} {l : List α} {r : List β} (H : All2 R l r) : l.length = r.length := by
  induction H with
  | nil => rfl
  | cons h t ih => exact congrArg (· + 1) ih
theorem All2.get {α β : Type} {R : α → β → Prop} {l : List α} {r : List β} (H : All2 R l r) : ∀ {i : Nat} {v : α}, l[i]? = some v → ∃ x, r[i]? = some x ∧ R v x := by
  induction H with
  | nil => intro i v h; cases h
  | cons h t ih =>
    intro i v e
    cases i with
    | zero => cases e; exact ⟨_, rfl, h⟩
    | succ i => exact ih e
theorem All2.mono {α β : Type} {R R' : α → β → Prop} (k : ∀ a b, R a b → R' a b) {l : List α} {r : List β} (H : All2 R l r) : All2 R' l r := by
  induction H with
  | nil => exact .nil
  | cons h t ih => exact .cons (k _ _ h) ih
theorem All2.append {α β : Type} {R : α → β → Prop} {l : List α} {r : List β} {l' : List α} {r' : List β} (H : All2 R l r) (k : All2 R l' r') : All2 R (l ++ l') (r ++ r') := by
  induction H with
  | nil => exact k
  | cons h t ih => exact .cons h ih
theorem PairAt.keeps {h h' : Heap} (k : ∀ b o, h.get? b = some o → h'.get? b = some o) {v : Value} {p : Str × Int} (x : PairAt h v p) : PairAt h' v p := by
  obtain ⟨a, t, t', e, hT⟩ := x
  exact ⟨a, t, t', e, hT.keeps k⟩
theorem ItemsAt.keeps {h h' : Heap} (k : ∀ b o, h.get? b = some o → h'.get? b = some o) {v : Value} {xs : List (Str × Int)} (x : ItemsAt h v xs) : ItemsAt h' v xs := by
  obtain ⟨a, vs, e, hl, hi⟩ := x
  exact ⟨a, vs, e, hl.at fun o e => k _ _ e, hi.mono fun _ _ => PairAt.keeps k⟩
noncomputable def TurnEnd (h₀ : Heap) (L I : Addr) (it : Obj) (J : (Str → Option Value) → List (Addr × Obj) → Prop) (s₁ : Shared) (f : Flow) (s₂ : Shared) : Prop :=
  f = .next ∧ ∃ h' tk m' nx, s₂ = { s₁ with heap := h', toks := tk } ∧ Fr h₀ L h' m' ∧ News h₀ L h' ((I, it) :: nx) ∧ (∀ p ∈ nx, @Ne Nat p.1 I) ∧ J m' nx
section
variable {prog : Program} {w : World} {A : Around} {E : Value → Shared → Prop} {s : Shared} {env : Env} {h₀ : Heap} {x : Str} {body : List Stmt} {Q : Flow → Shared → Prop}
theorem TurnEnd.step {I l : Addr} {it : Obj} {J : (Str → Option Value) → List (Addr × Obj) → Prop} {nx own : List (Addr × Obj)} {s₁ s₂ : Shared} {f : Flow} {its : Array Value} {i : Nat}
    (hst : s₁.heap.IsListIter I l i ∧ s₁.heap.IsList l its) (hit : s₁.heap.get? I = some it) (hsub : ∀ p ∈ own, p.1 ∈ [I, l]) (hown : ∀ p ∈ own, s₁.heap.get? p.1 = some p.2) (N : News h₀ env.locals s₁.heap (own ++ nx))
    (hsrc : (∃ o, h₀.get? l = some o) ∨ ∃ o, (l, o) ∈ nx ∧ ∀ m n, J m n → (l, o) ∈ n) (h : TurnEnd h₀ env.locals I it J s₁ f s₂) : LoopStepU h₀ env.locals [I] own J s₁ f s₂ := by
  obtain ⟨rfl, h', tk, m', nx', rfl, F', N', ha, hJ⟩ := h
  refine ⟨rfl, h', tk, m', nx', rfl, F', ?_, fun p hp hm => ha p hp (List.mem_singleton.mp hm), hJ⟩
  intro p hp
  rcases List.mem_append.mp hp with hp | hp
  · have e := hown p hp
    rcases List.mem_cons.mp (hsub p hp) with e1 | e1
    · rw [e1, hit] at e
      obtain ⟨p1, p2⟩ := p
      dsimp only at e1 e
      cases e; subst e1
      exact N' _ (.head _)
    · replace e1 := List.mem_singleton.mp e1
      have hn := (N p (List.mem_append_left _ hp)).2
      rcases hsrc with ⟨o, ho⟩ | ⟨o, hm, hk⟩
      · rw [e1, ho] at hn; cases hn.2
      · have := (N (l, o) (List.mem_append_right _ hm)).1
        dsimp only at this
        rw [e1, this] at e
        obtain ⟨p1, p2⟩ := p
        dsimp only at e1 e
        cases e; subst e1
        exact N' _ (.tail _ (hk _ _ hJ))
  · exact N' _ (.tail _ hp)
/-- a for over a list of a name, by an invariant whose ledger may grow -/
theorem iterV_list {l : Addr} {its : Array Value} {m₀ : Str → Option Value} {news : List (Addr × Obj)} (J : Nat → (Str → Option Value) → List (Addr × Obj) → Prop)
    (hh : A.handled = none) (hl : s.heap.IsList l its) (hsrc : (∃ o, h₀.get? l = some o) ∨ ∃ o, ∀ i m n, J i m n → (l, o) ∈ n) (hLl : env.locals ≠ l)
    (F : Fr h₀ env.locals s.heap m₀) (N : News h₀ env.locals s.heap news) (hj : J 0 m₀ news)
    (turn : ∀ i v m₁ nx h tk I it, its[i]? = some v → (∀ p ∈ nx, @Ne Nat p.1 I) → J i m₁ nx → Fr h₀ env.locals h (fun y => if y = x then some v else m₁ y) → News h₀ env.locals h ((I, it) :: nx) →
      wpAny (model prog w) A (execs body env) (TurnEnd h₀ env.locals I it (J (i + 1)) { s with heap := h, toks := tk }) E { s with heap := h, toks := tk })
    (done : ∀ m₁ nx h tk, J its.size m₁ nx → Fr h₀ env.locals h m₁ → News h₀ env.locals h nx → Q .next { s with heap := h, toks := tk }) :
    wpAny (model prog w) A (pyIter (.ref l)) (fun it s₂ => LoopAtV prog w A h₀ env x body Q E it s₂) E s := by
  have hlt : l < s.heap.objs.size := by obtain ⟨_, e, _⟩ := hl; exact Heap.lt_size e
  refine wpAny_pyIter_list hl ?_
  have W := Walks.list (prog := prog) (w := w) hh s.heap.objs.size l (Nat.ne_of_lt hlt) its
  refine ⟨s.heap.objs.size, _, _, _, _, _, m₀, news, J, rfl, W, ?_, ?_, ?_, ⟨⟨_, Heap.get?_push_size _ rfl, rfl, rfl⟩, hl.at fun o e => Heap.get?_push_of_some _ e⟩, F.push _, (fun p hp => ⟨Heap.get?_push_of_some _ (N p hp).1, (N p hp).2⟩), hj, ?_, ?_⟩
  · intro hm
    rcases List.mem_cons.mp hm with e | hm
    · exact absurd F.ns.lt (e ▸ Nat.lt_irrefl _)
    · exact hLl (List.mem_singleton.mp hm)
  · intro b hb; rw [List.mem_singleton.mp hb]; exact next_is_new F
  · intro p hp hI; exact absurd (Heap.lt_size (N p hp).1) ((List.mem_singleton.mp hI) ▸ Nat.lt_irrefl _)
  · rintro i v m₁ news₁ s₁ own ⟨hh', tk', rfl⟩ hin hP hJ hoff hsub hown hmem hst F₁ N₁
    obtain ⟨oI, heI, hIc⟩ := hst.1
    have hIn : h₀.get? s.heap.objs.size = none := next_is_new F
    have hmI := hmem _ (.head _) hIn oI heI
    have N₂ : News h₀ env.locals hh' ((s.heap.objs.size, oI) :: news₁) := fun p hp => N₁ p (by
      rcases List.mem_cons.mp hp with rfl | hp
      · exact List.mem_append_left _ hmI
      · exact List.mem_append_right _ hp)
    refine wpAny_mono (turn i v m₁ news₁ hh' tk' _ oI hP (fun p hp e => hoff p hp (by rw [show p.1 = _ from e]; exact .head _)) hJ F₁ N₂) (fun f s₂ p => ?_) fun _ _ e => e
    have hsrc' : (∃ o, h₀.get? l = some o) ∨ ∃ o, (l, o) ∈ news₁ ∧ ∀ m n, J (i + 1) m n → (l, o) ∈ n := hsrc.imp id fun ⟨o, k⟩ => ⟨o, k i _ _ hJ, k (i + 1)⟩
    have q := TurnEnd.step (env := env) hst heI hsub hown N₁ hsrc' p
    obtain ⟨rfl, _⟩ := id q
    exact .next q
  · intro h' tk m' news' F' N' _ hJ
    exact done m' news' h' tk hJ F' N'
/-- a for over pairs of the base heap -/
theorem iterT_pairs {l : Addr} {vs : List Value} {xs : List (Str × Int)} {a b : Str} {pa pb tp : Pos} {kk : Nat} {m₀ : Str → Option Value} {news : List (Addr × Obj)} (J : Nat → (Str → Option Value) → List (Addr × Obj) → Prop)
    (hh : A.handled = none) (hl : h₀.IsList l vs.toArray) (hi : All2 (PairAt h₀) vs xs) (F : Fr h₀ env.locals s.heap m₀) (N : News h₀ env.locals s.heap news) (hj : J 0 m₀ news)
    (turn : ∀ i sg bi t t' m₁ nx s₁ I it, xs[i]? = some (sg, bi) → (∀ p ∈ nx, @Ne Nat p.1 I) → J i m₁ nx → Fr h₀ env.locals s₁.heap (fun y => if y = b then some (.int bi t') else if y = a then some (.str sg t) else m₁ y) → News h₀ env.locals s₁.heap ((I, it) :: nx) →
      wpAny (model prog w) A (execs body env) (TurnEnd h₀ env.locals I it (J (i + 1)) s₁) E s₁)
    (done : ∀ m₁ nx h tk, J xs.length m₁ nx → Fr h₀ env.locals h m₁ → News h₀ env.locals h nx → Q .next { s with heap := h, toks := tk })
    (ha : env.kindOf a = some .local) (hb : env.kindOf b = some .local) (hp : (env.scope.kind == .class || (env.scope.kind == .module && env.locals != env.globals)) = false) :
    wpAny (model prog w) A (pyIter (.ref l)) (fun it s₂ => LoopAtT prog w A h₀ env (.Tuple [.Name a pa, .Name b pb] kk tp) body Q E it s₂) E s := by
  have hls : s.heap.IsList l vs.toArray := hl.at fun o e => F.keep l o e
  obtain ⟨ol, hol, _⟩ := id hl
  have hlt : l < h₀.objs.size := Heap.lt_size hol
  have hne : l ≠ s.heap.objs.size := Nat.ne_of_lt (Nat.lt_trans (Nat.lt_of_lt_of_le hlt F.above) F.ns.lt)
  refine wpAny_pyIter_list hls ?_
  have W := Walks.list (prog := prog) (w := w) hh s.heap.objs.size l hne vs.toArray
  have hlen : vs.toArray.size = xs.length := by simp [hi.length]
  refine ⟨s.heap.objs.size, _, _, _, _, _, m₀, news, J, rfl, W, ?_, ?_, ?_, ⟨⟨_, Heap.get?_push_size _ rfl, rfl, rfl⟩, hls.at fun o e => Heap.get?_push_of_some _ e⟩, F.push _, (fun p hp => ⟨Heap.get?_push_of_some _ (N p hp).1, (N p hp).2⟩), (fun i s' v Q' st hQ' => letGo_listiter st.1 hQ'), hj, ?_, ?_⟩
  · intro hm
    rcases List.mem_cons.mp hm with e | hm
    · exact absurd F.ns.lt (e ▸ Nat.lt_irrefl _)
    · exact absurd (Nat.lt_of_lt_of_le hlt F.above) ((List.mem_singleton.mp hm) ▸ Nat.lt_irrefl _)
  · intro b hb; rw [List.mem_singleton.mp hb]; exact next_is_new F
  · intro p hp hI; exact absurd (Heap.lt_size (N p hp).1) ((List.mem_singleton.mp hI) ▸ Nat.lt_irrefl _)
  · rintro i v m₁ news₁ s₁ own hin hP hJ hoff hsub hown hmem hst F₁ N₁
    obtain ⟨⟨sg, bi⟩, hx, T, t, t', rfl, hT⟩ := hi.get (by simpa using hP)
    obtain ⟨oI, heI, hIc⟩ := hst.1
    have hIn : h₀.get? s.heap.objs.size = none := next_is_new F
    have hmI := hmem _ (.head _) hIn oI heI
    refine kcp_assign hh (hT.keeps F₁.keep) ha hb hp F₁.ns fun h₂ tk₂ hn₂ hk₂ => ?_
    have F₂ : Fr h₀ env.locals h₂ (fun y => if y = b then some (.int bi t') else if y = a then some (.str sg t) else m₁ y) :=
      ⟨hn₂, fun c o e => hk₂ c o (Nat.ne_of_lt (Nat.lt_of_lt_of_le (Heap.lt_size e) F₁.above)) (F₁.keep c o e), F₁.above⟩
    have N₁' : News h₀ env.locals h₂ (own ++ news₁) := fun p hp => ⟨hk₂ _ _ (N₁ p hp).2.1 (N₁ p hp).1, (N₁ p hp).2⟩
    have heI₂ : h₂.get? s.heap.objs.size = some oI := (N₁' _ (List.mem_append_left _ hmI)).1
    have hls₂ : h₂.IsList l vs.toArray := hl.at fun o e => F₂.keep l o e
    have N₂ : News h₀ env.locals h₂ ((s.heap.objs.size, oI) :: news₁) := fun p hp => N₁' p (by
      rcases List.mem_cons.mp hp with rfl | hp
      · exact List.mem_append_left _ hmI
      · exact List.mem_append_right _ hp)
    refine wpAny_mono (turn i sg bi t t' m₁ news₁ { s₁ with heap := h₂, toks := tk₂ } _ oI hx (fun p hp e => hoff p hp (by rw [show p.1 = _ from e]; exact .head _)) hJ F₂ N₂) (fun f s₂ p => ?_) fun _ _ e => e
    obtain ⟨rfl, h', tk, m', nx', e, q⟩ := TurnEnd.step (env := env) (i := i + 1) ⟨⟨oI, heI₂, hIc⟩, hls₂⟩ heI₂ hsub (fun p hp => (N₁' p (List.mem_append_left _ hp)).1) N₁' (.inl ⟨ol, hol⟩) p
    exact ⟨rfl, h', tk, m', nx', e, q⟩
  · intro h' tk m' news' F' N' _ hJ
    rw [hlen] at hJ
    exact done m' news' h' tk hJ F' N'
end
end Mine
end
section
open PySem PySem.W PySem.W.X PyProof.Rows PySem.Spec PySem.Calls
set_option Elab.async false
set_option maxRecDepth 100000
set_option maxHeartbeats 0
namespace Mine
local macro_rules | `(tactic| walk_at "pad") => `(tactic| skip)
theorem off_Lw2 : True := by
  w_top off
  trivial
noncomputable def encP (p : Nat × Nat) : Str × Int := (⟨#[p.1]⟩, (p.2 : Int))
noncomputable def strokeN (c : Nat) (k : Nat) (m : List Nat) : Nat := 2 * k + if c ∈ m then 1 else 0
noncomputable def strokesN (c : Nat) (ms : List (List Nat)) : Nat := ms.foldl (strokeN c) (if c = 92 then 1 else 0)
noncomputable def writ1 (ms : List (List Nat)) (p : Nat × Nat) : List Nat := List.replicate (strokesN p.1 (ms.drop p.2)) 92 ++ if p.1 = 92 then [] else [p.1]
noncomputable def writN (ms : List (List Nat)) (ys : List (Nat × Nat)) : List Nat := ys.flatMap (writ1 ms)
theorem strokeN_le (c : Nat) : ∀ (ms : List (List Nat)) (s : Nat), ms.foldl (strokeN c) s + 1 ≤ 2 ^ ms.length * (s + 1)
  | [], s => by simp
  | m :: ms, s => by
    have := strokeN_le c ms (strokeN c s m)
    have h2 : strokeN c s m + 1 ≤ 2 * (s + 1) := by unfold strokeN; split <;> omega
    have h3 : 2 ^ ms.length * (strokeN c s m + 1) ≤ 2 ^ ms.length * (2 * (s + 1)) := Nat.mul_le_mul_left _ h2
    rw [List.foldl_cons, List.length_cons, Nat.pow_succ, Nat.mul_assoc]
    exact Nat.le_trans this h3
theorem strokesN_le (c : Nat) {ms : List (List Nat)} (h : ms.length ≤ 4) : strokesN c ms ≤ 31 := by
  have := strokeN_le c ms (if c = 92 then 1 else 0)
  have h2 : (if c = 92 then 1 else 0) + 1 ≤ 2 := by split <;> omega
  have h3 : 2 ^ ms.length ≤ 2 ^ 4 := Nat.pow_le_pow_right (by decide) h
  have h4 : 2 ^ ms.length * ((if c = 92 then 1 else 0) + 1) ≤ 2 ^ 4 * 2 := Nat.mul_le_mul h3 h2
  unfold strokesN
  omega
theorem writ1_len {ms : List (List Nat)} (h : ms.length ≤ 4) (p : Nat × Nat) : (writ1 ms p).length ≤ 32 := by
  have := strokesN_le p.1 (ms := ms.drop p.2) (by rw [List.length_drop]; omega)
  unfold writ1
  rw [List.length_append, List.length_replicate]
  split <;> simp <;> omega
theorem writN_len {ms : List (List Nat)} (h : ms.length ≤ 4) : ∀ ys : List (Nat × Nat), (writN ms ys).length ≤ 32 * ys.length
  | [] => Nat.le_refl _
  | p :: ys => by
    have := writN_len h ys
    have := writ1_len h p
    unfold writN at *
    rw [List.flatMap_cons, List.length_append, List.length_cons]
    omega
local macro_rules | `(tactic| walk_at "pyIter ref") => `(tactic| with_reducible refine hold_in ?_)
local macro_rules | `(tactic| walk_at "exec For Tuple Name cons nil") => `(tactic| ((rename Fr _ _ _ _ => lF'); (with_unfolding_all refine' For_invTF lF' ?_ (fun _ => rfl))))
local macro_rules | `(tactic| walk_at "exec For Name Subscript cons nil") => `(tactic| ((rename Fr _ _ _ _ => lF'); (with_unfolding_all refine' For_invVF lF' ?k1 ?k2 ?_; (case k1 => exact rfl); (case k2 => exact rfl))))
local macro_rules | `(tactic| walk_at "subscriptTail Name Slice ref ref") => `(tactic| ((refine' kmk_slice ?F ?N ?l ?p ?q ?_ ?s ?t ?z; (case F => k_asm); (case N => k_asm); (case l => exact Fr.lst (by k_asm) (by k_asm)); (case p => exact IsPart.int _ _); (case q => exact IsPart.none); (case s => with_unfolding_all rfl); (case t => (intro _; with_unfolding_all rfl)); (case z => assumption)); intro D' h' F' N' l1; (try k_lt l1); (try k_sweep)))
theorem slice_drop (vs : List Value) (b : Nat) : slicePick vs.toArray (some (b : Int)) none none = (vs.drop b).toArray := by
  have e : sliceBounds (some (b : Int)) none none vs.toArray.size = (((min b vs.toArray.size : Nat) : Int), ((vs.toArray.size : Nat) : Int), 1) := by
    simp only [sliceBounds, Option.getD_none, show (1 : Int) > 0 by decide, if_true, if_neg (show ¬ ((b : Int) < 0) by omega)]
    congr 1
    omega
  rw [kmk_pick_nat _ e, List.size_toArray]
  show ((vs.drop (min b vs.length)).take (vs.length - min b vs.length)).toArray = _
  rw [kmk_drop_min, List.take_of_length_le (by rw [List.length_drop]; omega)]
theorem strs_drop : ∀ (b : Nat) {vs : List Value} {ys : List Str}, StrsAre vs ys → StrsAre (vs.drop b) (ys.drop b)
  | 0, _, _, h => h
  | _ + 1, _, _, .nil => .nil
  | b + 1, _, _, .cons _ _ r => strs_drop b r
theorem mul_bs : ∀ k < 32, Txt.mul (Str.ofString "\\") ((k : Nat) : Int) = ⟨(List.replicate k 92).toArray⟩ := by decide +kernel
theorem one_beq {c d : Nat} {x : Str} (hx : x.cps = #[d]) : ((⟨#[c]⟩ : Str) == x) = decide (c = d) := by
  obtain ⟨x⟩ := x
  dsimp only at hx; subst hx
  rw [Bool.eq_iff_iff]
  simp
theorem bs_cps : (Str.ofString "\\").cps = #[92] := by decide +kernel
theorem writ_next {ms : List Str} {ys : List (Nat × Nat)} {i c b k K0 n : Nat} {x : Str} {told : Str} (hyi : ys[i]? = some (c, b)) (htd : (⟨(writN (ms.map (·.cps.toList)) (ys.take i)).toArray⟩ : Str) = told) (hn : n = (ms.drop b).length)
    (hk : k = ((ms.drop b).take n).foldl (fun k m => strokeN c k m.cps.toList) K0) (hK : K0 = if c = 92 then 1 else 0) (hk3 : k ≤ 31) (hx : x.cps.toList = if c = 92 then [] else [c]) :
    (⟨(writN (ms.map (·.cps.toList)) (ys.take (i + 1))).toArray⟩ : Str) = told ++ Txt.mul (Str.ofString "\\") (k : Int) ++ x := by
  rw [mul_bs k (by omega)]
  subst hn
  rw [List.take_length] at hk
  rw [← htd]
  apply Str.ext'
  apply Array.toList_inj.mp
  show _ = (((writN (ms.map (fun m : Str => m.cps.toList)) (ys.take i)).toArray ++ (List.replicate k 92).toArray) ++ x.cps).toList
  rw [Array.toList_append, Array.toList_append, hx]
  show writN _ _ = writN _ _ ++ List.replicate k 92 ++ _
  unfold writN
  rw [List.take_add_one, hyi, List.flatMap_append]
  simp only [Option.toList_some, List.flatMap_cons, List.flatMap_nil, List.append_nil]
  rw [List.append_assoc]
  congr 1
  unfold writ1
  dsimp only
  have : strokesN c ((ms.map fun (m : Str) => m.cps.toList).drop b) = k := by
    unfold strokesN
    rw [← List.map_drop, List.foldl_map, ← hK, hk]
  rw [this]
theorem str_nil (x : Str) : x ++ (⟨#[]⟩ : Str) = x := by
  apply Str.ext'
  apply Array.toList_inj.mp
  show (x.cps ++ #[]).toList = _
  simp
theorem news_sub1 {h₀ h : Heap} {L D I : Addr} {o1 o2 : Obj} (N : News h₀ L h [(D, o1), (I, o2)]) : News h₀ L h [(I, o2)] := fun p hp => N p (.tail _ hp)
theorem spec_written {w : World} {dp un : Nat} {fr : Option (List Env)} {gd : Option (List Code)} {s : Shared} {l lay : Addr} {vs us : List Value} {ys : List (Nat × Nat)} {ms : List Str} {loose mean mg mb} {Q : Value → Shared → Prop} {E : Value → Shared → Prop}
  (X : (Mine.hd.heap_1 w.params).In s.heap) (T : Top topProg loose mean mg mb s.heap) (hd : dp < 800) (hu : un < 500)
  (hl : s.heap.IsList l vs.toArray) (hi : All2 (PairAt s.heap) vs (ys.map encP)) (hy : ys.length ≤ 20000) (hL : s.heap.IsList lay us.toArray) (hm : StrsAre us ms) (hm4 : ms.length ≤ 4) (hmm : ∀ m ∈ ms, m.length ≤ 10)
  (h : ∀ h' tk u, Grow s.heap h' → Q (.str ⟨(writN (ms.map (·.cps.toList)) ys).toArray⟩ u) { s with heap := h', toks := tk }) :
  wpAny (model PySem.Challenge.rw_re0054_01.row.prog w) (AA dp un fr gd) (call (.ref 123) [.ref l, .ref lay]) Q E s := by
  revert X; k_fill; intro X
  refine' enterK ?k1 ?k2 ?k3 ?k4 ?k5 ?k6 ?k7 ?_ ?k8 ?k9 ?k10 ?k11
  case k1 => assumption
  case k2 => exact T.nolimit
  case k3 => k_is
  case k4 => k_is
  case k5 => have : recursionLimit = 1000 := rfl; show dp < recursionLimit; omega
  case k6 => exact BindsTo.of_eq rfl
  case k7 => exact locs rfl
  case k8 => rfl
  case k9 => rfl
  case k10 => rfl
  case k11 => decide
  intro L h₁ hL' F N
  dsimp only
  k_fold
  k_steps
  unfold Hold
  rename_i F1 N1
  refine iterT_pairs (fun i m nx => ∃ u1 u2 u3 u4 t, m = (fun y => if y = Str.ofString "birth" then u1 else if y = Str.ofString "sign" then u2 else if y = Str.ofString "marked" then u3 else if y = Str.ofString "strokes" then u4 else if y = Str.ofString "told" then some (Value.str ⟨(writN (ms.map (·.cps.toList)) (ys.take i)).toArray⟩ t) else if y = Str.ofString "layers" then some (Value.ref lay) else if y = Str.ofString "items" then some (Value.ref l) else none) ∧ nx = [])
    rfl hl hi F1 N1 ?init ?turn ?done rfl rfl rfl
  case init =>
    refine' ⟨none, none, none, none, _, ?mi, rfl⟩
    case mi =>
      funext z
      by_cases e1 : z = Str.ofString "birth"
      · subst e1; rfl
      · by_cases e2 : z = Str.ofString "sign"
        · subst e2; rfl
        · by_cases e3 : z = Str.ofString "marked"
          · subst e3; rfl
          · by_cases e4 : z = Str.ofString "strokes"
            · subst e4; rfl
            · by_cases e5 : z = Str.ofString "told"
              · subst e5; rfl
              · by_cases e6 : z = Str.ofString "layers"
                · subst e6; rfl
                · by_cases e7 : z = Str.ofString "items"
                  · subst e7; rfl
                  · rw [if_neg e1, if_neg e2, if_neg e3, if_neg e4, if_neg e5, if_neg e6, if_neg e7, if_neg e5]
                    show List.lookup z [(Str.ofString "layers", Value.ref lay), (Str.ofString "items", Value.ref l)] = _
                    have e8 : (z == Str.ofString "layers") = false := beq_eq_false_iff_ne.mpr e6
                    have e9 : (z == Str.ofString "items") = false := beq_eq_false_iff_ne.mpr e7
                    simp only [List.lookup, e8, e9]
  case turn =>
    rintro i sg bi t t' m₁ nx s₁ I it hx ho ⟨u1, u2, u3, u4, t0, rfl, rfl⟩ F3 N3
    rw [List.getElem?_map] at hx
    obtain ⟨⟨c, b⟩, hyi, e⟩ := Option.map_eq_some_iff.mp hx
    simp only [encP, Prod.mk.injEq] at e
    obtain ⟨rfl, rfl⟩ := e
    clear ho hx F1 N1
    dsimp only at F3
    have hul : us.toArray.size ≤ sizeLine := by rw [List.size_toArray, strs_len hm]; exact Nat.le_trans hm4 (Nat.le_of_ble_eq_true rfl)
    generalize htd : (⟨(writN (ms.map (·.cps.toList)) (ys.take i)).toArray⟩ : Str) = told at F3
    have htl : told.length ≤ 700000 := by
      rw [← htd]
      show (writN (ms.map (·.cps.toList)) (ys.take i)).toArray.size ≤ _
      have := writN_len (ms := ms.map (·.cps.toList)) (by simpa using hm4) (ys.take i)
      rw [List.length_take] at this
      rw [List.size_toArray]
      omega
    k_steps
    · unfold Hold
      rename_i hc _ D _ F4 N4 l4
      rw [slice_drop] at N4
      refine iterV_list (its := (us.drop b).toArray) (fun j m nx => ∃ u, ∃ k : Nat, ∃ tk, m = (fun y => if y = Str.ofString "marked" then u else if y = Str.ofString "strokes" then some (Value.int (k : Int) tk) else if y = Str.ofString "birth" then some (Value.int (b : Int) t') else if y = Str.ofString "sign" then some (Value.str ⟨#[c]⟩ t) else if y = Str.ofString "told" then some (Value.str told t0) else if y = Str.ofString "layers" then some (Value.ref lay) else if y = Str.ofString "items" then some (Value.ref l) else none) ∧ nx = [(D, W.listOf (us.drop b).toArray 0), (I, it)] ∧ k = ((ms.drop b).take j).foldl (fun k m => strokeN c k m.cps.toList) 1 ∧ k < 2 ^ (j + 1))
        rfl (News.isList N4 (.head _)) (.inr ⟨_, fun _ _ _ h => by obtain ⟨_, _, _, _, e, _⟩ := h; rw [e]; exact .head _⟩) (Ne.symm (N4 _ (.head _)).2.1) F4 N4 ?init2 ?turn2 ?done2
      case init2 =>
        refine' ⟨u3, 1, _, ?mz, rfl, rfl, by decide⟩
        case mz =>
         funext z
         by_cases e1 : z = Str.ofString "marked"
         · subst e1; rfl
         · by_cases e2 : z = Str.ofString "strokes"
           · subst e2; rfl
           · by_cases e3 : z = Str.ofString "birth"
             · subst e3; rfl
             · by_cases e4 : z = Str.ofString "sign"
               · subst e4; rfl
               · simp only [if_neg e1, if_neg e2, if_neg e3, if_neg e4]
      case turn2 =>
        rintro j v m₁ nx h5 tk5 I5 it5 hv ho5 ⟨u, k, tk6, rfl, rfl, hk, hk2⟩ F5 N5
        obtain ⟨y, u5, hyj, rfl⟩ := strs_get (strs_drop b hm) j v (by simpa using hv)
        have hyl : y.length ≤ 10 := hmm y (List.mem_of_mem_drop (List.mem_of_getElem? hyj))
        have hj : j < 4 := by have := List.getElem?_eq_some_iff.mp hyj; obtain ⟨h1, _⟩ := this; rw [List.length_drop] at h1; omega
        have hk3 : k ≤ 31 := by have : 2 ^ (j + 1) ≤ 2 ^ 4 := Nat.pow_le_pow_right (by decide) (by omega); omega
        clear hv F4 N4 F3 N3
        dsimp only at F5
        k_steps
        · rename_i hoc _ F7 N7
          have hmem : c ∉ y.cps.toList := by rw [PyProof.Rows.empty_one] at hoc; simpa using hoc
          refine ⟨rfl, _, _, _, [(D, _), (I, it)], rfl, F7, N7, ho5, some (.str y u5), 2 * k + 0, _, (by
            funext z
            by_cases e1 : z = Str.ofString "marked"
            · subst e1; rfl
            · by_cases e2 : z = Str.ofString "strokes"
              · subst e2; rfl
              · simp only [if_neg e1, if_neg e2]), rfl, ?_, ?_⟩
          · rw [List.take_add_one, hyj]; simp only [Option.toList_some, List.foldl_append, List.foldl_cons, List.foldl_nil]; rw [← hk]; simp [strokeN, hmem]
          · rw [Nat.pow_succ]; omega
        · rename_i hoc _ F7 N7
          have hmem : c ∈ y.cps.toList := by rw [PyProof.Rows.empty_one] at hoc; simpa using hoc
          refine ⟨rfl, _, _, _, [(D, _), (I, it)], rfl, F7, N7, ho5, some (.str y u5), 2 * k + 1, _, (by
            funext z
            by_cases e1 : z = Str.ofString "marked"
            · subst e1; rfl
            · by_cases e2 : z = Str.ofString "strokes"
              · subst e2; rfl
              · simp only [if_neg e1, if_neg e2]), rfl, ?_, ?_⟩
          · rw [List.take_add_one, hyj]; simp only [Option.toList_some, List.foldl_append, List.foldl_cons, List.foldl_nil]; rw [← hk]; simp [strokeN, hmem]
          · rw [Nat.pow_succ]; omega
      case done2 =>
        rintro m₁ nx h5 tk5 ⟨u, k, tk6, rfl, rfl, hk, hk2⟩ F5 N5
        have hk3 : k ≤ 31 := by
          have h1 : (us.drop b).toArray.size ≤ 4 := by rw [List.size_toArray, List.length_drop, strs_len hm]; omega
          have : 2 ^ ((us.drop b).toArray.size + 1) ≤ 2 ^ 5 := Nat.pow_le_pow_right (by decide) (by omega)
          omega
        have hnn : (us.drop b).toArray.size = (ms.drop b).length := by rw [List.size_toArray, List.length_drop, List.length_drop, strs_len hm]
        have hc92 : c = 92 := by rw [one_beq bs_cps] at hc; simpa using hc
        clear F4 N4 F3 N3
        k_steps
        · have hx := (by assumption : ((⟨#[c]⟩ : Str) != Str.ofString "\\") = true)
          have : (!((⟨#[c]⟩ : Str) == Str.ofString "\\")) = true := hx
          rw [hc] at this; cases this
        · have F7 := (by assumption : Fr _ _ _ _)
          have N7 := (by assumption : News _ _ _ _)
          rw [← str_nil (told ++ Txt.mul (Str.ofString "\\") (k : Int))] at F7
          rw [← writ_next (ms := ms) hyi htd hnn hk (by rw [if_pos hc92]) hk3 (x := ⟨#[]⟩) (by rw [if_pos hc92])] at F7
          refine' ⟨rfl, _, _, _, [], rfl, F7, news_sub1 N7, (fun _ h => nomatch h), some (Value.int (b : Int) t'), some (Value.str ⟨#[c]⟩ t), u, some (Value.int (k : Int) tk6), _, ?me, rfl⟩
          case me =>
            funext z
            by_cases e1 : z = Str.ofString "told"
            · subst e1; rfl
            · by_cases e2 : z = Str.ofString "birth"
              · subst e2; rfl
              · by_cases e3 : z = Str.ofString "sign"
                · subst e3; rfl
                · by_cases e4 : z = Str.ofString "marked"
                  · subst e4; rfl
                  · by_cases e5 : z = Str.ofString "strokes"
                    · subst e5; rfl
                    · simp only [if_neg e1, if_neg e2, if_neg e3, if_neg e4, if_neg e5]
    · unfold Hold
      rename_i hc _ D _ F4 N4 l4
      rw [slice_drop] at N4
      refine iterV_list (its := (us.drop b).toArray) (fun j m nx => ∃ u, ∃ k : Nat, ∃ tk, m = (fun y => if y = Str.ofString "marked" then u else if y = Str.ofString "strokes" then some (Value.int (k : Int) tk) else if y = Str.ofString "birth" then some (Value.int (b : Int) t') else if y = Str.ofString "sign" then some (Value.str ⟨#[c]⟩ t) else if y = Str.ofString "told" then some (Value.str told t0) else if y = Str.ofString "layers" then some (Value.ref lay) else if y = Str.ofString "items" then some (Value.ref l) else none) ∧ nx = [(D, W.listOf (us.drop b).toArray 0), (I, it)] ∧ k = ((ms.drop b).take j).foldl (fun k m => strokeN c k m.cps.toList) 0 ∧ k < 2 ^ (j + 1))
        rfl (News.isList N4 (.head _)) (.inr ⟨_, fun _ _ _ h => by obtain ⟨_, _, _, _, e, _⟩ := h; rw [e]; exact .head _⟩) (Ne.symm (N4 _ (.head _)).2.1) F4 N4 ?init2 ?turn2 ?done2
      case init2 =>
        refine' ⟨u3, 0, _, ?mz, rfl, rfl, by decide⟩
        case mz =>
         funext z
         by_cases e1 : z = Str.ofString "marked"
         · subst e1; rfl
         · by_cases e2 : z = Str.ofString "strokes"
           · subst e2; rfl
           · by_cases e3 : z = Str.ofString "birth"
             · subst e3; rfl
             · by_cases e4 : z = Str.ofString "sign"
               · subst e4; rfl
               · simp only [if_neg e1, if_neg e2, if_neg e3, if_neg e4]
      case turn2 =>
        rintro j v m₁ nx h5 tk5 I5 it5 hv ho5 ⟨u, k, tk6, rfl, rfl, hk, hk2⟩ F5 N5
        obtain ⟨y, u5, hyj, rfl⟩ := strs_get (strs_drop b hm) j v (by simpa using hv)
        have hyl : y.length ≤ 10 := hmm y (List.mem_of_mem_drop (List.mem_of_getElem? hyj))
        have hj : j < 4 := by have := List.getElem?_eq_some_iff.mp hyj; obtain ⟨h1, _⟩ := this; rw [List.length_drop] at h1; omega
        have hk3 : k ≤ 31 := by have : 2 ^ (j + 1) ≤ 2 ^ 4 := Nat.pow_le_pow_right (by decide) (by omega); omega
        clear hv F4 N4 F3 N3
        dsimp only at F5
        k_steps
        · rename_i hoc _ F7 N7
          have hmem : c ∉ y.cps.toList := by rw [PyProof.Rows.empty_one] at hoc; simpa using hoc
          refine ⟨rfl, _, _, _, [(D, _), (I, it)], rfl, F7, N7, ho5, some (.str y u5), 2 * k + 0, _, (by
            funext z
            by_cases e1 : z = Str.ofString "marked"
            · subst e1; rfl
            · by_cases e2 : z = Str.ofString "strokes"
              · subst e2; rfl
              · simp only [if_neg e1, if_neg e2]), rfl, ?_, ?_⟩
          · rw [List.take_add_one, hyj]; simp only [Option.toList_some, List.foldl_append, List.foldl_cons, List.foldl_nil]; rw [← hk]; simp [strokeN, hmem]
          · rw [Nat.pow_succ]; omega
        · rename_i hoc _ F7 N7
          have hmem : c ∈ y.cps.toList := by rw [PyProof.Rows.empty_one] at hoc; simpa using hoc
          refine ⟨rfl, _, _, _, [(D, _), (I, it)], rfl, F7, N7, ho5, some (.str y u5), 2 * k + 1, _, (by
            funext z
            by_cases e1 : z = Str.ofString "marked"
            · subst e1; rfl
            · by_cases e2 : z = Str.ofString "strokes"
              · subst e2; rfl
              · simp only [if_neg e1, if_neg e2]), rfl, ?_, ?_⟩
          · rw [List.take_add_one, hyj]; simp only [Option.toList_some, List.foldl_append, List.foldl_cons, List.foldl_nil]; rw [← hk]; simp [strokeN, hmem]
          · rw [Nat.pow_succ]; omega
      case done2 =>
        rintro m₁ nx h5 tk5 ⟨u, k, tk6, rfl, rfl, hk, hk2⟩ F5 N5
        have hk3 : k ≤ 31 := by
          have h1 : (us.drop b).toArray.size ≤ 4 := by rw [List.size_toArray, List.length_drop, strs_len hm]; omega
          have : 2 ^ ((us.drop b).toArray.size + 1) ≤ 2 ^ 5 := Nat.pow_le_pow_right (by decide) (by omega)
          omega
        have hnn : (us.drop b).toArray.size = (ms.drop b).length := by rw [List.size_toArray, List.length_drop, List.length_drop, strs_len hm]
        have hc92 : c ≠ 92 := by rw [one_beq bs_cps] at hc; simpa using hc
        clear F4 N4 F3 N3
        k_steps
        · have F7 := (by assumption : Fr _ _ _ _)
          have N7 := (by assumption : News _ _ _ _)
          rw [← writ_next (ms := ms) hyi htd hnn hk (by rw [if_neg hc92]) hk3 (x := ⟨#[c]⟩) (by rw [if_neg hc92])] at F7
          refine' ⟨rfl, _, _, _, [], rfl, F7, news_sub1 N7, (fun _ h => nomatch h), some (Value.int (b : Int) t'), some (Value.str ⟨#[c]⟩ t), u, some (Value.int (k : Int) tk6), _, ?me, rfl⟩
          case me =>
            funext z
            by_cases e1 : z = Str.ofString "told"
            · subst e1; rfl
            · by_cases e2 : z = Str.ofString "birth"
              · subst e2; rfl
              · by_cases e3 : z = Str.ofString "sign"
                · subst e3; rfl
                · by_cases e4 : z = Str.ofString "marked"
                  · subst e4; rfl
                  · by_cases e5 : z = Str.ofString "strokes"
                    · subst e5; rfl
                    · simp only [if_neg e1, if_neg e2, if_neg e3, if_neg e4, if_neg e5]
        · have hx := (by assumption : ((⟨#[c]⟩ : Str) != Str.ofString "\\") = false)
          have : (!((⟨#[c]⟩ : Str) == Str.ofString "\\")) = false := hx
          rw [hc] at this; cases this
  case done =>
    rintro m₁ nx h3 tk3 ⟨u1, u2, u3, u4, t0, rfl, rfl⟩ F3 N3
    rw [List.length_map, List.take_length] at F3
    k_steps
    exact h _ _ _ (Fr.keep (by assumption))
end Mine
end
section
open PySem PySem.W PySem.W.X PyProof.Rows PySem.Spec PySem.Calls
set_option Elab.async false
set_option maxRecDepth 100000
namespace Mine
noncomputable def NewPair (g h : Heap) (v : Value) (p : Str × Int) : Prop := ∃ T t t', v = .ref T ∧ g.get? T = none ∧ IsTup h T #[.str p.1 t, .int p.2 t']
noncomputable def OffPair (g h : Heap) (I C D : Addr) (v : Value) (p : Str × Int) : Prop := ∃ T t t', v = .ref T ∧ g.get? T = none ∧ T ≠ I ∧ T ≠ C ∧ T ≠ D ∧ IsTup h T #[.str p.1 t, .int p.2 t']
theorem OffPair.keep {g h h' : Heap} {I C D : Addr} (k : ∀ b o, b ≠ I → b ≠ C → b ≠ D → h.get? b = some o → h'.get? b = some o) {v : Value} {p : Str × Int} (x : OffPair g h I C D v p) : OffPair g h' I C D v p := by
  obtain ⟨T, t, t', e, h1, h2, h3, h4, o, ho, r⟩ := x
  exact ⟨T, t, t', e, h1, h2, h3, h4, o, k _ _ h2 h3 h4 ho, r⟩
theorem live_ne {h : Heap} {a b : Addr} {o : Obj} (ha : h.get? a = none) (hb : h.get? b = some o) : a ≠ b := by
  rintro rfl; rw [ha] at hb; cases hb
section
variable {prog : Program} {w : World} {A : Around} {E : Value → Shared → Prop} {env : Env}
theorem pyIter_text {s : Shared} {x : Str} {t : Tok} {Q : Value → Shared → Prop}
    (hQ : ∀ (o : Obj) (St : Nat → Heap → Prop), (∀ A' : Around, A'.handled = none → Walks prog w A' s.heap.objs.size [s.heap.objs.size] [s.heap.objs.size] x.cps.size (SignAt x) St) → (∀ i h, St i h → ∃ o, h.get? s.heap.objs.size = some o) → St 0 (s.heap.push o) →
      Q (.ref s.heap.objs.size) { s with heap := s.heap.push o }) : wpAny (model prog w) A (pyIter (.str x t)) Q E s := by
  cases ha : x.cps.all (· < 128)
  · exact wpAny_pyIter_wide ha (hQ _ _ (fun A' hA => Walks.strWide hA _ x t) (fun _ _ st => let ⟨o, ho, _⟩ := st; ⟨o, ho⟩) ⟨_, Heap.get?_push_size _ rfl, rfl, rfl⟩)
  · exact wpAny_pyIter_ascii ha (hQ _ _ (fun A' hA => Walks.strAscii hA _ x t) (fun _ _ st => let ⟨o, ho, _⟩ := st; ⟨o, ho⟩) ⟨_, Heap.get?_push_size _ rfl, rfl, rfl⟩)
theorem comp_core {s₁ : Shared} {elt iter : Expr} {x : Str} {px : Pos} {scope : Scope} {cl : List (Str × Addr)} {pos : Pos} {k : Int} {y : Str} {t : Tok} {RR : Value → Addr → Result → Shared → Prop}
    (hh : A.handled = none) (hcell : ∀ y ∈ scope.names, y.2 ≠ .cell) (hkind : scope.kind = .function) (hx : scope.names.lookup x = some .local) (hsz : y.cps.size ≤ sizeLine)
    (helt : ∀ C c t₁ s₃ m₃ (Q' : Value → Shared → Prop) E', s₃.heap.Ns C m₃ → m₃ x = some (.str ⟨#[c]⟩ t₁) → (∀ b o, s₁.heap.get? b = some o → s₃.heap.get? b = some o) →
        (∀ T h' tk t₂ t₃, (∀ b o, s₃.heap.get? b = some o → h'.get? b = some o) → s₃.heap.get? T = none → IsTup h' T #[.str ⟨#[c]⟩ t₂, .int k t₃] → Q' (.ref T) { s₃ with heap := h', toks := tk }) →
        wpAny (model prog w) A (eval elt (compEnvC scope cl C env)) Q' E' s₃)
    (fin : ∀ D C (vs : List Value) n h' tk m', (∀ b o, s₁.heap.get? b = some o → h'.get? b = some o) → s₁.heap.get? D = none → s₁.heap.get? C = none → D ≠ C → h'.Ns C m' → h'.get? D = some (W.listOf vs.toArray n) →
        All2 (fun v p => NewPair s₁.heap h' v p ∧ v ≠ .ref C) vs (y.cps.toList.map fun c => ((⟨#[c]⟩ : Str), k)) → (∀ v ∈ vs, v ≠ .ref D) → RR (.ref D) C (.ok .next) { s₁ with heap := h', toks := tk }) :
    wpAny (model prog w) A (pyIter (.str y t)) (fun it s₂ => wpAny (model prog w) A (newList []) (fun acc s₃ => wpAny (model prog w) A (newFunctionEnv scope env.globals cl [] env.qual none .none (some env)) (fun cenv s₄ =>
      codeAny (model prog w) A (.compStart (.ListComp elt [⟨.Name x px, iter, [], 0⟩] scope pos) 0 it acc { cenv with scope := relabel scope env }) (RR acc cenv.locals) s₄) E s₃) E s₂) E s₁ := by
  refine pyIter_text fun oI St W0 hlive hst => ?_
  have Wk := W0 A hh
  refine wpAny_newObj_type (wpAny_newFunctionEnv hcell (by intro y hy; simp at hy) (fun h₁ hns₁ hsb₁ => ?_) hkind)
  dsimp only at hns₁ hsb₁ ⊢
  generalize hI : s₁.heap.objs.size = I at *
  generalize hH1 : s₁.heap.push oI = H1 at *
  have hH1s : H1.objs.size = I + 1 := by rw [← hH1, Heap.size_push, hI]
  generalize hD : H1.objs.size = D at *
  generalize hH2 : H1.push { cls := .type "list", dict := none, data := .seq ([] : List Value).toArray } = H2 at *
  have hC0 : H2.objs.size = D + 1 := by rw [← hH2, Heap.size_push, hD]
  generalize hC : H2.objs.size = C at *
  have hID : I ≠ D := by rw [hH1s]; exact Nat.ne_of_lt (Nat.lt_succ_self _)
  have hDC : D ≠ C := by rw [hC0]; exact Nat.ne_of_lt (Nat.lt_succ_self _)
  have hIC : I ≠ C := by rw [hC0, hH1s]; exact Nat.ne_of_lt (Nat.lt_succ_of_lt (Nat.lt_succ_self _))
  have below : ∀ b o, s₁.heap.get? b = some o → b ≠ I ∧ b ≠ D ∧ b ≠ C := fun b o e => by
    have := Heap.lt_size e
    rw [hI] at this
    refine ⟨Nat.ne_of_lt this, ?_, ?_⟩
    · rw [hH1s]; exact Nat.ne_of_lt (Nat.lt_succ_of_lt this)
    · rw [hC0, hH1s]; exact Nat.ne_of_lt (Nat.lt_succ_of_lt (Nat.lt_succ_of_lt this))
  have old : ∀ b o, s₁.heap.get? b = some o → h₁.get? b = some o := fun b o e =>
    hsb₁.extBut b o (below b o e).2.2 (Heap.get?_push_of_some _ (hH2 ▸ Heap.get?_push_of_some _ (hH1 ▸ Heap.get?_push_of_some _ e)))
  have fresh : ∀ a, I ≤ a → s₁.heap.get? a = none := fun a ha => by
    cases e : s₁.heap.get? a with
    | none => rfl
    | some o' => have := Heap.lt_size e; rw [hI] at this; exact absurd this (Nat.not_lt.mpr ha)
  have hDn : s₁.heap.get? D = none := fresh _ (by rw [hH1s]; exact Nat.le_succ _)
  have hCn : s₁.heap.get? C = none := fresh _ (by rw [hC0, hH1s]; exact Nat.le_succ_of_le (Nat.le_succ _))
  have up₁ : ∀ b o, H1.get? b = some o → h₁.get? b = some o := fun b o e => by
    have hb := Heap.lt_size e
    rw [hD] at hb
    exact hsb₁.extBut b o (by rw [hC0]; exact Nat.ne_of_lt (Nat.lt_succ_of_lt hb)) (Heap.get?_push_of_some _ (hH2 ▸ Heap.get?_push_of_some _ e))
  have hst₁ : St 0 h₁ := Wk.frame _ _ _ hst fun b _ o e => up₁ b o e
  have hacc : h₁.get? D = some (W.listOf ([] : List Value).toArray 0) := hsb₁.extBut _ _ hDC (Heap.get?_push_of_some _ (by rw [← hH2, ← hD]; exact Heap.get?_push_size _ rfl))
  have hDf : D ∉ [I] := fun q => hID (List.mem_singleton.mp q).symm
  have hCf : C ∉ [I] := fun q => hIC (List.mem_singleton.mp q).symm
  have loop : ∀ s₃ : Shared, s₃ = { s₁ with heap := h₁, toks := s₁.toks + ([] : List (Str × Value)).length } →
      codeAny (model prog w) A (.compLoop (.ListComp elt [⟨.Name x px, iter, [], 0⟩] scope pos) 0 (.ref I) (.ref D) (compEnvC scope cl C env))
        (RR (.ref D) C) s₃ := by
    rintro s₃ rfl
    refine kcp_loop
      (fun k' s' => ∃ h' tk i ys m' n, s' = { s₁ with heap := h', toks := tk } ∧ i ≤ y.cps.size ∧ k' = y.cps.size + 1 - i ∧ (ys : List Value).length = i ∧ St i h' ∧ h'.Ns C m' ∧ h'.get? D = some (W.listOf ys.toArray n) ∧
        (∀ b o, s₁.heap.get? b = some o → h'.get? b = some o) ∧ All2 (OffPair s₁.heap h' I C D) ys ((y.cps.toList.take i).map fun c => ((⟨#[c]⟩ : Str), k))) ?_ (y.cps.size + 1)
      ⟨h₁, _, 0, [], _, 0, rfl, Nat.zero_le _, rfl, rfl, hst₁, hns₁, hacc, old, .nil⟩
    rintro k' s' ⟨h', tk, i, ys, m', n, rfl, hi, rfl, hyl, hst', hn', hD', hk', hA⟩
    by_cases hlt : i < y.cps.size
    · refine Wk.item i _ _ _ hlt hst' fun v h₂ tk₂ hPv hst₂ hk₂ => ?_
      obtain ⟨c, u, hc, rfl⟩ := hPv
      refine wpAny_of_eq (by rfl) ?_
      refine wpAny_assign_Name (wpAny_storeName_local (lookup_relabel_local hx) (hn'.at' fun o e => hk₂ _ o hCf e) (fun h₃ hn₃ hs₃ => ?_) (by simp [compEnvC, relabel, hkind]))
      have up₃ : ∀ b o, b ≠ I → b ≠ C → h'.get? b = some o → h₃.get? b = some o := fun b o hb1 hb2 e => hs₃.extBut b o hb2 (hk₂ b o (fun q => hb1 (List.mem_singleton.mp q)) e)
      refine helt C c u _ _ _ _ hn₃ (by simp) (fun b o e => up₃ b o (below b o e).1 (below b o e).2.2 (hk' b o e)) ?_
      intro T h₄ tk₄ t₂ t₃ hk₄ hT hTup
      have hDD : h₃.get? D = some (W.listOf ys.toArray n) := up₃ _ _ (Ne.symm hID) hDC hD'
      have hTD : T ≠ D := live_ne hT hDD
      have hTC : T ≠ C := by obtain ⟨oC, _, _, ho, _⟩ := hn₃; exact live_ne hT ho
      have hst₃ : St (i + 1) h₃ := Wk.frame _ _ _ hst₂ fun b hb o e => hs₃.extBut b o (fun q => hCf (by have q' : b = C := q; rw [← q']; exact hb)) e
      have hI₃ : ∃ o, h₃.get? I = some o := hlive _ _ hst₃
      have hTI : T ≠ I := by obtain ⟨o, ho⟩ := hI₃; exact live_ne hT ho
      have hTs : s₁.heap.get? T = none := by
        cases e : s₁.heap.get? T with
        | none => rfl
        | some o => exact absurd rfl (live_ne hT (up₃ T o (below T o e).1 (below T o e).2.2 (hk' T o e)))
      refine append_at (hsz := by show ys.toArray.size ≤ sizeLine; rw [List.size_toArray, hyl]; exact Nat.le_trans hi hsz) (hk₄ _ _ hDD) fun h₅ hs₅ hD₅ => ?_
      have up₅ : ∀ b o, b ≠ I → b ≠ C → b ≠ D → h'.get? b = some o → h₅.get? b = some o := fun b o b1 b2 b3 e => hs₅.extBut b o b3 (hk₄ _ _ (up₃ b o b1 b2 e))
      refine ⟨y.cps.size + 1 - (i + 1), by omega, h₅, tk₄, i + 1, ys ++ [.ref T], _, n + 1, rfl, hlt, rfl, by rw [List.length_append, List.length_singleton, hyl], Wk.frame _ _ _ hst₃ fun b hb o e => hs₅.extBut b o (fun q => hDf (q ▸ hb)) (hk₄ _ _ e), (hn₃.keeps hk₄).sameBut hs₅ (Ne.symm hDC), ?_, ?_, ?_⟩
      · rw [hD₅, List.push_toArray]
      · exact fun b o e => up₅ b o (below b o e).1 (below b o e).2.2 (below b o e).2.1 (hk' b o e)
      · rw [List.take_add_one, List.map_append]
        refine (hA.mono fun _ _ => OffPair.keep up₅).append ?_
        rw [show y.cps.toList[i]? = some c by simpa using hc]
        obtain ⟨oT, hoT, r⟩ := hTup
        exact .cons ⟨T, t₂, t₃, rfl, hTs, hTI, hTC, hTD, oT, hs₅.extBut _ _ hTD hoT, r⟩ .nil
    · obtain rfl : i = y.cps.size := Nat.le_antisymm hi (Nat.not_lt.mp hlt)
      refine Wk.done _ _ _ hst' fun h₂ tk₂ hk₂ => ?_
      have up₂ : ∀ b o, b ≠ I → h'.get? b = some o → h₂.get? b = some o := fun b o b1 e => hk₂ b o (fun q => b1 (List.mem_singleton.mp q)) e
      refine fin D C ys n h₂ tk₂ m' (fun b o e => up₂ b o (below b o e).1 (hk' b o e)) hDn hCn hDC (hn'.at' fun o e => up₂ _ o (Ne.symm hIC) e) (up₂ _ _ (Ne.symm hID) hD') ?_ ?_
      · rw [List.take_of_length_le (by simp)] at hA
        refine hA.mono fun v p x => ?_
        obtain ⟨T, a, b, rfl, h1, h2, h3, h4, h5⟩ := x.keep (h' := h₂) fun b o b1 b2 _ e => up₂ b o b1 e
        exact ⟨⟨T, a, b, rfl, h1, h5⟩, fun e => by cases e; exact h3 rfl⟩
      · intro v hv
        obtain ⟨j, hj⟩ := List.getElem?_of_mem hv
        obtain ⟨_, _, T, _, _, rfl, _, _, _, hTD, _⟩ := hA.get hj
        intro e; cases e; exact hTD rfl
  exact codeAny_compStart_list (loop _ rfl) (Wk.self 0 _ _ _ hst₁ (loop _ rfl))
theorem comp_text {s : Shared} {elt iter : Expr} {x : Str} {px : Pos} {scope : Scope} {cl : List (Str × Addr)} {pos : Pos} {k : Int} {Q : Value → Shared → Prop}
    (hh : A.handled = none) (hclos : closureFor scope env = pure cl) (hcell : ∀ y ∈ scope.names, y.2 ≠ .cell) (hkind : scope.kind = .function)
    (hnames : ∀ y ∈ scope.names, y.2 = .local → scope.names.lookup y.1 = some .local) (hx : scope.names.lookup x = some .local)
    (h : wpAny (model prog w) A (eval iter env) (fun xv s₁ => ∃ y t, xv = .str y t ∧ y.cps.size ≤ sizeLine ∧
      (∀ C c t₁ s₃ m₃ (Q' : Value → Shared → Prop) E', s₃.heap.Ns C m₃ → m₃ x = some (.str ⟨#[c]⟩ t₁) → (∀ b o, s₁.heap.get? b = some o → s₃.heap.get? b = some o) →
        (∀ T h' tk t₂ t₃, (∀ b o, s₃.heap.get? b = some o → h'.get? b = some o) → s₃.heap.get? T = none → IsTup h' T #[.str ⟨#[c]⟩ t₂, .int k t₃] → Q' (.ref T) { s₃ with heap := h', toks := tk }) →
        wpAny (model prog w) A (eval elt (compEnvC scope cl C env)) Q' E' s₃) ∧
      (∀ D (vs : List Value) n h' tk, (∀ b o, s₁.heap.get? b = some o → h'.get? b = some o) → s₁.heap.get? D = none → h'.get? D = some (W.listOf vs.toArray n) →
        All2 (NewPair s₁.heap h') vs (y.cps.toList.map fun c => ((⟨#[c]⟩ : Str), k)) → (∀ v ∈ vs, v ≠ .ref D) → Q (.ref D) { s₁ with heap := h', toks := tk })) E s)
    (hs : ∀ x, foldedSetIterable iter env x = pure x := by intro _; rfl) :
    wpAny (model prog w) A (eval (.ListComp elt [⟨.Name x px, iter, [], 0⟩] scope pos) env) Q E s := by
  rw [eval_ListComp]
  refine wpAny_comprehension_free (use := none) rfl hs hclos hkind hnames (wpAny_mono h (fun xv s₁ h₁ => ?_) fun _ _ e => e)
  obtain ⟨y, t, rfl, hsz, helt, done⟩ := h₁
  refine comp_core hh hcell hkind hx hsz helt ?_
  intro D C vs n h' tk m' hk hD hC hDC hn hD' hA hne
  refine ⟨m', hn, fun h'' hs'' => ?_⟩
  have up : ∀ b o, s₁.heap.get? b = some o → h''.get? b = some o := fun b o e => hs''.extBut b o (by rintro rfl; rw [hC] at e; cases e) (hk b o e)
  refine done D vs n h'' tk up hD (hs''.extBut _ _ hDC hD') (hA.mono fun v p x => ?_) hne
  obtain ⟨⟨T, a, b, rfl, h1, o, ho, r⟩, h2⟩ := x
  exact ⟨T, a, b, rfl, h1, o, hs''.extBut _ _ (fun e => h2 (by rw [e])) ho, r⟩
theorem assign_comp_text {s : Shared} {elt iter : Expr} {x z : Str} {px pz : Pos} {scope : Scope} {cl : List (Str × Addr)} {pos spos : Pos} {k : Int} {Q : Flow → Shared → Prop}
    (hh : A.handled = none) (hsw : swapsWith (.ListComp elt [⟨.Name x px, iter, [], 0⟩] scope pos) (some (.Name z pz)) spos.line env = pure true)
    (hclos : closureFor scope env = pure cl) (hcell : ∀ y ∈ scope.names, y.2 ≠ .cell) (hkind : scope.kind = .function)
    (hnames : ∀ y ∈ scope.names, y.2 = .local → scope.names.lookup y.1 = some .local) (hx : scope.names.lookup x = some .local)
    (hy : env.kindOf z = some .local) (hp : (env.scope.kind == .class || (env.scope.kind == .module && env.locals != env.globals)) = false)
    (h : wpAny (model prog w) A (eval iter env) (fun xv s₁ => ∃ y t m, xv = .str y t ∧ y.cps.size ≤ sizeLine ∧ s₁.heap.Ns env.locals m ∧
      (∀ C c t₁ s₃ m₃ (Q' : Value → Shared → Prop) E', s₃.heap.Ns C m₃ → m₃ x = some (.str ⟨#[c]⟩ t₁) → (∀ b o, s₁.heap.get? b = some o → s₃.heap.get? b = some o) →
        (∀ T h' tk t₂ t₃, (∀ b o, s₃.heap.get? b = some o → h'.get? b = some o) → s₃.heap.get? T = none → IsTup h' T #[.str ⟨#[c]⟩ t₂, .int k t₃] → Q' (.ref T) { s₃ with heap := h', toks := tk }) →
        wpAny (model prog w) A (eval elt (compEnvC scope cl C env)) Q' E' s₃) ∧
      (∀ D (vs : List Value) n h' tk, (∀ b o, b ≠ env.locals → s₁.heap.get? b = some o → h'.get? b = some o) → h'.Ns env.locals (fun u => if u = z then some (.ref D) else m u) → s₁.heap.get? D = none → h'.get? D = some (W.listOf vs.toArray n) →
        All2 (NewPair s₁.heap h') vs (y.cps.toList.map fun c => ((⟨#[c]⟩ : Str), k)) → (∀ v ∈ vs, v ≠ .ref D) → Q .next { s₁ with heap := h', toks := tk })) E s)
    (hs : ∀ x, foldedSetIterable iter env x = pure x := by intro _; rfl) :
    wpAny (model prog w) A (exec (.Assign [.Name z pz] (.ListComp elt [⟨.Name x px, iter, [], 0⟩] scope pos) spos) env) Q E s := by
  rw [exec_Assign_Name_used _ _ _ _ hsw]
  refine wpAny_bind (wpAny_standAt (wpAny_bind ?_))
  show wpAny _ A (do let _ ← comprehension (.ListComp elt [⟨.Name x px, iter, [], 0⟩] scope pos) scope env _ (newList []) false (eval iter env) (some (assign (.Name z pz) env))) _ _ s
  refine wpAny_bind (wpAny_mono (wpAny_comprehension_free (use := some (assign (.Name z pz) env)) (Q := fun _ s' => Q .next s') rfl hs hclos hkind hnames
    (wpAny_mono h (fun xv s₁ h₁ => ?_) fun _ _ e => e)) (fun _ s' hq => wpAny_pure (wpAny_pure hq)) fun _ _ e => e)
  obtain ⟨y, t, m, rfl, hsz, hns, helt, done⟩ := h₁
  refine comp_core hh hcell hkind hx hsz helt ?_
  intro D C vs n h' tk m' hk hD hC hDC hn hD' hA hne
  have hLC : env.locals ≠ C := by obtain ⟨o, _, _, ho, _⟩ := hns; exact Ne.symm (live_ne hC ho)
  have hLD : env.locals ≠ D := by obtain ⟨o, _, _, ho, _⟩ := hns; exact Ne.symm (live_ne hD ho)
  show wpAny _ A (assign (.Name z pz) env (.ref D)) _ _ _
  refine wpAny_assign_Name (wpAny_storeName_local hy (hns.keeps hk) (fun h₂ hn₂ hs₂ => ?_) hp)
  refine ⟨m', hn.sameBut hs₂ (Ne.symm hLC), fun h'' hs'' => ?_⟩
  have up : ∀ b o, b ≠ env.locals → s₁.heap.get? b = some o → h''.get? b = some o := fun b o bL e => hs''.extBut b o (by rintro rfl; rw [hC] at e; cases e) (hs₂.extBut b o bL (hk b o e))
  refine done D vs n h'' _ up (hn₂.sameBut hs'' hLC) hD (hs''.extBut _ _ hDC (hs₂.extBut _ _ (Ne.symm hLD) hD')) (hA.mono fun v p x => ?_) hne
  obtain ⟨⟨T, a, b, rfl, h1, o, ho, r⟩, h2⟩ := x
  have hTL : T ≠ env.locals := by obtain ⟨_, _, _, ho, _⟩ := hns; exact live_ne h1 ho
  exact ⟨T, a, b, rfl, h1, o, hs''.extBut _ _ (fun e => h2 (by rw [e])) (hs₂.extBut _ _ hTL ho), r⟩
end
end Mine
end
section
open PySem PySem.W PySem.W.X PyProof.Rows PySem.Spec PySem.Calls
set_option Elab.async false
set_option maxRecDepth 100000
namespace Mine
noncomputable def Opq (P : Value → Shared → Prop) (v : Value) (s : Shared) : Prop := P v s
noncomputable def PairIn (tl : List (Addr × Obj)) (v : Value) (p : Str × Int) : Prop := ∃ T o t t', ∃ n : Nat, v = .ref T ∧ (T, o) ∈ tl ∧ o.cls = .type "tuple" ∧ o.data = .seq #[.str p.1 t, .int p.2 t'] n
theorem PairIn.mono {tl tl' : List (Addr × Obj)} (k : ∀ q ∈ tl, q ∈ tl') {v : Value} {p : Str × Int} (x : PairIn tl v p) : PairIn tl' v p := by
  obtain ⟨T, o, t, t', n, e, h, r⟩ := x
  exact ⟨T, o, t, t', n, e, k _ h, r⟩
theorem PairIn.at {tl : List (Addr × Obj)} {h : Heap} (k : ∀ q ∈ tl, h.get? q.1 = some q.2) {v : Value} {p : Str × Int} (x : PairIn tl v p) : PairAt h v p := by
  obtain ⟨T, o, t, t', n, e, hm, hc, hd⟩ := x
  exact ⟨T, t, t', e, o, k _ hm, hc, n, hd⟩
theorem gather {g h : Heap} {vs : List Value} {ps : List (Str × Int)} (H : All2 (NewPair g h) vs ps) : ∃ tl, All2 (PairIn tl) vs ps ∧ ∀ q ∈ tl, h.get? q.1 = some q.2 ∧ g.get? q.1 = none := by
  induction H with
  | nil => exact ⟨[], .nil, fun _ h => (by cases h)⟩
  | cons x r ih =>
    obtain ⟨tl, h1, h2⟩ := ih
    obtain ⟨T, t, t', e, hn, o, ho, hc, n, hd⟩ := x
    refine ⟨(T, o) :: tl, .cons ⟨T, o, t, t', n, e, .head _, hc, hd⟩ (h1.mono fun _ _ => PairIn.mono fun _ h => .tail _ h), ?_⟩
    intro q hq
    rcases List.mem_cons.mp hq with rfl | hq
    · exact ⟨ho, hn⟩
    · exact h2 q hq
section
variable {prog : Program} {w : World} {A : Around} {E : Value → Shared → Prop} {env : Env}
noncomputable def EltPair (prog : Program) (w : World) (A : Around) (elt : Expr) (scope : Scope) (cl : List (Str × Addr)) (env : Env) (x : Str) (k : Int) (s₁ : Shared) : Prop :=
  ∀ C c t₁ s₃ m₃ (Q' : Value → Shared → Prop) E', s₃.heap.Ns C m₃ → m₃ x = some (.str ⟨#[c]⟩ t₁) → (∀ b o, s₁.heap.get? b = some o → s₃.heap.get? b = some o) →
        (∀ T h' tk t₂ t₃, (∀ b o, s₃.heap.get? b = some o → h'.get? b = some o) → s₃.heap.get? T = none → IsTup h' T #[.str ⟨#[c]⟩ t₂, .int k t₃] → Q' (.ref T) { s₃ with heap := h', toks := tk }) →
        wpAny (model prog w) A (eval elt (compEnvC scope cl C env)) Q' E' s₃
theorem elt_gen {x : Str} {p1 tp : Pos} {kk : Nat} {e2 : Expr} {scope : Scope} {cl : List (Str × Addr)} {k : Int} {s₁ : Shared} (hkind : scope.kind = .function) (hx : scope.names.lookup x = some .local) (hd : (x == ("__debug__" : Str)) = false)
    (he : ∀ env, starEach [e2] env = [(false, eval e2 env)])
    (h2 : ∀ C (s₃ : Shared) (Q' : Value → Shared → Prop) E', (∀ b o, s₁.heap.get? b = some o → s₃.heap.get? b = some o) → (∀ tk t, Q' (.int k t) { s₃ with toks := tk }) → wpAny (model prog w) A (eval e2 (compEnvC scope cl C env)) Q' E' s₃) :
    EltPair prog w A (.Tuple [.Name x p1, e2] kk tp) scope cl env x k s₁ := by
  intro C c t₁ s₃ m₃ Q' E' hn hm hk hQ
  refine wpAny_Tuple (wpAny_items_cons ?_ (by rfl))
  refine wpAny_Name (wpAny_loadName_local (by simp [compEnvC, relabel, hkind]) (lookup_relabel_local hx) hn hm ?_) hd
  refine wpAny_items_cons ?_ (by rw [he]; rfl)
  refine h2 C s₃ _ _ hk fun tk t => ?_
  refine wpAny_items_nil ⟨Nat.le_of_ble_eq_true rfl, ?_⟩
  refine hQ _ _ _ t₁ t (fun b o e => Heap.get?_push_of_some _ e) ?_ ⟨_, Heap.get?_push_size _ rfl, rfl, _, rfl⟩
  cases e : s₃.heap.get? s₃.heap.objs.size with
  | none => rfl
  | some o => exact absurd (Heap.lt_size e) (Nat.lt_irrefl _)
theorem elt_cell {x z : Str} {p1 p2 tp : Pos} {kk : Nat} {scope : Scope} {cl : List (Str × Addr)} {k : Int} {t : Tok} {c : Addr} {o : Obj} {s₁ : Shared} (hkind : scope.kind = .function) (hx : scope.names.lookup x = some .local) (hd : (x == ("__debug__" : Str)) = false) (hd2 : (z == ("__debug__" : Str)) = false)
    (hz : (relabel scope env).names.lookup z = some .cell) (hc : cl.lookup z = some c) (ho : s₁.heap.get? c = some o) (hod : o.data = .cell (some (.int k t))) :
    EltPair prog w A (.Tuple [.Name x p1, .Name z p2] kk tp) scope cl env x k s₁ :=
  elt_gen hkind hx hd (fun _ => rfl) fun C s₃ Q' E' hk hQ => wpAny_Name (wpAny_loadName_cell (by simp [compEnvC, relabel, hkind]) hz hc ⟨o, hk _ _ ho, hod⟩ (hQ s₃.toks t)) hd2
theorem elt_const {x : Str} {p1 p2 tp : Pos} {kk kk2 : Nat} {scope : Scope} {cl : List (Str × Addr)} {s₁ : Shared} (hkind : scope.kind = .function) (hx : scope.names.lookup x = some .local) (hd : (x == ("__debug__" : Str)) = false) :
    EltPair prog w A (.Tuple [.Name x p1, .Constant (.int 0) kk2 p2] kk tp) scope cl env x 0 s₁ :=
  elt_gen hkind hx hd (fun _ => rfl) fun C s₃ Q' E' _ hQ => fun _ _ _ => hQ _ _
theorem comp_news {h₀ g h' : Heap} {L D : Addr} {m : Str → Option Value} {news : List (Addr × Obj)} {vs : List Value} {n : Nat} {ps : List (Str × Int)} (F : Fr h₀ L g m) (N : News h₀ L g news) (hk : ∀ b o, b ≠ L → g.get? b = some o → h'.get? b = some o) (hD : g.get? D = none) (hD' : h'.get? D = some (W.listOf vs.toArray n))
    (hA : All2 (NewPair g h') vs ps) (hne : ∀ v ∈ vs, v ≠ .ref D) : ∃ tl, News h₀ L h' ((D, W.listOf vs.toArray n) :: (tl ++ news)) ∧ All2 (PairIn tl) vs ps ∧ (∀ p ∈ tl, @Ne Nat p.1 D) ∧ (∀ p ∈ news, @Ne Nat p.1 D) ∧ (∀ q ∈ tl, ∀ p ∈ news, @Ne Nat q.1 p.1) := by
  obtain ⟨tl, h1, h2⟩ := gather hA
  have hDL : D ≠ L := by obtain ⟨_, _, _, ho, _⟩ := F.ns; exact live_ne hD ho
  have hn0 : ∀ b, g.get? b = none → h₀.get? b = none := fun b hb => by
    cases q : h₀.get? b with
    | none => rfl
    | some o => have := F.keep _ _ q; rw [hb] at this; cases this
  -- the tuples that are really in the list
  obtain ⟨tl', h1', h2', h3'⟩ : ∃ tl', All2 (PairIn tl') vs ps ∧ (∀ q ∈ tl', h'.get? q.1 = some q.2 ∧ g.get? q.1 = none) ∧ ∀ q ∈ tl', q.1 ≠ D := by
    refine ⟨tl.filter fun q => decide (q.1 ≠ D), ?_, fun q hq => h2 q ((List.mem_filter.mp hq).1), fun q hq => by simpa using (List.mem_filter.mp hq).2⟩
    have : ∀ {us : List Value} {ps : List (Str × Int)}, (∀ v ∈ us, v ≠ .ref D) → All2 (PairIn tl) us ps → All2 (PairIn (tl.filter fun q => decide (q.1 ≠ D))) us ps := by
      intro us ps hu hall
      induction hall with
      | nil => exact .nil
      | cons a r ih =>
        refine .cons ?_ (ih fun v hv => hu v (.tail _ hv))
        obtain ⟨T, o, t, t', n, e, hm, r⟩ := a
        refine ⟨T, o, t, t', n, e, List.mem_filter.mpr ⟨hm, ?_⟩, r⟩
        simp only [ne_eq, decide_eq_true_eq]
        rintro rfl
        exact hu _ (.head _) e
    exact this hne h1
  refine ⟨tl', ?_, h1', h3', ?_, ?_⟩
  · intro p hp
    rcases List.mem_cons.mp hp with rfl | hp
    · exact ⟨hD', hDL, hn0 _ hD⟩
    rcases List.mem_append.mp hp with hp | hp
    · refine ⟨(h2' p hp).1, ?_, hn0 _ (h2' p hp).2⟩
      obtain ⟨_, _, _, ho, _⟩ := F.ns
      exact live_ne (h2' p hp).2 ho
    · exact ⟨hk _ _ (N p hp).2.1 (N p hp).1, (N p hp).2⟩
  · intro p hp
    exact Ne.symm (live_ne hD (N p hp).1)
  · intro q hq p hp
    exact live_ne (h2' q hq).2 (N p hp).1
theorem comp_textK {s : Shared} {elt iter : Expr} {x : Str} {px : Pos} {scope : Scope} {cl : List (Str × Addr)} {pos : Pos} {k : Int} {Q : Value → Shared → Prop} {h₀ : Heap} {L : Addr} {m : Str → Option Value}
    (_F₀ : Fr h₀ L s.heap m) (hh : A.handled = none) (hclos : closureFor scope env = pure cl) (hcell : ∀ y ∈ scope.names, y.2 ≠ .cell) (hkind : scope.kind = .function)
    (hnames : ∀ y ∈ scope.names, y.2 = .local → scope.names.lookup y.1 = some .local) (hx : scope.names.lookup x = some .local)
    (h : wpAny (model prog w) A (eval iter env) (Opq fun xv s₁ => ∃ y t news, xv = .str y t ∧ y.cps.size ≤ sizeLine ∧ Fr h₀ L s₁.heap m ∧ News h₀ L s₁.heap news ∧ EltPair prog w A elt scope cl env x k s₁ ∧
      (∀ D (vs : List Value) n tl h' tk, Fr h₀ L h' m → News h₀ L h' ((D, W.listOf vs.toArray n) :: (tl ++ news)) → All2 (PairIn tl) vs (y.cps.toList.map fun c => ((⟨#[c]⟩ : Str), k)) → (∀ p ∈ tl, @Ne Nat p.1 D) → (∀ p ∈ news, @Ne Nat p.1 D) →
        (∀ q ∈ tl, ∀ p ∈ news, @Ne Nat q.1 p.1) → Q (.ref D) { s₁ with heap := h', toks := tk })) E s)
    (hs : ∀ x, foldedSetIterable iter env x = pure x := by intro _; rfl) :
    wpAny (model prog w) A (eval (.ListComp elt [⟨.Name x px, iter, [], 0⟩] scope pos) env) Q E s := by
  refine comp_text (k := k) hh hclos hcell hkind hnames hx (wpAny_mono h (fun xv s₁ h₁ => ?_) fun _ _ e => e) hs
  obtain ⟨y, t, news, rfl, hy, F, N, helt, done⟩ := h₁
  refine ⟨y, t, rfl, hy, helt, ?_⟩
  intro D vs n h' tk hk hD hD' hA hne
  obtain ⟨tl, a, b, c, d, e⟩ := comp_news F N (fun b o _ e => hk b o e) hD hD' hA hne
  exact done D vs n tl h' tk (Fr.keeps F hk) a b c d e
theorem assign_comp_textK {s : Shared} {elt iter : Expr} {x z : Str} {px pz : Pos} {scope : Scope} {cl : List (Str × Addr)} {pos spos : Pos} {k : Int} {Q : Flow → Shared → Prop} {h₀ : Heap} {m : Str → Option Value}
    (_F₀ : Fr h₀ env.locals s.heap m) (hh : A.handled = none) (hsw : swapsWith (.ListComp elt [⟨.Name x px, iter, [], 0⟩] scope pos) (some (.Name z pz)) spos.line env = pure true)
    (hclos : closureFor scope env = pure cl) (hcell : ∀ y ∈ scope.names, y.2 ≠ .cell) (hkind : scope.kind = .function)
    (hnames : ∀ y ∈ scope.names, y.2 = .local → scope.names.lookup y.1 = some .local) (hx : scope.names.lookup x = some .local)
    (hy : env.kindOf z = some .local) (hp : (env.scope.kind == .class || (env.scope.kind == .module && env.locals != env.globals)) = false)
    (h : wpAny (model prog w) A (eval iter env) (Opq fun xv s₁ => ∃ y t news, xv = .str y t ∧ y.cps.size ≤ sizeLine ∧ Fr h₀ env.locals s₁.heap m ∧ News h₀ env.locals s₁.heap news ∧ EltPair prog w A elt scope cl env x k s₁ ∧
      (∀ D (vs : List Value) n tl h' tk, Fr h₀ env.locals h' (fun u => if u = z then some (.ref D) else m u) → News h₀ env.locals h' ((D, W.listOf vs.toArray n) :: (tl ++ news)) → All2 (PairIn tl) vs (y.cps.toList.map fun c => ((⟨#[c]⟩ : Str), k)) → (∀ p ∈ tl, @Ne Nat p.1 D) → (∀ p ∈ news, @Ne Nat p.1 D) →
        (∀ q ∈ tl, ∀ p ∈ news, @Ne Nat q.1 p.1) → Q .next { s₁ with heap := h', toks := tk })) E s)
    (hs : ∀ x, foldedSetIterable iter env x = pure x := by intro _; rfl) :
    wpAny (model prog w) A (exec (.Assign [.Name z pz] (.ListComp elt [⟨.Name x px, iter, [], 0⟩] scope pos) spos) env) Q E s := by
  refine assign_comp_text (k := k) hh hsw hclos hcell hkind hnames hx hy hp (wpAny_mono h (fun xv s₁ h₁ => ?_) fun _ _ e => e) hs
  obtain ⟨y, t, news, rfl, hy, F, N, helt, done⟩ := h₁
  refine ⟨y, t, m, rfl, hy, F.ns, helt, ?_⟩
  intro D vs n h' tk hk hns hD hD' hA hne
  obtain ⟨tl, a, b, c, d, e⟩ := comp_news F N hk hD hD' hA hne
  exact done D vs n tl h' tk ⟨hns, fun b o q => hk b o (Nat.ne_of_lt (Nat.lt_of_lt_of_le (Heap.lt_size q) F.above)) (F.keep b o q), F.above⟩ a b c d e
end
end Mine
end
section
open PySem PySem.W PySem.W.X PyProof.Rows PySem.Spec PySem.Calls
set_option Elab.async false
set_option maxRecDepth 100000
set_option maxHeartbeats 0
namespace Mine
theorem off_Lw3 : True := by
  w_top off
  trivial
local macro_rules | `(tactic| omega) => `(tactic| lia)
theorem enterC {w : World} {A : Around} {s : Shared} {Q : Value → Shared → Prop} {E : Value → Shared → Prop} {name qual : Str} {params : Arguments} {body : List Stmt} {scope : Scope} {dV kV doc pm cdv ct oc : Value} {an od : Option Addr} {osl : Array (Option Value)} {f : Addr} {args : List Value} {binds : List (Str × Value)}
    (X : (Mine.hd.heap_1 w.params).In s.heap) (hlim : s.heap.NoLimit)
    (ho : (Mine.hd.heap_1 w.params).lookup f = some ⟨oc, od, .func (fnOf name qual params body scope dV kV doc pm an cdv ct), osl⟩) (hcd : codeIn (Mine.hd.heap_1 w.params) cdv qual = true) (hroom : A.depth < recursionLimit)
    (hbind : BindsTo s (fnOf name qual params body scope dV kV doc pm an cdv ct) ⟨args, []⟩ binds) (hkind : (binds.all fun y => scope.names.lookup y.1 == some .local || scope.names.lookup y.1 == some .cell) = true)
    (hnd : ((cellsFrom 0 scope.names []).map (·.1)).Nodup)
    (h : ∀ L' h₁ tk cells, Fr s.heap L' h₁ (bindL (envOfC qual scope L' f cdv).kindOf binds fun _ => none) → News s.heap L' h₁ cells →
      CellsAre (bindC (envOfC qual scope L' f cdv).kindOf binds fun _ => none) (cellsFrom (L' + 1) scope.names []) cells →
      wpAny (model PySem.Challenge.rw_re0054_01.row.prog w) (A.deeper (envOfC qual scope L' f cdv)) (execs body (envOfC qual scope L' f cdv))
        (fun fl s' => Q (match fl with | .ret v => v | _ => .none) s')
        (fun _ _ => False)
        { s with heap := h₁, toks := tk })
    (hco : scope.isCoroutine = false) (hgen : scope.isGenerator = false) (hk : scope.kind = .function) : wpAny (model PySem.Challenge.rw_re0054_01.row.prog w) A (call (.ref f) args) Q E s := by
  refine wpAny_call ?_
  refine codeAny_call_function hroom (X _ _ ho) rfl hco hgen rfl (codeRec_of X hcd) (hbind _ _ _ _ ?_)
  refine wpAny_newFunctionEnv_cells hk (kindsX hkind _) fun env' he s' x => ?_
  subst he
  refine ⟨hlim.keeps x.toInCall.keep, codeAny_func ?_⟩
  obtain ⟨h₁, tk, rfl, _⟩ := x.done
  obtain ⟨cells, NC, Y⟩ := Cl.news (h₀ := s.heap) (Nat.le_refl _) fun n c hm => ⟨x.cell n c (lookup_of_mem_nodup (cellsFrom_names scope.names 0 (s.heap.objs.size + 1) [] [] rfl ▸ hnd) hm), x.above n c hm⟩
  exact wpAny_mono (h s.heap.objs.size h₁ tk cells ⟨x.toInCall.ns, x.toInCall.keep, Nat.le_refl _⟩ NC Y) (fun _ _ x => x) fun _ _ x => x.elim
noncomputable def markN (bare : Bool) : List Nat := if bare then [] else [34]
noncomputable def headN (lay : Nat) (bare : Bool) (beh : List Nat) (ys : List (Nat × Nat)) : List (Nat × Nat) := ((107 :: 61 :: markN bare).map fun c => (c, lay)) ++ ys ++ ((markN bare ++ beh).map fun c => (c, lay))
theorem encP_map (l : List Nat) (lay : Nat) : (l.map fun c => ((⟨#[c]⟩ : Str), (lay : Int))) = (l.map fun c => (c, lay)).map encP := by
  rw [List.map_map]; rfl
local macro_rules | `(tactic| walk_at "binaryOp Add ref ref") => `(tactic| with_reducible refine hold_in ?_)
local macro_rules | `(tactic| walk_at "exec Assign cons ListComp") => `(tactic| with_reducible refine hold_in ?_)
local macro_rules | `(tactic| walk_at "eval ListComp") => `(tactic| with_reducible refine hold_in ?_)
theorem spec_header {w : World} {dp un : Nat} {fr : Option (List Env)} {gd : Option (List Code)} {s : Shared} {l : Addr} {vs : List Value} {ys : List (Nat × Nat)} {lay : Nat} {bare : Bool} {beh : Str} {t1 t3 : Tok} {loose mean mg mb} {Q : Value → Shared → Prop} {E : Value → Shared → Prop}
  (X : (Mine.hd.heap_1 w.params).In s.heap) (T : Top topProg loose mean mg mb s.heap) (hd : dp < 800) (hu : un < 500)
  (hl : s.heap.IsList l vs.toArray) (hi : All2 (PairAt s.heap) vs (ys.map encP)) (hy : ys.length ≤ 20000) (hbeh : beh.length ≤ 10)
  (h : ∀ h' tk r, Grow s.heap h' → ItemsAt h' (.ref r) ((headN lay bare beh.cps.toList ys).map encP) → s.heap.get? r = none → Q (.ref r) { s with heap := h', toks := tk }) :
  wpAny (model PySem.Challenge.rw_re0054_01.row.prog w) (AA dp un fr gd) (call (.ref 116) [.ref l, .int lay t1, .bool bare, .str beh t3]) Q E s := by
  revert X; k_fill; intro X
  refine' enterC ?k1 ?k2 ?k3 ?k4 ?k5 ?k6 ?k7 ?kd ?_ ?k8 ?k9 ?k10
  case k1 => assumption
  case k2 => exact T.nolimit
  case k3 => k_is
  case k4 => k_is
  case k5 => have : recursionLimit = 1000 := rfl; show dp < recursionLimit; omega
  case k6 => exact BindsTo.of_eq rfl
  case k7 => exact rfl
  case kd => decide +kernel
  case k8 => rfl
  case k9 => rfl
  case k10 => rfl
  intro L h₁ tk cells F N Y
  k_cells Y
  try dsimp only
  k_unmd; k_fold
  rename_i o1 hod
  have hod : o1.data = .cell (some (.int (lay : Int) t1)) := hod
  cases bare with
  | true =>
    k_steps
    unfold Hold
    refine' assign_comp_textK (k := (lay : Int)) (by assumption) ?hh ?sw ?cl ?ce ?kd ?nm ?hx ?hy ?hp ?_
    case hh => rfl
    case sw => with_unfolding_all rfl
    case cl => with_unfolding_all rfl
    case ce => decide
    case kd => rfl
    case nm => decide
    case hx => rfl
    case hy => rfl
    case hp => rfl
    k_steps
    have N1 := (by assumption : News _ _ _ _)
    refine ⟨_, _, _, rfl, ?sz, by assumption, N1, elt_cell rfl rfl (by decide) (by decide) rfl rfl (N1.get (.head _)) hod, ?_⟩
    case sz => decide +kernel
    intro D1 vs1 n1 tl1 h1' tk1 F2 N2 hA1 ha1 ha2 ha3
    have ht1 : (Str.ofString "k=" ++ Str.ofString "").cps.toList = 107 :: 61 :: markN true := by decide +kernel
    rw [ht1] at hA1
    have hl1 : vs1.length ≤ 3 := by rw [hA1.length, List.length_map]; decide
    k_steps
    unfold Hold
    refine kmk_add_lit (by assumption) (by assumption) (News.isList N2 (.head _)) (Fr.lst F2 hl) rfl ?_ ?z1
    case z1 =>
      show vs1.length + vs.length ≤ sizeLine
      rw [sizeLine_eq, hi.length, List.length_map]; omega
    intro D2 h2' F3 N3 l3
    k_steps
    unfold Hold
    refine' comp_textK (k := (lay : Int)) (by assumption) ?hh ?cl ?ce ?kd ?nm ?hx ?_
    case hh => rfl
    case cl => with_unfolding_all rfl
    case ce => decide
    case kd => rfl
    case nm => decide
    case hx => rfl
    k_steps
    have N4 := (by assumption : News _ _ _ _)
    refine ⟨_, _, _, rfl, ?sz2, by assumption, N4, elt_cell rfl rfl (by decide) (by decide) rfl rfl (N4.get (.tail _ (.tail _ (List.mem_append_right _ (.head _))))) hod, ?_⟩
    case sz2 =>
      show (Str.ofString "" ++ beh).length ≤ sizeLine
      have e : (Str.ofString "").length ≤ 1 := by decide +kernel
      rw [Str.length_append, sizeLine_eq]; omega
    intro D3 vs3 n3 tl3 h3' tk3 F5 N5 hA3 hb1 hb2 hb3
    have ht3 : (Str.ofString "" ++ beh).cps.toList = markN true ++ beh.cps.toList := by
      show ((Str.ofString "").cps ++ beh.cps).toList = _
      rw [Array.toList_append]; congr 1
    rw [ht3] at hA3
    have hl3 : vs3.length ≤ 11 := by
      have : beh.cps.toList.length ≤ 10 := by rw [Array.length_toList]; exact hbeh
      have e : (markN true).length ≤ 1 := by decide
      rw [hA3.length, List.length_map, List.length_append]; omega
    k_steps
    unfold Hold
    refine kmk_add_lit (by assumption) (by assumption) (News.isList N5 (.tail _ (List.mem_append_right _ (.head _)))) (News.isList N5 (.head _)) rfl ?_ ?z2
    case z2 =>
      show (vs1 ++ vs).length + vs3.length ≤ sizeLine
      rw [sizeLine_eq, List.length_append, hi.length, List.length_map]; omega
    intro D4 h4' F6 N6 l6
    k_steps
    have F7 := (by assumption : Fr _ _ _ _)
    have N7 := (by assumption : News _ _ _ _)
    refine h _ _ _ F7.keep ⟨D4, _, rfl, News.isList N7 (.head _), ?_⟩ (N7 _ (.head _)).2.2
    unfold headN
    rw [List.map_append, List.map_append, ← encP_map, ← encP_map]
    refine All2.append (All2.append (hA1.mono fun _ _ => PairIn.at fun q hq => (N7 q ?_).1) (hi.mono fun _ _ => PairAt.keeps F7.keep)) (hA3.mono fun _ _ => PairIn.at fun q hq => (N7 q ?_).1)
    · exact .tail _ (.tail _ (List.mem_append_right _ (.tail _ (.tail _ (List.mem_append_left _ hq)))))
    · exact .tail _ (.tail _ (List.mem_append_left _ hq))
  | false =>
    k_steps
    unfold Hold
    refine' assign_comp_textK (k := (lay : Int)) (by assumption) ?hhF ?swF ?clF ?ceF ?kdF ?nmF ?hxF ?hyF ?hpF ?_
    case hhF => rfl
    case swF => with_unfolding_all rfl
    case clF => with_unfolding_all rfl
    case ceF => decide
    case kdF => rfl
    case nmF => decide
    case hxF => rfl
    case hyF => rfl
    case hpF => rfl
    k_steps
    have N1 := (by assumption : News _ _ _ _)
    refine ⟨_, _, _, rfl, ?szF, by assumption, N1, elt_cell rfl rfl (by decide) (by decide) rfl rfl (N1.get (.head _)) hod, ?_⟩
    case szF => decide +kernel
    intro D1 vs1 n1 tl1 h1' tk1 F2 N2 hA1 ha1 ha2 ha3
    have ht1 : (Str.ofString "k=" ++ Str.ofString "\"").cps.toList = 107 :: 61 :: markN false := by decide +kernel
    rw [ht1] at hA1
    have hl1 : vs1.length ≤ 3 := by rw [hA1.length, List.length_map]; decide
    k_steps
    unfold Hold
    refine kmk_add_lit (by assumption) (by assumption) (News.isList N2 (.head _)) (Fr.lst F2 hl) rfl ?_ ?z1F
    case z1F =>
      show vs1.length + vs.length ≤ sizeLine
      rw [sizeLine_eq, hi.length, List.length_map]; omega
    intro D2 h2' F3 N3 l3
    k_steps
    unfold Hold
    refine' comp_textK (k := (lay : Int)) (by assumption) ?hhF ?clF ?ceF ?kdF ?nmF ?hxF ?_
    case hhF => rfl
    case clF => with_unfolding_all rfl
    case ceF => decide
    case kdF => rfl
    case nmF => decide
    case hxF => rfl
    k_steps
    have N4 := (by assumption : News _ _ _ _)
    refine ⟨_, _, _, rfl, ?sz2F, by assumption, N4, elt_cell rfl rfl (by decide) (by decide) rfl rfl (N4.get (.tail _ (.tail _ (List.mem_append_right _ (.head _))))) hod, ?_⟩
    case sz2F =>
      show (Str.ofString "\"" ++ beh).length ≤ sizeLine
      have e : (Str.ofString "\"").length ≤ 1 := by decide +kernel
      rw [Str.length_append, sizeLine_eq]; omega
    intro D3 vs3 n3 tl3 h3' tk3 F5 N5 hA3 hb1 hb2 hb3
    have ht3 : (Str.ofString "\"" ++ beh).cps.toList = markN false ++ beh.cps.toList := by
      show ((Str.ofString "\"").cps ++ beh.cps).toList = _
      rw [Array.toList_append]; congr 1
    rw [ht3] at hA3
    have hl3 : vs3.length ≤ 11 := by
      have : beh.cps.toList.length ≤ 10 := by rw [Array.length_toList]; exact hbeh
      have e : (markN false).length ≤ 1 := by decide
      rw [hA3.length, List.length_map, List.length_append]; omega
    k_steps
    unfold Hold
    refine kmk_add_lit (by assumption) (by assumption) (News.isList N5 (.tail _ (List.mem_append_right _ (.head _)))) (News.isList N5 (.head _)) rfl ?_ ?z2F
    case z2F =>
      show (vs1 ++ vs).length + vs3.length ≤ sizeLine
      rw [sizeLine_eq, List.length_append, hi.length, List.length_map]; omega
    intro D4 h4' F6 N6 l6
    k_steps
    have F7 := (by assumption : Fr _ _ _ _)
    have N7 := (by assumption : News _ _ _ _)
    refine h _ _ _ F7.keep ⟨D4, _, rfl, News.isList N7 (.head _), ?_⟩ (N7 _ (.head _)).2.2
    unfold headN
    rw [List.map_append, List.map_append, ← encP_map, ← encP_map]
    refine All2.append (All2.append (hA1.mono fun _ _ => PairIn.at fun q hq => (N7 q ?_).1) (hi.mono fun _ _ => PairAt.keeps F7.keep)) (hA3.mono fun _ _ => PairIn.at fun q hq => (N7 q ?_).1)
    · exact .tail _ (.tail _ (List.mem_append_right _ (.tail _ (.tail _ (List.mem_append_left _ hq)))))
    · exact .tail _ (.tail _ (List.mem_append_left _ hq))
end Mine
end
section
open PySem PySem.W PySem.W.X PyProof.Rows PySem.Spec PySem.Calls
set_option Elab.async false
set_option maxRecDepth 100000
namespace Mine
section
variable {prog : Program} {w : World} {A : Around} {E : Value → Shared → Prop} {env : Env}
theorem comp_count {s : Shared} {elt iter c : Expr} {a b : Str} {pa pb tp : Pos} {kk : Nat} {scope : Scope} {cl : List (Str × Addr)} {pos : Pos} {Q : Value → Shared → Prop} {h₀ : Heap} {L : Addr} {m : Str → Option Value} (p : Str → Bool)
    (_F₀ : Fr h₀ L s.heap m) (hh : A.handled = none) (hclos : closureFor scope env = pure cl) (hcell : ∀ y ∈ scope.names, y.2 ≠ .cell) (hkind : scope.kind = .function)
    (hnames : ∀ y ∈ scope.names, y.2 = .local → scope.names.lookup y.1 = some .local) (hxa : scope.names.lookup a = some .local) (hxb : scope.names.lookup b = some .local) (hab : ¬ a = b)
    (h : wpAny (model prog w) A (eval iter env) (Opq fun xv s₁ => ∃ l vs xs news, xv = .ref l ∧ h₀.IsList l (List.toArray vs) ∧ All2 (PairAt h₀) vs xs ∧ vs.length ≤ sizeLine ∧ Fr h₀ L s₁.heap m ∧ News h₀ L s₁.heap news ∧
      (∀ C oC sg t m₃ h tk (Q' : Bool → Shared → Prop) E', LCg.NsObj oC m₃ → m₃ a = some (.str sg t) → Fr h₀ L h m → News h₀ L h [(C, oC)] → (∀ tk', Q' (p sg) { s₁ with heap := h, toks := tk' }) →
        wpAny (model prog w) A (isTrue c (compEnvC scope cl C env) (eval c (compEnvC scope cl C env))) Q' E' { s₁ with heap := h, toks := tk }) ∧
      (∀ C oC sg t m₃ h tk (Q' : Value → Shared → Prop) E', LCg.NsObj oC m₃ → m₃ a = some (.str sg t) → Fr h₀ L h m → News h₀ L h [(C, oC)] → (∀ v tk', Q' v { s₁ with heap := h, toks := tk' }) →
        wpAny (model prog w) A (eval elt (compEnvC scope cl C env)) Q' E' { s₁ with heap := h, toks := tk }) ∧
      (∀ D (us : List Value) n h' tk, Fr h₀ L h' m → News h₀ L h' ((D, W.listOf us.toArray n) :: news) → (∀ p ∈ news, @Ne Nat p.1 D) → us.length = (xs.filter fun q => p q.1).length → Q (.ref D) { s₁ with heap := h', toks := tk })) E s)
    (hs : ∀ x, foldedSetIterable iter env x = pure x := by intro _; rfl) :
    wpAny (model prog w) A (eval (.ListComp elt [⟨.Tuple [.Name a pa, .Name b pb] kk tp, iter, [c], 0⟩] scope pos) env) Q E s := by
  rw [eval_ListComp]
  refine wpAny_comprehension_free (use := none) rfl hs hclos hkind hnames (wpAny_mono h (fun xv s₁ h₁ => ?_) fun _ _ e => e)
  obtain ⟨l, vs, xs, news, rfl, hl, hi, hsz, F, N, htest, helt, done⟩ := h₁
  have hl₁ : s₁.heap.IsList l vs.toArray := hl.at fun o e => F.keep _ _ e
  obtain ⟨ol, hol, _⟩ := id hl
  have hll : l < s₁.heap.objs.size := Heap.lt_size (F.keep _ _ hol)
  refine wpAny_pyIter_list hl₁ ?_
  have Wk := Walks.list (prog := prog) (w := w) hh s₁.heap.objs.size l (Nat.ne_of_lt hll) vs.toArray
  have hst : (s₁.heap.push { cls := .type "list_iterator", data := .fields #[.ref l, .int 0 0] }).IsListIter s₁.heap.objs.size l 0 ∧ (s₁.heap.push { cls := .type "list_iterator", data := .fields #[.ref l, .int 0 0] }).IsList l vs.toArray := ⟨⟨_, Heap.get?_push_size _ rfl, rfl, rfl⟩, hl₁.at fun o e => Heap.get?_push_of_some _ e⟩
  generalize ({ cls := .type "list_iterator", data := .fields #[.ref l, .int 0 0] } : Obj) = oI at *
  refine wpAny_newObj_type (wpAny_newFunctionEnv hcell (by intro y hy; simp at hy) (fun h₁ hns₁ hsb₁ => ?_) hkind)
  dsimp only at hns₁ hsb₁ ⊢
  generalize hI : s₁.heap.objs.size = I at *
  generalize hH1 : s₁.heap.push oI = H1 at *
  have hH1s : H1.objs.size = I + 1 := by rw [← hH1, Heap.size_push, hI]
  generalize hD : H1.objs.size = D at *
  generalize hH2 : H1.push { cls := .type "list", dict := none, data := .seq ([] : List Value).toArray } = H2 at *
  have hC0 : H2.objs.size = D + 1 := by rw [← hH2, Heap.size_push, hD]
  generalize hC : H2.objs.size = C at *
  have hID : I ≠ D := by rw [hH1s]; exact Nat.ne_of_lt (Nat.lt_succ_self _)
  have hDC : D ≠ C := by rw [hC0]; exact Nat.ne_of_lt (Nat.lt_succ_self _)
  have hIC : I ≠ C := by rw [hC0, hH1s]; exact Nat.ne_of_lt (Nat.lt_succ_of_lt (Nat.lt_succ_self _))
  have below : ∀ b o, s₁.heap.get? b = some o → b ≠ I ∧ b ≠ D ∧ b ≠ C := fun b o e => by
    have := Heap.lt_size e
    rw [hI] at this
    refine ⟨Nat.ne_of_lt this, ?_, ?_⟩
    · rw [hH1s]; exact Nat.ne_of_lt (Nat.lt_succ_of_lt this)
    · rw [hC0, hH1s]; exact Nat.ne_of_lt (Nat.lt_succ_of_lt (Nat.lt_succ_of_lt this))
  have old : ∀ b o, s₁.heap.get? b = some o → h₁.get? b = some o := fun b o e =>
    hsb₁.extBut b o (below b o e).2.2 (Heap.get?_push_of_some _ (hH2 ▸ Heap.get?_push_of_some _ (hH1 ▸ Heap.get?_push_of_some _ e)))
  have fresh : ∀ a, I ≤ a → s₁.heap.get? a = none := fun a ha => by
    cases e : s₁.heap.get? a with
    | none => rfl
    | some o' => have := Heap.lt_size e; rw [hI] at this; exact absurd this (Nat.not_lt.mpr ha)
  have hDn : s₁.heap.get? D = none := fresh _ (by rw [hH1s]; exact Nat.le_succ _)
  have hCn : s₁.heap.get? C = none := fresh _ (by rw [hC0, hH1s]; exact Nat.le_succ_of_le (Nat.le_succ _))
  have n0 : ∀ b, s₁.heap.get? b = none → h₀.get? b = none := fun b hb => by
    cases q : h₀.get? b with
    | none => rfl
    | some o => have := F.keep _ _ q; rw [hb] at this; cases this
  have hLl : ∃ o, s₁.heap.get? L = some o := by obtain ⟨o, _, _, ho, _⟩ := F.ns; exact ⟨o, ho⟩
  have hCL : C ≠ L := by obtain ⟨o, ho⟩ := hLl; exact live_ne hCn ho
  have hDL : D ≠ L := by obtain ⟨o, ho⟩ := hLl; exact live_ne hDn ho
  have up₁ : ∀ b o, H1.get? b = some o → h₁.get? b = some o := fun b o e => by
    have hb := Heap.lt_size e
    rw [hD] at hb
    exact hsb₁.extBut b o (by rw [hC0]; exact Nat.ne_of_lt (Nat.lt_succ_of_lt hb)) (Heap.get?_push_of_some _ (hH2 ▸ Heap.get?_push_of_some _ e))
  have hst₁ : h₁.IsListIter I l 0 ∧ h₁.IsList l vs.toArray := Wk.frame _ _ _ hst fun b _ o e => up₁ b o e
  have hacc : h₁.get? D = some (W.listOf ([] : List Value).toArray 0) := hsb₁.extBut _ _ hDC (Heap.get?_push_of_some _ (by rw [← hH2, ← hD]; exact Heap.get?_push_size _ rfl))
  have loop : ∀ s₃ : Shared, s₃ = { s₁ with heap := h₁, toks := s₁.toks + ([] : List (Str × Value)).length } →
      codeAny (model prog w) A (.compLoop (.ListComp elt [⟨.Tuple [.Name a pa, .Name b pb] kk tp, iter, [c], 0⟩] scope pos) 0 (.ref I) (.ref D) (compEnvC scope cl C env))
        (compPost (model prog w) A E none Q (.ref D) C) s₃ := by
    rintro s₃ rfl
    refine kct_loop
      (fun k' s' => ∃ h' tk i us m' n, s' = { s₁ with heap := h', toks := tk } ∧ i ≤ vs.length ∧ k' = vs.length + 1 - i ∧ (us : List Value).length = ((xs.take i).filter fun q => p q.1).length ∧ (h'.IsListIter I l i ∧ h'.IsList l vs.toArray) ∧ h'.Ns C m' ∧ h'.get? D = some (W.listOf us.toArray n) ∧
        (∀ b o, s₁.heap.get? b = some o → h'.get? b = some o)) ?_ (vs.length + 1)
      ⟨h₁, _, 0, [], _, 0, rfl, Nat.zero_le _, rfl, rfl, hst₁, hns₁, hacc, old⟩
    rintro k' s' ⟨h', tk, i, us, m', n, rfl, hi', rfl, hul, hst', hn', hD', hk'⟩
    have hsize : vs.toArray.size = vs.length := by simp
    by_cases hlt : i < vs.length
    · refine Wk.item i _ _ _ (by rw [hsize]; exact hlt) hst' fun v h₂ tk₂ hPv hst₂ hk₂ => ?_
      have up₂ : ∀ b o, b ≠ I → h'.get? b = some o → h₂.get? b = some o := fun b o hb e => hk₂ b o (fun q => hb (List.mem_singleton.mp q)) e
      obtain ⟨⟨sg, bi⟩, hx, T, t, t', rfl, hT⟩ := hi.get (show vs[i]? = some v by simpa using hPv)
      refine letGo_listiter hst₂.1 ?_
      refine kcp_assign hh (hT.keeps fun b o e => up₂ _ _ (below b o (F.keep _ _ e)).1 (hk' _ _ (F.keep _ _ e))) (lookup_relabel_local hxa) (lookup_relabel_local hxb) (by simp [compEnvC, relabel, hkind]) (hn'.at' fun o e => up₂ _ o (Ne.symm hIC) e) fun h₃ tk₃ hn₃ hk₃ => ?_
      have up₃ : ∀ b o, b ≠ I → b ≠ C → h'.get? b = some o → h₃.get? b = some o := fun b o b1 b2 e => hk₃ b o b2 (up₂ b o b1 e)
      have hD₃ : h₃.get? D = some (W.listOf us.toArray n) := up₃ _ _ (Ne.symm hID) hDC hD'
      have F₃ : Fr h₀ L h₃ m := Fr.keeps F fun b o e => up₃ b o (below b o e).1 (below b o e).2.2 (hk' b o e)
      obtain ⟨oC, heC, hoC⟩ := LCg.ns_obj hn₃
      have N₃ : News h₀ L h₃ [(C, oC)] := fun q hq => by rw [List.mem_singleton.mp hq]; exact ⟨heC, hCL, n0 _ hCn⟩
      have hst₃ : h₃.IsListIter I l (i + 1) ∧ h₃.IsList l vs.toArray := Wk.frame _ _ _ hst₂ fun b hb o e => hk₃ b o (fun q => by
        rcases List.mem_cons.mp hb with hb | hb
        · exact hIC (hb.symm.trans q)
        · exact (below l _ (F.keep _ _ hol)).2.2 ((List.mem_singleton.mp hb).symm.trans q)) e
      have hm3 : (fun z => if z = b then some (Value.int bi t') else if z = a then some (Value.str sg t) else m' z) a = some (Value.str sg t) := by
        show (if a = b then _ else _) = _
        rw [if_neg hab, if_pos rfl]
      have hcount : ((xs.take (i + 1)).filter fun q => p q.1).length = us.length + if p sg then 1 else 0 := by
        rw [List.take_add_one, hx, List.filter_append, List.length_append, hul]
        cases hps : p sg <;> simp [hps]
      refine htest C oC sg t _ h₃ tk₃ _ _ hoC hm3 F₃ N₃ fun tk' => ?_
      cases hps : p sg with
      | false =>
        rw [if_neg (by decide)]
        refine ⟨vs.length + 1 - (i + 1), by omega, h₃, tk', i + 1, us, _, n, rfl, hlt, rfl, ?_, hst₃, hn₃, hD₃, fun b o e => up₃ b o (below b o e).1 (below b o e).2.2 (hk' b o e)⟩
        rw [hcount, hps]; rfl
      | true =>
        rw [if_pos rfl]
        refine helt C oC sg t _ h₃ tk' _ _ hoC hm3 F₃ N₃ fun v₄ tk₄ => ?_
        refine append_at (hsz := ?_) hD₃ fun h₅ hs₅ hD₅ => ?_
        · refine ⟨vs.length + 1 - (i + 1), by omega, h₅, tk₄, i + 1, us ++ [v₄], _, n + 1, rfl, hlt, rfl, ?_, Wk.frame _ _ _ hst₃ fun b hb o e => hs₅.extBut b o (fun q => ?_) e, hn₃.sameBut hs₅ (Ne.symm hDC), ?_, fun b o e => hs₅.extBut b o (below b o e).2.1 (up₃ b o (below b o e).1 (below b o e).2.2 (hk' b o e))⟩
          · rw [hcount, hps, List.length_append]; rfl
          · rcases List.mem_cons.mp hb with hb | hb
            · exact hID (hb.symm.trans q)
            · exact (below l _ (F.keep _ _ hol)).2.1 ((List.mem_singleton.mp hb).symm.trans q)
          · rw [hD₅, List.push_toArray]
        · show us.toArray.size ≤ sizeLine
          rw [List.size_toArray, hul]
          refine Nat.le_trans (List.length_filter_le _ _) (Nat.le_trans ?_ (Nat.le_trans hi' hsz))
          rw [List.length_take]; omega
    · obtain rfl : i = vs.length := Nat.le_antisymm hi' (Nat.not_lt.mp hlt)
      refine Wk.done _ _ _ (by rw [hsize]; exact hst') fun h₂ tk₂ hk₂ => ?_
      have up₂ : ∀ b o, b ≠ I → h'.get? b = some o → h₂.get? b = some o := fun b o b1 e => hk₂ b o (fun q => b1 (List.mem_singleton.mp q)) e
      refine ⟨m', hn'.at' fun o e => up₂ _ o (Ne.symm hIC) e, fun h'' hs'' => ?_⟩
      have up'' : ∀ b o, b ≠ I → b ≠ C → h'.get? b = some o → h''.get? b = some o := fun b o b1 b2 e => hs''.extBut b o b2 (up₂ b o b1 e)
      have upS : ∀ b o, s₁.heap.get? b = some o → h''.get? b = some o := fun b o e => up'' b o (below b o e).1 (below b o e).2.2 (hk' b o e)
      refine done D us n h'' tk₂ (Fr.keeps F upS) ?_ (fun q hq => Ne.symm (live_ne hDn (N q hq).1)) ?_
      · intro q hq
        rcases List.mem_cons.mp hq with rfl | hq
        · exact ⟨up'' _ _ (Ne.symm hID) hDC hD', hDL, n0 _ hDn⟩
        · exact News.grown N upS q hq
      · rw [hul, List.take_of_length_le (by rw [← hi.length]; exact Nat.le_refl _)]
  exact codeAny_compStart_list (loop _ rfl) (Wk.self 0 _ _ _ hst₁ (loop _ rfl))
end
end Mine
end
section
open PySem PySem.W PySem.W.X PyProof.Rows PySem.Spec PySem.Calls
set_option Elab.async false
set_option maxRecDepth 100000
set_option maxHeartbeats 0
namespace Mine
theorem off_Lw4 : True := by
  w_top off
  trivial
local macro_rules | `(tactic| omega) => `(tactic| lia)
noncomputable def starN (lay seen stars : Nat) : List (Nat × Nat) := ((if 1 < seen then [41] else []) ++ (if seen < stars then [40, 63, 62, 46] else [46]) ++ [42]).map (fun c => (c, lay)) ++ (if seen < stars then [(63, lay)] else [])
noncomputable def patStep (lay stars : Nat) (acc : List (Nat × Nat) × Nat) (p : Nat × Nat) : List (Nat × Nat) × Nat := if p.1 = 42 then (acc.1 ++ starN lay (acc.2 + 1) stars, acc.2 + 1) else (acc.1 ++ [p], acc.2)
noncomputable def starsN (ys : List (Nat × Nat)) : Nat := (ys.filter fun p => p.1 == 42).length
noncomputable def patN (lay : Nat) (ys : List (Nat × Nat)) : List (Nat × Nat) := if starsN ys = 0 then (46, lay) :: (42, lay) :: ys else (ys.foldl (patStep lay (starsN ys)) ([], 0)).1
local macro_rules | `(tactic| size_fits) => `(tactic| exact Nat.le_of_ble_eq_true rfl)
local macro_rules | `(tactic| walk_at "binaryOp Add ref ref") => `(tactic| with_reducible refine hold_in ?_)
local macro_rules | `(tactic| walk_at "eval ListComp") => `(tactic| with_reducible refine hold_in ?_)
local macro_rules | `(tactic| walk_at "pyIter ref") => `(tactic| with_reducible refine hold_in ?_)
local macro_rules | `(tactic| walk_at "call builtin:len") => `(tactic| with_reducible refine hold_in ?_)
local macro_rules | `(tactic| walk_at "call builtin:list.append") => `(tactic| with_reducible refine hold_in ?_)
local macro_rules | `(tactic| walk_at "call builtin:list.extend") => `(tactic| with_reducible refine hold_in ?_)
local macro_rules | `(tactic| walk_at "exec For Tuple Name cons nil") => `(tactic| ((rename Fr _ _ _ _ => lF'); (with_unfolding_all refine' For_invTF lF' ?_ (fun _ => rfl))))
theorem news_sub {g h : Heap} {L : Addr} {n n' : List (Addr × Obj)} (N : News g L h n) (hs : ∀ p ∈ n', p ∈ n) : News g L h n' := fun p hp => N p (hs p hp)
theorem all_cons {α : Type} {P : α → Prop} {a : α} {l : List α} (h : P a) (k : ∀ p ∈ l, P p) : ∀ p ∈ a :: l, P p := List.forall_mem_cons.mpr ⟨h, k⟩
theorem Upd.app {D : Addr} {o o' : Obj} {rest rest' : List (Addr × Obj)} : ∀ {pre : List (Addr × Obj)}, (∀ p ∈ pre, p.1 ≠ D) → Upd D o o' rest rest' → Upd D o o' (pre ++ rest) (pre ++ rest')
  | [], _, U => U
  | _ :: _, h, U => Upd.tail (h _ (.head _)) (Upd.app (fun p hp => h p (.tail _ hp)) U)
theorem star_cps : (Str.ofString "*").cps = #[42] := by decide +kernel
theorem ne_bool {x y : Str} {b : Bool} (h : (x != y) = b) : (x == y) = !b := by
  cases b <;> simp_all [bne]
theorem starN_len (lay a n : Nat) : (starN lay a n).length ≤ 7 := by
  unfold starN; split <;> split <;> simp
theorem spec_pattern {w : World} {dp un : Nat} {fr : Option (List Env)} {gd : Option (List Code)} {s : Shared} {l : Addr} {vs : List Value} {ys : List (Nat × Nat)} {lay : Nat} {t1 : Tok} {loose mean mg mb} {Q : Value → Shared → Prop} {E : Value → Shared → Prop}
  (X : (Mine.hd.heap_1 w.params).In s.heap) (T : Top topProg loose mean mg mb s.heap) (hd : dp < 800) (hu : un < 500)
  (hl : s.heap.IsList l vs.toArray) (hi : All2 (PairAt s.heap) vs (ys.map encP)) (hy : ys.length ≤ 16000)
  (h : ∀ h' tk r, Grow s.heap h' → ItemsAt h' (.ref r) ((patN lay ys).map encP) → s.heap.get? r = none → Q (.ref r) { s with heap := h', toks := tk }) :
  wpAny (model PySem.Challenge.rw_re0054_01.row.prog w) (AA dp un fr gd) (call (.ref 111) [.ref l, .int lay t1]) Q E s := by
  revert X; k_fill; intro X
  refine' enterC ?k1 ?k2 ?k3 ?k4 ?k5 ?k6 ?k7 ?kd ?_ ?k8 ?k9 ?k10
  case k1 => assumption
  case k2 => exact T.nolimit
  case k3 => k_is
  case k4 => k_is
  case k5 => have : recursionLimit = 1000 := rfl; show dp < recursionLimit; omega
  case k6 => exact BindsTo.of_eq rfl
  case k7 => exact rfl
  case kd => decide +kernel
  case k8 => rfl
  case k9 => rfl
  case k10 => rfl
  intro L h₁ tk cells F N Y
  k_cells Y
  try dsimp only
  k_unmd; k_fold
  rename_i o1 hod
  have hod : o1.data = .cell (some (.int (lay : Int) t1)) := hod
  have hvl : vs.length = ys.length := by rw [hi.length, List.length_map]
  k_steps
  unfold Hold
  refine' comp_count (fun sg => sg == Str.ofString "*") (by assumption) ?hh ?cl ?ce ?kd ?nm ?hx ?hx2 ?hab ?_
  case hh => rfl
  case cl => with_unfolding_all rfl
  case ce => decide
  case kd => rfl
  case nm => decide
  case hx => rfl
  case hx2 => rfl
  case hab => decide
  k_steps
  have N1 := (by assumption : News _ _ _ _)
  refine ⟨l, vs, _, _, rfl, hl, hi, ?sz, by assumption, N1, ?tst, ?elt, ?_⟩
  case sz => rw [sizeLine_eq, hvl]; omega
  case tst =>
    intro C oC sg t m₃ h2 tk2 Q' E' hoC hm F2 N2 hQ
    clear N1
    k_steps
    exact hQ _
  case elt =>
    intro C oC sg t m₃ h2 tk2 Q' E' hoC hm F2 N2 hQ
    clear N1
    k_steps
    exact hQ _ _
  intro D us n h2 tk2 F2 N2 hD hus
  have hus : us.length = starsN ys := by
    rw [hus, List.filter_map, List.length_map]
    unfold starsN
    congr 1
    refine List.filter_congr fun p _ => ?_
    show ((⟨#[p.1]⟩ : Str) == Str.ofString "*") = _
    rw [one_beq (show (Str.ofString "*").cps = #[42] by decide +kernel)]; rfl
  have hsn : starsN ys ≤ 16000 := Nat.le_trans (List.length_filter_le _ _) hy
  k_steps
  unfold Hold
  refine kun_lenL (k := (us.length : Int)) (News.isList (by assumption) (.head _)) (by simp) (by omega) ?_
  k_steps
  · unfold Hold
    have hz : (us.length : Int) = 0 := by assumption
    have N3 := (by assumption : News _ _ _ _)
    refine kmk_add_lit (by assumption) N3 (News.isList N3 (.head _)) (Fr.lst (by assumption) hl) rfl ?_ ?z1
    case z1 => show 2 + vs.length ≤ sizeLine; rw [sizeLine_eq]; omega
    intro D4 h4 F4 N4 l4
    k_steps
    have F7 := (by assumption : Fr _ _ _ _)
    have N7 := (by assumption : News _ _ _ _)
    rw [show Str.ofString "." = ⟨#[46]⟩ by decide +kernel, show Str.ofString "*" = ⟨#[42]⟩ by decide +kernel] at N7
    refine h _ _ _ F7.keep ⟨D4, _, rfl, News.isList N7 (.head _), ?_⟩ (N7 _ (.head _)).2.2
    unfold patN
    rw [if_pos (by omega)]
    refine' .cons ⟨_, _, _, rfl, News.isTup N7 ?p1⟩ (.cons ⟨_, _, _, rfl, News.isTup N7 ?p2⟩ (hi.mono fun _ _ => PairAt.keeps F7.keep))
    case p1 => k_mem
    case p2 => k_mem
  · unfold Hold
    have hnz : (us.length : Int) ≠ 0 := by assumption
    rename_i S _ hlS _ _ F1 N1
    obtain ⟨base, tA, tB, F1⟩ : ∃ (base : Str → Option Value) (tA tB : Tok), Fr s.heap L _ (fun y => if y = Str.ofString "seen" then some (Value.int 0 tA) else if y = Str.ofString "fresh" then some (Value.ref S) else if y = Str.ofString "stars" then some (Value.int (us.length : Int) tB) else base y) := ⟨_, _, _, F1⟩
    refine iterT_pairs (fun i m nx => ∃ u1 u2 u3 vv c tl tt, ∃ acc : List (Nat × Nat) × Nat, acc = (ys.take i).foldl (patStep lay (starsN ys)) ([], 0) ∧ m = (fun y => if y = Str.ofString "birth" then u1 else if y = Str.ofString "sign" then u2 else if y = Str.ofString "ahead" then u3 else if y = Str.ofString "seen" then some (Value.int (acc.2 : Int) tt) else if y = Str.ofString "fresh" then some (Value.ref S) else if y = Str.ofString "stars" then some (Value.int (us.length : Int) tB) else base y) ∧
        nx = (S, W.listOf (List.toArray vv) c) :: (L + 1, o1) :: tl ∧ All2 (PairIn tl) vv (acc.1.map encP) ∧ (∀ p ∈ tl, @Ne Nat p.1 S) ∧ acc.2 ≤ i ∧ acc.1.length ≤ 7 * i)
      rfl hl hi F1 (news_sub N1 (all_cons (.head _) (all_cons (.tail _ (.tail _ (.head _))) (List.forall_mem_nil _)))) ?init ?turn ?done rfl rfl rfl
    case init =>
      refine' ⟨base (Str.ofString "birth"), base (Str.ofString "sign"), base (Str.ofString "ahead"), [], 0, [], tA, ([], 0), rfl, ?minit, rfl, .nil, (fun _ h => nomatch h), Nat.le_refl _, Nat.zero_le _⟩
      case minit =>
        funext z
        by_cases e1 : z = Str.ofString "birth"
        · subst e1; rfl
        · by_cases e2 : z = Str.ofString "sign"
          · subst e2; rfl
          · by_cases e3 : z = Str.ofString "ahead"
            · subst e3; rfl
            · by_cases e4 : z = Str.ofString "seen"
              · subst e4; rfl
              · simp only [if_neg e1, if_neg e2, if_neg e3, if_neg e4]
    case turn =>
      rintro i sg bi t t' m₁ nx s₁ I it hx ho ⟨u1, u2, u3, vv, c, tl, tt, acc, hacc, rfl, rfl, hA, hne, ha2, hal⟩ F3 N3
      rw [List.getElem?_map] at hx
      obtain ⟨⟨q, b⟩, hyi, e⟩ := Option.map_eq_some_iff.mp hx
      simp only [encP, Prod.mk.injEq] at e
      obtain ⟨rfl, rfl⟩ := e
      have hSI : @Ne Nat S I := ho _ (.head _)
      have hCI : @Ne Nat (L + 1) I := ho _ (.tail _ (.head _))
      have hil : i < 16000 := by have := (List.getElem?_eq_some_iff.mp hyi).1; omega
      clear N1 F1 hx
      dsimp only at F3
      k_steps
      · unfold Hold
        rename_i hqn T1 _ F4 N4 l4
        have hq : ((⟨#[q]⟩ : Str) == Str.ofString "*") = false := ne_bool hqn
        have hq : q ≠ 42 := by rw [one_beq star_cps] at hq; simpa using hq
        have lT : @LT.lt Nat _ S T1 := l4.2.1
        refine append_K F4 N4 (Upd.tail (Ne.symm (Nat.ne_of_lt lT)) (Upd.tail (Ne.symm hSI) (Upd.head (all_cons (a := (L + 1, o1)) (Nat.ne_of_lt hlS.2) hne)))) ?_ ?zz
        case zz => show vv.toArray.size ≤ sizeLine; rw [List.size_toArray, hA.length, List.length_map, sizeLine_eq]; omega
        intro h5 F5 N5
        rw [List.push_toArray] at N5
        k_steps
        have F9 := (by assumption : Fr _ _ _ _)
        have N9 := (by assumption : News _ _ _ _)
        refine' ⟨rfl, _, _, _, (S, W.listOf (List.toArray (vv ++ [Value.ref T1])) (c + 1)) :: (L + 1, o1) :: ([(T1, ({ cls := .type "tuple", data := .seq #[Value.str ⟨#[q]⟩ t, Value.int (b : Int) t'] } : Obj))] ++ tl), rfl, F9, news_sub N9 ?nsP, ?neP, some (Value.int (b : Int) t'), some (Value.str ⟨#[q]⟩ t), u3, _, _, [(T1, ({ cls := .type "tuple", data := .seq #[Value.str ⟨#[q]⟩ t, Value.int (b : Int) t'] } : Obj))] ++ tl, tt, patStep lay (starsN ys) acc (q, b), ?accP, ?mP, rfl, ?AP, ?neSP, ?leP, ?lenP⟩
        case nsP => exact all_cons (.tail _ (.head _)) (all_cons (.tail _ (.tail _ (.head _))) (all_cons (.tail _ (.tail _ (.tail _ (.head _)))) (all_cons (.head _) (fun p hp => .tail _ (.tail _ (.tail _ (.tail _ hp)))))))
        case neP => exact all_cons hSI (all_cons hCI (all_cons (Ne.symm (Nat.ne_of_lt l4.1)) (fun p hp => ho p (.tail _ (.tail _ hp)))))
        case accP => rw [List.take_add_one, hyi, List.foldl_append, ← hacc]; rfl
        case mP =>
          unfold patStep
          rw [if_neg hq]
          funext z
          by_cases e1 : z = Str.ofString "birth"
          · subst e1; rfl
          · by_cases e2 : z = Str.ofString "sign"
            · subst e2; rfl
            · by_cases e3 : z = Str.ofString "ahead"
              · subst e3; rfl
              · by_cases e4 : z = Str.ofString "seen"
                · subst e4; rfl
                · simp only [if_neg e1, if_neg e2, if_neg e3, if_neg e4]
        case AP =>
          unfold patStep
          rw [if_neg hq, List.map_append]
          exact (hA.mono fun _ _ => PairIn.mono fun p hp => .tail _ hp).append (.cons ⟨T1, _, _, _, _, rfl, .head _, rfl, rfl⟩ .nil)
        case neSP => exact all_cons (Ne.symm (Nat.ne_of_lt lT)) hne
        case leP => unfold patStep; rw [if_neg hq]; exact Nat.le_succ_of_le ha2
        case lenP => unfold patStep; rw [if_neg hq, List.length_append]; show _ + 1 ≤ _; omega
      · unfold Hold
        have hq : ((⟨#[q]⟩ : Str) == Str.ofString "*") = true := ne_bool (b := false) (by assumption)
        have hq : q = 42 := by rw [one_beq star_cps] at hq; simpa using hq
        have hc1 : 1 < (acc.2 : Int) + 1 := by assumption
        have hc2 : (acc.2 : Int) + 1 < (us.length : Int) := by assumption
        refine' comp_textK (k := (lay : Int)) (by assumption) ?hhTT ?clTT ?ceTT ?kdTT ?nmTT ?hxTT ?_
        case hhTT => rfl
        case clTT => with_unfolding_all rfl
        case ceTT => decide
        case kdTT => rfl
        case nmTT => decide
        case hxTT => rfl
        k_steps
        have N4 := (by assumption : News _ _ _ _)
        refine ⟨_, _, _, rfl, ?szTT, by assumption, N4, elt_cell rfl rfl (by decide) (by decide) rfl rfl (N4.get (.tail _ (.tail _ (.head _)))) hod, ?_⟩
        case szTT => decide +kernel
        intro D1 vs1 n1 tl1 h5 tk5 F5 N5 hA1 hd1 hd2 hd3
        rw [show (Str.ofString ")(?>." ++ Str.ofString "*").cps.toList = [41, 40, 63, 62, 46, 42] by decide +kernel] at hA1
        have hl1 : vs1.length = 6 := by rw [hA1.length, List.length_map]; rfl
        have hvv : vv.length = acc.1.length := by rw [hA.length, List.length_map]
        have hSD1 : @Ne Nat S D1 := hd2 _ (.tail _ (.head _))
        have htlS : ∀ p ∈ tl1, @Ne Nat p.1 S := fun p hp => hd3 p hp _ (.tail _ (.head _))
        have htlI : ∀ p ∈ tl1, @Ne Nat p.1 I := fun p hp => hd3 p hp _ (.head _)
        k_steps
        unfold Hold
        refine kl_extend (by assumption) N5 (List.Mem.head _) rfl ?neTT (Upd.tail (Ne.symm hSD1) (Upd.app htlS (Upd.tail (Ne.symm hSI) (Upd.head (all_cons (a := (L + 1, o1)) (Nat.ne_of_lt hlS.2) hne))))) ?hdTT ?hzTT ?hz2TT ?_
        case neTT => show vs1.length ≠ 0; omega
        case hdTT =>
          have : Builtin.List.listTooLong (vv.toArray.size + vs1.toArray.size) = false := by
            unfold Builtin.List.listTooLong
            rw [List.size_toArray, List.size_toArray, sizeLine_eq]
            exact decide_eq_false (by omega)
          rw [this]; simp
        case hzTT => show vv.length ≤ sizeLine; rw [sizeLine_eq]; omega
        case hz2TT => rw [List.size_toArray, List.size_toArray, sizeLine_eq]; omega
        intro h6 F6 N6
        replace N6 := news_sub (n' := (S, W.listOf (List.toArray (vv ++ vs1)) (c + 1)) :: (I, it) :: (L + 1, o1) :: (tl1 ++ tl)) N6 (all_cons (.tail _ (List.mem_append_right _ (.tail _ (.head _)))) (all_cons (.tail _ (List.mem_append_right _ (.head _))) (all_cons (.tail _ (List.mem_append_right _ (.tail _ (.tail _ (.head _))))) (fun p hp => (List.mem_append.mp hp).elim (fun hp => .tail _ (List.mem_append_left _ hp)) (fun hp => .tail _ (List.mem_append_right _ (.tail _ (.tail _ (.tail _ hp)))))))))
        clear N5
        k_steps
        unfold Hold
        rename_i T2 _ F7 N7 l7
        have lS : @LT.lt Nat _ S T2 := l7.1
        have lI : @LT.lt Nat _ I T2 := l7.2.1
        obtain ⟨o2, ho2, ⟨tq, nq, hd2q⟩, N7⟩ : ∃ o2 : Obj, o2.cls = .type "tuple" ∧ (∃ tq, ∃ nq : Nat, o2.data = .seq #[Value.str (Str.ofString "?") tq, Value.int (lay : Int) t1] nq) ∧ News s.heap _ _ ((T2, o2) :: (S, W.listOf (List.toArray (vv ++ vs1)) (c + 1)) :: (I, it) :: (L + 1, o1) :: (tl1 ++ tl)) := ⟨_, rfl, ⟨_, _, rfl⟩, N7⟩
        rw [show Str.ofString "?" = ⟨#[63]⟩ by decide +kernel] at hd2q
        refine append_K F7 N7 (Upd.tail (Ne.symm (Nat.ne_of_lt lS)) (Upd.head (all_cons (a := (I, it)) (Ne.symm hSI) (all_cons (a := (L + 1, o1)) (Nat.ne_of_lt hlS.2) (fun p hp => (List.mem_append.mp hp).elim (htlS p) (hne p)))))) ?_ ?zzTT
        case zzTT => show (List.toArray (vv ++ vs1)).size ≤ sizeLine; rw [List.size_toArray, List.length_append, sizeLine_eq]; omega
        intro h7 F8 N8
        rw [List.push_toArray] at N8
        k_steps
        have F9 := (by assumption : Fr _ _ _ _)
        have N9 := (by assumption : News _ _ _ _)
        have hst : starN lay (acc.2 + 1) (starsN ys) = ([41, 40, 63, 62, 46, 42] : List Nat).map (fun c => (c, lay)) ++ [(63, lay)] := by
          unfold starN
          rw [if_pos (show 1 < acc.2 + 1 by omega), if_pos (show acc.2 + 1 < starsN ys by omega), if_pos (show acc.2 + 1 < starsN ys by omega)]; rfl
        have hps : patStep lay (starsN ys) acc (q, b) = (acc.1 ++ starN lay (acc.2 + 1) (starsN ys), acc.2 + 1) := by unfold patStep; rw [if_pos hq]
        refine' ⟨rfl, _, _, _, (S, W.listOf (List.toArray ((vv ++ vs1) ++ [Value.ref T2])) (c + 1 + 1)) :: (L + 1, o1) :: (((T2, o2) :: tl1) ++ tl), rfl, F9, news_sub N9 ?nsTT, ?neITT, some (Value.int (b : Int) t'), some (Value.str ⟨#[q]⟩ t), some (Value.str (Str.ofString ")(?>.") _), _, _, ((T2, o2) :: tl1) ++ tl, _, patStep lay (starsN ys) acc (q, b), ?accTT, ?mTT, rfl, ?ATT, ?neSTT, ?leTT, ?lenTT⟩
        case nsTT => exact all_cons (.tail _ (.tail _ (.head _))) (all_cons (.tail _ (.head _)) (all_cons (.tail _ (.tail _ (.tail _ (.head _)))) (all_cons (.head _) (fun p hp => .tail _ (.tail _ (.tail _ (.tail _ hp)))))))
        case neITT => exact all_cons hSI (all_cons hCI (all_cons (Ne.symm (Nat.ne_of_lt lI)) (fun p hp => (List.mem_append.mp hp).elim (htlI p) (fun hp => ho p (.tail _ (.tail _ hp))))))
        case accTT => rw [List.take_add_one, hyi, List.foldl_append, ← hacc]; rfl
        case mTT =>
          rw [hps]
          funext z
          by_cases e1 : z = Str.ofString "birth"
          · subst e1; rfl
          · by_cases e2 : z = Str.ofString "sign"
            · subst e2; rfl
            · by_cases e3 : z = Str.ofString "ahead"
              · subst e3; rfl
              · by_cases e4 : z = Str.ofString "seen"
                · subst e4; rfl
                · simp only [if_neg e1, if_neg e2, if_neg e3, if_neg e4]
        case ATT =>
          rw [hps, hst]
          dsimp only
          rw [List.map_append, List.map_append, ← encP_map]
          rw [List.append_assoc]; exact ((hA.mono fun _ _ => PairIn.mono fun p hp => .tail _ (List.mem_append_right _ hp)).append ((hA1.mono fun _ _ => PairIn.mono fun p hp => .tail _ (List.mem_append_left _ hp)).append (.cons ⟨T2, o2, tq, t1, nq, rfl, .head _, ho2, hd2q⟩ .nil)))
        case neSTT => exact all_cons (Ne.symm (Nat.ne_of_lt lS)) (fun p hp => (List.mem_append.mp hp).elim (htlS p) (hne p))
        case leTT => rw [hps]; exact Nat.succ_le_succ ha2
        case lenTT => rw [hps]; have := starN_len lay (acc.2 + 1) (starsN ys); dsimp only; rw [List.length_append]; omega
      · unfold Hold
        have hq : ((⟨#[q]⟩ : Str) == Str.ofString "*") = true := ne_bool (b := false) (by assumption)
        have hq : q = 42 := by rw [one_beq star_cps] at hq; simpa using hq
        have hc1 : 1 < (acc.2 : Int) + 1 := by assumption
        have hc2 : ¬ (acc.2 : Int) + 1 < (us.length : Int) := by assumption
        refine' comp_textK (k := (lay : Int)) (by assumption) ?hhTF ?clTF ?ceTF ?kdTF ?nmTF ?hxTF ?_
        case hhTF => rfl
        case clTF => with_unfolding_all rfl
        case ceTF => decide
        case kdTF => rfl
        case nmTF => decide
        case hxTF => rfl
        k_steps
        have N4 := (by assumption : News _ _ _ _)
        refine ⟨_, _, _, rfl, ?szTF, by assumption, N4, elt_cell rfl rfl (by decide) (by decide) rfl rfl (N4.get (.tail _ (.tail _ (.head _)))) hod, ?_⟩
        case szTF => decide +kernel
        intro D1 vs1 n1 tl1 h5 tk5 F5 N5 hA1 hd1 hd2 hd3
        rw [show (Str.ofString ")." ++ Str.ofString "*").cps.toList = [41, 46, 42] by decide +kernel] at hA1
        have hl1 : vs1.length = 3 := by rw [hA1.length, List.length_map]; rfl
        have hvv : vv.length = acc.1.length := by rw [hA.length, List.length_map]
        have hSD1 : @Ne Nat S D1 := hd2 _ (.tail _ (.head _))
        have htlS : ∀ p ∈ tl1, @Ne Nat p.1 S := fun p hp => hd3 p hp _ (.tail _ (.head _))
        have htlI : ∀ p ∈ tl1, @Ne Nat p.1 I := fun p hp => hd3 p hp _ (.head _)
        k_steps
        unfold Hold
        refine kl_extend (by assumption) N5 (List.Mem.head _) rfl ?neTF (Upd.tail (Ne.symm hSD1) (Upd.app htlS (Upd.tail (Ne.symm hSI) (Upd.head (all_cons (a := (L + 1, o1)) (Nat.ne_of_lt hlS.2) hne))))) ?hdTF ?hzTF ?hz2TF ?_
        case neTF => show vs1.length ≠ 0; omega
        case hdTF =>
          have : Builtin.List.listTooLong (vv.toArray.size + vs1.toArray.size) = false := by
            unfold Builtin.List.listTooLong
            rw [List.size_toArray, List.size_toArray, sizeLine_eq]
            exact decide_eq_false (by omega)
          rw [this]; simp
        case hzTF => show vv.length ≤ sizeLine; rw [sizeLine_eq]; omega
        case hz2TF => rw [List.size_toArray, List.size_toArray, sizeLine_eq]; omega
        intro h6 F6 N6
        replace N6 := news_sub (n' := (S, W.listOf (List.toArray (vv ++ vs1)) (c + 1)) :: (I, it) :: (L + 1, o1) :: (tl1 ++ tl)) N6 (all_cons (.tail _ (List.mem_append_right _ (.tail _ (.head _)))) (all_cons (.tail _ (List.mem_append_right _ (.head _))) (all_cons (.tail _ (List.mem_append_right _ (.tail _ (.tail _ (.head _))))) (fun p hp => (List.mem_append.mp hp).elim (fun hp => .tail _ (List.mem_append_left _ hp)) (fun hp => .tail _ (List.mem_append_right _ (.tail _ (.tail _ (.tail _ hp)))))))))
        clear N5
        k_steps
        have F9 := (by assumption : Fr _ _ _ _)
        have N9 := (by assumption : News _ _ _ _)
        have hst : starN lay (acc.2 + 1) (starsN ys) = ([41, 46, 42] : List Nat).map (fun c => (c, lay)) ++ ([] : List (Nat × Nat)) := by
          unfold starN
          rw [if_pos (show 1 < acc.2 + 1 by omega), if_neg (show ¬ acc.2 + 1 < starsN ys by omega), if_neg (show ¬ acc.2 + 1 < starsN ys by omega)]; rfl
        have hps : patStep lay (starsN ys) acc (q, b) = (acc.1 ++ starN lay (acc.2 + 1) (starsN ys), acc.2 + 1) := by unfold patStep; rw [if_pos hq]
        refine' ⟨rfl, _, _, _, (S, W.listOf (List.toArray (vv ++ vs1)) (c + 1)) :: (L + 1, o1) :: (tl1 ++ tl), rfl, F9, news_sub N9 ?nsTF, ?neITF, some (Value.int (b : Int) t'), some (Value.str ⟨#[q]⟩ t), some (Value.str (Str.ofString ").") _), _, _, tl1 ++ tl, _, patStep lay (starsN ys) acc (q, b), ?accTF, ?mTF, rfl, ?ATF, ?neSTF, ?leTF, ?lenTF⟩
        case nsTF => exact all_cons (.tail _ (.head _)) (all_cons (.head _) (all_cons (.tail _ (.tail _ (.head _))) (fun p hp => .tail _ (.tail _ (.tail _ hp)))))
        case neITF => exact all_cons hSI (all_cons hCI (fun p hp => (List.mem_append.mp hp).elim (htlI p) (fun hp => ho p (.tail _ (.tail _ hp)))))
        case accTF => rw [List.take_add_one, hyi, List.foldl_append, ← hacc]; rfl
        case mTF =>
          rw [hps]
          funext z
          by_cases e1 : z = Str.ofString "birth"
          · subst e1; rfl
          · by_cases e2 : z = Str.ofString "sign"
            · subst e2; rfl
            · by_cases e3 : z = Str.ofString "ahead"
              · subst e3; rfl
              · by_cases e4 : z = Str.ofString "seen"
                · subst e4; rfl
                · simp only [if_neg e1, if_neg e2, if_neg e3, if_neg e4]
        case ATF =>
          rw [hps, hst]
          dsimp only
          rw [List.map_append, List.map_append, ← encP_map]
          exact ((hA.mono fun _ _ => PairIn.mono fun p hp => List.mem_append_right _ hp).append (hA1.mono fun _ _ => PairIn.mono fun p hp => List.mem_append_left _ hp))
        case neSTF => exact fun p hp => (List.mem_append.mp hp).elim (htlS p) (hne p)
        case leTF => rw [hps]; exact Nat.succ_le_succ ha2
        case lenTF => rw [hps]; have := starN_len lay (acc.2 + 1) (starsN ys); dsimp only; rw [List.length_append]; omega
      · unfold Hold
        have hq : ((⟨#[q]⟩ : Str) == Str.ofString "*") = true := ne_bool (b := false) (by assumption)
        have hq : q = 42 := by rw [one_beq star_cps] at hq; simpa using hq
        have hc1 : ¬ 1 < (acc.2 : Int) + 1 := by assumption
        have hc2 : (acc.2 : Int) + 1 < (us.length : Int) := by assumption
        refine' comp_textK (k := (lay : Int)) (by assumption) ?hhFT ?clFT ?ceFT ?kdFT ?nmFT ?hxFT ?_
        case hhFT => rfl
        case clFT => with_unfolding_all rfl
        case ceFT => decide
        case kdFT => rfl
        case nmFT => decide
        case hxFT => rfl
        k_steps
        have N4 := (by assumption : News _ _ _ _)
        refine ⟨_, _, _, rfl, ?szFT, by assumption, N4, elt_cell rfl rfl (by decide) (by decide) rfl rfl (N4.get (.tail _ (.tail _ (.head _)))) hod, ?_⟩
        case szFT => decide +kernel
        intro D1 vs1 n1 tl1 h5 tk5 F5 N5 hA1 hd1 hd2 hd3
        rw [show (Str.ofString "(?>." ++ Str.ofString "*").cps.toList = [40, 63, 62, 46, 42] by decide +kernel] at hA1
        have hl1 : vs1.length = 5 := by rw [hA1.length, List.length_map]; rfl
        have hvv : vv.length = acc.1.length := by rw [hA.length, List.length_map]
        have hSD1 : @Ne Nat S D1 := hd2 _ (.tail _ (.head _))
        have htlS : ∀ p ∈ tl1, @Ne Nat p.1 S := fun p hp => hd3 p hp _ (.tail _ (.head _))
        have htlI : ∀ p ∈ tl1, @Ne Nat p.1 I := fun p hp => hd3 p hp _ (.head _)
        k_steps
        unfold Hold
        refine kl_extend (by assumption) N5 (List.Mem.head _) rfl ?neFT (Upd.tail (Ne.symm hSD1) (Upd.app htlS (Upd.tail (Ne.symm hSI) (Upd.head (all_cons (a := (L + 1, o1)) (Nat.ne_of_lt hlS.2) hne))))) ?hdFT ?hzFT ?hz2FT ?_
        case neFT => show vs1.length ≠ 0; omega
        case hdFT =>
          have : Builtin.List.listTooLong (vv.toArray.size + vs1.toArray.size) = false := by
            unfold Builtin.List.listTooLong
            rw [List.size_toArray, List.size_toArray, sizeLine_eq]
            exact decide_eq_false (by omega)
          rw [this]; simp
        case hzFT => show vv.length ≤ sizeLine; rw [sizeLine_eq]; omega
        case hz2FT => rw [List.size_toArray, List.size_toArray, sizeLine_eq]; omega
        intro h6 F6 N6
        replace N6 := news_sub (n' := (S, W.listOf (List.toArray (vv ++ vs1)) (c + 1)) :: (I, it) :: (L + 1, o1) :: (tl1 ++ tl)) N6 (all_cons (.tail _ (List.mem_append_right _ (.tail _ (.head _)))) (all_cons (.tail _ (List.mem_append_right _ (.head _))) (all_cons (.tail _ (List.mem_append_right _ (.tail _ (.tail _ (.head _))))) (fun p hp => (List.mem_append.mp hp).elim (fun hp => .tail _ (List.mem_append_left _ hp)) (fun hp => .tail _ (List.mem_append_right _ (.tail _ (.tail _ (.tail _ hp)))))))))
        clear N5
        k_steps
        unfold Hold
        rename_i T2 _ F7 N7 l7
        have lS : @LT.lt Nat _ S T2 := l7.1
        have lI : @LT.lt Nat _ I T2 := l7.2.1
        obtain ⟨o2, ho2, ⟨tq, nq, hd2q⟩, N7⟩ : ∃ o2 : Obj, o2.cls = .type "tuple" ∧ (∃ tq, ∃ nq : Nat, o2.data = .seq #[Value.str (Str.ofString "?") tq, Value.int (lay : Int) t1] nq) ∧ News s.heap _ _ ((T2, o2) :: (S, W.listOf (List.toArray (vv ++ vs1)) (c + 1)) :: (I, it) :: (L + 1, o1) :: (tl1 ++ tl)) := ⟨_, rfl, ⟨_, _, rfl⟩, N7⟩
        rw [show Str.ofString "?" = ⟨#[63]⟩ by decide +kernel] at hd2q
        refine append_K F7 N7 (Upd.tail (Ne.symm (Nat.ne_of_lt lS)) (Upd.head (all_cons (a := (I, it)) (Ne.symm hSI) (all_cons (a := (L + 1, o1)) (Nat.ne_of_lt hlS.2) (fun p hp => (List.mem_append.mp hp).elim (htlS p) (hne p)))))) ?_ ?zzFT
        case zzFT => show (List.toArray (vv ++ vs1)).size ≤ sizeLine; rw [List.size_toArray, List.length_append, sizeLine_eq]; omega
        intro h7 F8 N8
        rw [List.push_toArray] at N8
        k_steps
        have F9 := (by assumption : Fr _ _ _ _)
        have N9 := (by assumption : News _ _ _ _)
        have hst : starN lay (acc.2 + 1) (starsN ys) = ([40, 63, 62, 46, 42] : List Nat).map (fun c => (c, lay)) ++ [(63, lay)] := by
          unfold starN
          rw [if_neg (show ¬ 1 < acc.2 + 1 by omega), if_pos (show acc.2 + 1 < starsN ys by omega), if_pos (show acc.2 + 1 < starsN ys by omega)]; rfl
        have hps : patStep lay (starsN ys) acc (q, b) = (acc.1 ++ starN lay (acc.2 + 1) (starsN ys), acc.2 + 1) := by unfold patStep; rw [if_pos hq]
        refine' ⟨rfl, _, _, _, (S, W.listOf (List.toArray ((vv ++ vs1) ++ [Value.ref T2])) (c + 1 + 1)) :: (L + 1, o1) :: (((T2, o2) :: tl1) ++ tl), rfl, F9, news_sub N9 ?nsFT, ?neIFT, some (Value.int (b : Int) t'), some (Value.str ⟨#[q]⟩ t), some (Value.str (Str.ofString "(?>.") _), _, _, ((T2, o2) :: tl1) ++ tl, _, patStep lay (starsN ys) acc (q, b), ?accFT, ?mFT, rfl, ?AFT, ?neSFT, ?leFT, ?lenFT⟩
        case nsFT => exact all_cons (.tail _ (.tail _ (.head _))) (all_cons (.tail _ (.head _)) (all_cons (.tail _ (.tail _ (.tail _ (.head _)))) (all_cons (.head _) (fun p hp => .tail _ (.tail _ (.tail _ (.tail _ hp)))))))
        case neIFT => exact all_cons hSI (all_cons hCI (all_cons (Ne.symm (Nat.ne_of_lt lI)) (fun p hp => (List.mem_append.mp hp).elim (htlI p) (fun hp => ho p (.tail _ (.tail _ hp))))))
        case accFT => rw [List.take_add_one, hyi, List.foldl_append, ← hacc]; rfl
        case mFT =>
          rw [hps]
          funext z
          by_cases e1 : z = Str.ofString "birth"
          · subst e1; rfl
          · by_cases e2 : z = Str.ofString "sign"
            · subst e2; rfl
            · by_cases e3 : z = Str.ofString "ahead"
              · subst e3; rfl
              · by_cases e4 : z = Str.ofString "seen"
                · subst e4; rfl
                · simp only [if_neg e1, if_neg e2, if_neg e3, if_neg e4]
        case AFT =>
          rw [hps, hst]
          dsimp only
          rw [List.map_append, List.map_append, ← encP_map]
          rw [List.append_assoc]; exact ((hA.mono fun _ _ => PairIn.mono fun p hp => .tail _ (List.mem_append_right _ hp)).append ((hA1.mono fun _ _ => PairIn.mono fun p hp => .tail _ (List.mem_append_left _ hp)).append (.cons ⟨T2, o2, tq, t1, nq, rfl, .head _, ho2, hd2q⟩ .nil)))
        case neSFT => exact all_cons (Ne.symm (Nat.ne_of_lt lS)) (fun p hp => (List.mem_append.mp hp).elim (htlS p) (hne p))
        case leFT => rw [hps]; exact Nat.succ_le_succ ha2
        case lenFT => rw [hps]; have := starN_len lay (acc.2 + 1) (starsN ys); dsimp only; rw [List.length_append]; omega
      · unfold Hold
        have hq : ((⟨#[q]⟩ : Str) == Str.ofString "*") = true := ne_bool (b := false) (by assumption)
        have hq : q = 42 := by rw [one_beq star_cps] at hq; simpa using hq
        have hc1 : ¬ 1 < (acc.2 : Int) + 1 := by assumption
        have hc2 : ¬ (acc.2 : Int) + 1 < (us.length : Int) := by assumption
        refine' comp_textK (k := (lay : Int)) (by assumption) ?hhFF ?clFF ?ceFF ?kdFF ?nmFF ?hxFF ?_
        case hhFF => rfl
        case clFF => with_unfolding_all rfl
        case ceFF => decide
        case kdFF => rfl
        case nmFF => decide
        case hxFF => rfl
        k_steps
        have N4 := (by assumption : News _ _ _ _)
        refine ⟨_, _, _, rfl, ?szFF, by assumption, N4, elt_cell rfl rfl (by decide) (by decide) rfl rfl (N4.get (.tail _ (.tail _ (.head _)))) hod, ?_⟩
        case szFF => decide +kernel
        intro D1 vs1 n1 tl1 h5 tk5 F5 N5 hA1 hd1 hd2 hd3
        rw [show (Str.ofString "." ++ Str.ofString "*").cps.toList = [46, 42] by decide +kernel] at hA1
        have hl1 : vs1.length = 2 := by rw [hA1.length, List.length_map]; rfl
        have hvv : vv.length = acc.1.length := by rw [hA.length, List.length_map]
        have hSD1 : @Ne Nat S D1 := hd2 _ (.tail _ (.head _))
        have htlS : ∀ p ∈ tl1, @Ne Nat p.1 S := fun p hp => hd3 p hp _ (.tail _ (.head _))
        have htlI : ∀ p ∈ tl1, @Ne Nat p.1 I := fun p hp => hd3 p hp _ (.head _)
        k_steps
        unfold Hold
        refine kl_extend (by assumption) N5 (List.Mem.head _) rfl ?neFF (Upd.tail (Ne.symm hSD1) (Upd.app htlS (Upd.tail (Ne.symm hSI) (Upd.head (all_cons (a := (L + 1, o1)) (Nat.ne_of_lt hlS.2) hne))))) ?hdFF ?hzFF ?hz2FF ?_
        case neFF => show vs1.length ≠ 0; omega
        case hdFF =>
          have : Builtin.List.listTooLong (vv.toArray.size + vs1.toArray.size) = false := by
            unfold Builtin.List.listTooLong
            rw [List.size_toArray, List.size_toArray, sizeLine_eq]
            exact decide_eq_false (by omega)
          rw [this]; simp
        case hzFF => show vv.length ≤ sizeLine; rw [sizeLine_eq]; omega
        case hz2FF => rw [List.size_toArray, List.size_toArray, sizeLine_eq]; omega
        intro h6 F6 N6
        replace N6 := news_sub (n' := (S, W.listOf (List.toArray (vv ++ vs1)) (c + 1)) :: (I, it) :: (L + 1, o1) :: (tl1 ++ tl)) N6 (all_cons (.tail _ (List.mem_append_right _ (.tail _ (.head _)))) (all_cons (.tail _ (List.mem_append_right _ (.head _))) (all_cons (.tail _ (List.mem_append_right _ (.tail _ (.tail _ (.head _))))) (fun p hp => (List.mem_append.mp hp).elim (fun hp => .tail _ (List.mem_append_left _ hp)) (fun hp => .tail _ (List.mem_append_right _ (.tail _ (.tail _ (.tail _ hp)))))))))
        clear N5
        k_steps
        have F9 := (by assumption : Fr _ _ _ _)
        have N9 := (by assumption : News _ _ _ _)
        have hst : starN lay (acc.2 + 1) (starsN ys) = ([46, 42] : List Nat).map (fun c => (c, lay)) ++ ([] : List (Nat × Nat)) := by
          unfold starN
          rw [if_neg (show ¬ 1 < acc.2 + 1 by omega), if_neg (show ¬ acc.2 + 1 < starsN ys by omega), if_neg (show ¬ acc.2 + 1 < starsN ys by omega)]; rfl
        have hps : patStep lay (starsN ys) acc (q, b) = (acc.1 ++ starN lay (acc.2 + 1) (starsN ys), acc.2 + 1) := by unfold patStep; rw [if_pos hq]
        refine' ⟨rfl, _, _, _, (S, W.listOf (List.toArray (vv ++ vs1)) (c + 1)) :: (L + 1, o1) :: (tl1 ++ tl), rfl, F9, news_sub N9 ?nsFF, ?neIFF, some (Value.int (b : Int) t'), some (Value.str ⟨#[q]⟩ t), some (Value.str (Str.ofString ".") _), _, _, tl1 ++ tl, _, patStep lay (starsN ys) acc (q, b), ?accFF, ?mFF, rfl, ?AFF, ?neSFF, ?leFF, ?lenFF⟩
        case nsFF => exact all_cons (.tail _ (.head _)) (all_cons (.head _) (all_cons (.tail _ (.tail _ (.head _))) (fun p hp => .tail _ (.tail _ (.tail _ hp)))))
        case neIFF => exact all_cons hSI (all_cons hCI (fun p hp => (List.mem_append.mp hp).elim (htlI p) (fun hp => ho p (.tail _ (.tail _ hp)))))
        case accFF => rw [List.take_add_one, hyi, List.foldl_append, ← hacc]; rfl
        case mFF =>
          rw [hps]
          funext z
          by_cases e1 : z = Str.ofString "birth"
          · subst e1; rfl
          · by_cases e2 : z = Str.ofString "sign"
            · subst e2; rfl
            · by_cases e3 : z = Str.ofString "ahead"
              · subst e3; rfl
              · by_cases e4 : z = Str.ofString "seen"
                · subst e4; rfl
                · simp only [if_neg e1, if_neg e2, if_neg e3, if_neg e4]
        case AFF =>
          rw [hps, hst]
          dsimp only
          rw [List.map_append, List.map_append, ← encP_map]
          exact ((hA.mono fun _ _ => PairIn.mono fun p hp => List.mem_append_right _ hp).append (hA1.mono fun _ _ => PairIn.mono fun p hp => List.mem_append_left _ hp))
        case neSFF => exact fun p hp => (List.mem_append.mp hp).elim (htlS p) (hne p)
        case leFF => rw [hps]; exact Nat.succ_le_succ ha2
        case lenFF => rw [hps]; have := starN_len lay (acc.2 + 1) (starsN ys); dsimp only; rw [List.length_append]; omega
    case done =>
      rintro m₁ nx h3 tk3 ⟨u1, u2, u3, vv, c, tl, tt, acc, hacc, rfl, rfl, hA, hne, ha2, hal⟩ F3 N3
      rw [List.length_map, List.take_length] at hacc
      k_steps
      have F9 := (by assumption : Fr _ _ _ _)
      have N9 := (by assumption : News _ _ _ _)
      refine h _ _ _ F9.keep ⟨S, vv, rfl, News.isList N9 (.head _), ?_⟩ (N9 _ (.head _)).2.2
      unfold patN
      rw [if_neg (by omega), ← hacc]
      exact hA.mono fun _ _ => PairIn.at fun q hq => (N9 q (.tail _ (.tail _ hq))).1
end Mine
end
section
open PySem PySem.W PySem.W.X PyProof.Rows PySem.Spec PySem.Calls
set_option Elab.async false
set_option maxRecDepth 100000
namespace Mine
noncomputable def wrapS (y : Str) : Str := Str.ofString "(?>.*?" ++ y ++ Str.ofString ")"
noncomputable def mixS (ys : List Str) (i : Nat) : List Str := ys.mapIdx fun j y => if 1 ≤ j ∧ j ≤ i then wrapS y else y
theorem mixS_length (ys : List Str) (i : Nat) : (mixS ys i).length = ys.length := by simp [mixS]
theorem mixS_zero (ys : List Str) : mixS ys 0 = ys := by
  unfold mixS
  apply List.ext_getElem?
  intro j
  rw [List.getElem?_mapIdx]
  cases ys[j]? with
  | none => rfl
  | some y => simp; intro h1 h2; omega
theorem mixS_get (ys : List Str) (i : Nat) : (mixS ys i).getD (1 + i) Str.empty = ys.getD (1 + i) Str.empty := by
  unfold mixS
  rw [List.getD_eq_getElem?_getD, List.getD_eq_getElem?_getD, List.getElem?_mapIdx]
  cases ys[1 + i]? with
  | none => rfl
  | some y => simp; intro h; omega
theorem mixS_succ (ys : List Str) (i : Nat) (h : 1 + i < ys.length) : (mixS ys i).set (1 + i) (wrapS (ys.getD (1 + i) Str.empty)) = mixS ys (i + 1) := by
  apply List.ext_getElem?
  intro j
  rw [List.getElem?_set, mixS_length]
  by_cases hj : 1 + i = j
  · subst hj
    simp only [if_true, h]
    unfold mixS
    rw [List.getElem?_mapIdx, List.getD_eq_getElem?_getD, List.getElem?_eq_getElem h]
    simp; omega
  · rw [if_neg hj]
    unfold mixS
    rw [List.getElem?_mapIdx, List.getElem?_mapIdx]
    cases ys[j]? with
    | none => rfl
    | some y =>
      simp only [Option.map_some, Option.some.injEq]
      have : (1 ≤ j ∧ j ≤ i) ↔ (1 ≤ j ∧ j ≤ i + 1) := by omega
      simp only [this]
theorem wrapS_len (y : Str) : (wrapS y).length = y.length + 7 := by
  unfold wrapS
  rw [Str.length_append, Str.length_append]
  have h1 : (Str.ofString "(?>.*?").length = 6 := by decide +kernel
  have h2 : (Str.ofString ")").length = 1 := by decide +kernel
  omega
theorem mixS_len {ys : List Str} {i b : Nat} (h : ∀ y ∈ ys, y.length ≤ b) : ∀ y ∈ mixS ys i, y.length ≤ b + 7 := by
  intro y hy
  unfold mixS at hy
  obtain ⟨j, hj, rfl⟩ := List.mem_mapIdx.mp hy
  have := h _ (List.getElem_mem hj)
  split
  · rw [wrapS_len]; omega
  · omega
theorem getD_len {ys : List Str} {k b : Nat} (h : ∀ y ∈ ys, y.length ≤ b) : (ys.getD k Str.empty).length ≤ b := by
  rw [List.getD_eq_getElem?_getD]
  cases hk : ys[k]? with
  | none => exact Nat.zero_le _
  | some y => exact h y (List.mem_of_getElem? hk)
theorem trS_len (y : Str) : (trS y).length ≤ 2 * y.length := by
  have := trOf_len y.cps.toList
  show (trOf y.cps.toList).toArray.size ≤ 2 * y.cps.size
  simpa using this
end Mine
end
section
open PySem PySem.W PySem.W.X PyProof.Rows PySem.Spec PySem.Calls
set_option Elab.async false
set_option maxRecDepth 100000
namespace Mine
theorem ki_setL_of : ∀ (l : List Value) (j : Nat) (v : Value), j < l.length → ki_setL l j v = some (l.set j v)
  | [], j, v, h => absurd h (Nat.not_lt_zero _)
  | a :: l, 0, v, _ => rfl
  | a :: l, j + 1, v, h => by
    unfold ki_setL
    rw [ki_setL_of l j v (Nat.lt_of_succ_lt_succ h)]; rfl
section
variable {prog : Program} {w : World} {A : Around} {E : Value → Shared → Prop} {s : Shared} {h₀ : Heap} {L S : Addr} {m : Str → Option Value} {rest : List (Addr × Obj)} {vs : List Value} {c : Nat} {k : Int} {t : Tok} {v : Value}
theorem set_K {Q : Unit → Shared → Prop} (F : Fr h₀ L s.heap m) (N : News h₀ L s.heap ((S, listO vs.toArray c) :: rest)) (hne : ∀ p ∈ rest, p.1 ≠ S) (h0 : 0 ≤ k) (hk : k < vs.length) (hb : vs.length ≤ 1000000)
    (h : ∀ h', Fr h₀ L h' m → News h₀ L h' ((S, listO (vs.set k.toNat v).toArray c) :: rest) → Q () { s with heap := h' }) :
    wpAny (model prog w) A (setItem (.ref S) (.int k t) v) Q E s := by
  have z := N (S, listO vs.toArray c) (.head _)
  refine ki_setAt z.1 h0 (by omega) (by simpa using hk) (h _ (F.change (Heap.SameBut.update ..) z.2.1 z.2.2) ?_)
  have := ki_turn (pre := []) (fun a => a.setIfInBounds k.toNat v) (n' := c) (its' := (vs.set k.toNat v).toArray) N (fun _ h => nomatch h) hne (by apply Array.toList_inj.mp; simp) (by simp)
  exact this
theorem setLast_K {Q : Unit → Shared → Prop} (F : Fr h₀ L s.heap m) (N : News h₀ L s.heap ((S, listO vs.toArray c) :: rest)) (hne : ∀ p ∈ rest, p.1 ≠ S) (hk : 0 < vs.length) (hb : vs.length ≤ 1000000)
    (h : ∀ h', Fr h₀ L h' m → News h₀ L h' ((S, listO (vs.set (vs.length - 1) v).toArray c) :: rest) → Q () { s with heap := h' }) :
    wpAny (model prog w) A (setItem (.ref S) (.int (-1) t) v) Q E s := by
  have e1 : seqIndex? (-1) vs.toArray.size = some (vs.length - 1) := by
    have := PySem.seqIndex_neg (n := vs.toArray.size) (k := -1) (by decide) (by simp; omega)
    rw [this]; simp; omega
  refine ki_setNeg F N (by decide) (by decide) e1 (q := vs.set (vs.length - 1) v) (ki_setL_of vs _ _ (by omega)) (Upd.head hne) h
end
end Mine
end
section
open PySem PySem.W PySem.W.X PyProof.Rows PySem.Spec PySem.Calls
set_option Elab.async false
set_option maxRecDepth 100000
namespace Mine
local macro_rules | `(tactic| omega) => `(tactic| lia)
theorem strs_set {vs : List Value} {ys : List Str} (h : StrsAre vs ys) : ∀ (k : Nat) (y : Str) (u : Tok), StrsAre (vs.set k (.str y u)) (ys.set k y) := by
  induction h with
  | nil => intro k y u; exact .nil
  | cons z t _ ih =>
    intro k y u
    cases k with
    | zero => exact .cons y u (by assumption)
    | succ k => exact .cons z t (ih k y u)
theorem mem_join (y : Str) : ∀ (ps : List Str) (p : Str), p ∈ ps → ∀ c ∈ p.cps.toList, c ∈ (Str.join y ps).cps.toList
  | [q], p, hp, c, hc => by rcases List.mem_singleton.mp hp with rfl; exact hc
  | q :: r :: l, p, hp, c, hc => by
    show c ∈ (q.cps ++ y.cps ++ (Str.join y (r :: l)).cps).toList
    simp only [Array.toList_append, List.mem_append]
    rcases List.mem_cons.mp hp with rfl | hp
    · exact .inl (.inl hc)
    · exact .inr (mem_join y (r :: l) p hp c hc)
theorem mem_split {x y p : Str} (hp : p ∈ Txt.split x y) {c : Nat} (hc : c ∈ p.cps.toList) : c ∈ x.cps.toList := by
  have := mem_join y _ p hp c hc
  rwa [StrLaws.join_split] at this
noncomputable def starS : Str := Str.ofString "*"
noncomputable def tpParts (ys : List Str) : List Str :=
  (mixS ys (ys.length - 2)).set (ys.length - 1) (Str.ofString ".*" ++ (mixS ys (ys.length - 2)).getD (ys.length - 1) Str.empty)
noncomputable def tpS (x : Str) : Str := Str.join Str.empty (tpParts ((Txt.split x (Str.ofString "*")).map trS))
noncomputable def sumL (ys : List Str) : Nat := (ys.map (·.length)).sum
theorem sumL_mapIdx : ∀ (ys : List Str) (f : Nat → Str → Str), (∀ j y, (f j y).length ≤ y.length + 7) → sumL (ys.mapIdx f) ≤ sumL ys + 7 * ys.length
  | [], _, _ => by simp [sumL]
  | y :: ys, f, h => by
    have := sumL_mapIdx ys (fun j => f (j + 1)) (fun j y => h _ y)
    have h0 := h 0 y
    rw [List.mapIdx_cons]
    unfold sumL at *
    simp only [List.map_cons, List.sum_cons, List.length_cons] at *
    omega
theorem sumL_mix (ys : List Str) (i : Nat) : sumL (mixS ys i) ≤ sumL ys + 7 * ys.length := by
  refine sumL_mapIdx ys _ fun j y => ?_
  split
  · rw [wrapS_len]; omega
  · omega
theorem sumL_set : ∀ (ys : List Str) (k : Nat) (y : Str), sumL (ys.set k (y ++ ys.getD k Str.empty)) ≤ sumL ys + y.length
  | [], _, _ => by simp [sumL]
  | z :: ys, 0, y => by
    unfold sumL
    simp only [List.set_cons_zero, List.getD_cons_zero, List.map_cons, List.sum_cons, Str.length_append]
    omega
  | z :: ys, k + 1, y => by
    have := sumL_set ys k y
    unfold sumL at *
    simp only [List.set_cons_succ, List.getD_cons_succ, List.map_cons, List.sum_cons] at *
    omega
theorem sumL_tr : ∀ (ys : List Str), sumL (ys.map trS) ≤ 2 * sumL ys
  | [] => by simp [sumL]
  | z :: ys => by
    have := sumL_tr ys
    have h := trS_len z
    unfold sumL at *
    simp only [List.map_cons, List.sum_cons] at *
    omega
theorem sumL_tp (x : Str) : sumL (tpParts ((Txt.split x (Str.ofString "*")).map trS)) ≤ 7 * x.length + 9 := by
  have h1 := split_weight x (Str.ofString "*") (by decide +kernel)
  have h2 := sumL_tr (Txt.split x (Str.ofString "*"))
  have h3 := sumL_mix ((Txt.split x (Str.ofString "*")).map trS) (((Txt.split x (Str.ofString "*")).map trS).length - 2)
  have h4 := sumL_set (mixS ((Txt.split x (Str.ofString "*")).map trS) (((Txt.split x (Str.ofString "*")).map trS).length - 2)) (((Txt.split x (Str.ofString "*")).map trS).length - 1) (Str.ofString ".*")
  have h5 : (Str.ofString ".*").length = 2 := by decide +kernel
  unfold tpParts
  rw [List.length_map] at *
  unfold sumL at *
  omega
theorem len_join : ∀ ys : List Str, (Str.join Str.empty ys).length = sumL ys
  | [] => rfl
  | [y] => by simp [sumL, Str.join]
  | y :: z :: ys => by
    have := len_join (z :: ys)
    show (y ++ Str.empty ++ Str.join Str.empty (z :: ys)).length = _
    rw [Str.length_append, Str.length_append, this]
    unfold sumL
    simp only [List.map_cons, List.sum_cons]
    have : Str.empty.length = 0 := rfl
    omega
theorem tpS_len (x : Str) : (tpS x).length ≤ 7 * x.length + 9 := by
  unfold tpS
  rw [len_join]
  exact sumL_tp x
theorem join_nilS (l : List Str) : Txt.join (Str.ofString "") l = Str.join Str.empty l := by
  have := join_closes (sep := Str.ofString "") (sep' := Str.empty) (ys := l) rfl
  exact eq_of_beq this
end Mine
end
section
open PySem PySem.W PySem.W.X PyProof.Rows PySem.Spec PySem.Calls
set_option Elab.async false
set_option maxRecDepth 100000
set_option maxHeartbeats 0
namespace Mine
theorem off_F3 : True := by
  w_top off
  trivial
local macro_rules | `(tactic| omega) => `(tactic| lia)
local macro_rules | `(tactic| size_fits) => `(tactic| exact Nat.le_of_ble_eq_true rfl)
local macro_rules | `(tactic| walk_at "pyIter ref") => `(tactic| with_reducible refine hold_in ?_)
theorem tn1 (n : Nat) : (-1 + (n : Int)).toNat = n - 1 := by omega
theorem spec_tp {w : World} {dp un : Nat} {fr : Option (List Env)} {gd : Option (List Code)} {s : Shared} {x : Str} {t : Tok} {loose mean mg mb} {Q : Value → Shared → Prop} {E : Value → Shared → Prop}
  (X : (Mine.hd.heap_1 w.params).In s.heap) (T : Top topProg loose mean mg mb s.heap) (hd : dp < 800) (hu : un < 500) (hx : x.cps.size ≤ 10000) (hs : ∀ c ∈ x.cps.toList, c ∈ Rx.sigma)
  (h : ∀ h' tk u, Grow s.heap h' → Q (.str (tpS x) u) { s with heap := h', toks := tk }) :
  wpAny (model PySem.Challenge.rw_re0054_01.row.prog w) (AA dp un fr gd) (call (.ref 50) [.str x t]) Q E s := by
  revert X; k_fill; intro X
  refine' enterK ?k1 ?k2 ?k3 ?k4 ?k5 ?k6 ?k7 ?_ ?k8 ?k9 ?k10 ?k11
  case k1 => assumption
  case k2 => exact T.nolimit
  case k3 => k_is
  case k4 => k_is
  case k5 => have : recursionLimit = 1000 := rfl; show dp < recursionLimit; omega
  case k6 => exact BindsTo.of_eq rfl
  case k7 => exact locs rfl
  case k8 => rfl
  case k9 => rfl
  case k10 => rfl
  case k11 => decide
  intro L h₁ hL F N
  dsimp only
  k_fold
  have hxl : x.length ≤ 100000 := Nat.le_trans hx (by decide)
  k_steps
  rename_i l h' k hsp hsa hle hil F' N'
  refine map_K F' N' hil ?_
  clear F' N' hil
  intro mp tp li h' F' N' l1 l2 l3
  k_steps
  refine list_map_K X T (by show dp + 1 < 900; omega) rfl F' N' l1 l2 l3 (.head _) hsa ?hy ?hn ?_
  case hy => intro y hy; rw [hsp] at hy; exact ⟨Nat.le_trans (part_short hy) (Nat.le_trans hx (by decide)), fun c hc => hs c (mem_split hy hc)⟩
  case hn => have := len_le_of_split hsp; have : x.length ≤ 10000 := hx; rw [List.length_map]; omega
  clear F' N'
  intro S vs c h' tk F' N' hsa' l4
  replace N' : News s.heap L h' [(S, listO vs.toArray c)] := fun p hp => N' p (by rcases List.mem_singleton.mp hp with rfl; exact .head _)
  clear l1 l2 l3 l4
  have hlen : vs.length = l.length := by rw [strs_len hsa']; simp
  have hlen2 : vs.length ≤ 10002 := by have := len_le_of_split hsp; have : x.length ≤ 10000 := hx; omega
  k_steps
  refine kun_lenL (k := (vs.length : Int)) (News.isList (by assumption) (.head _)) (by simp) (by omega) ?_
  k_steps
  unfold Hold
  rename_i h2 tk2 t2 u2 v2 hR F2 N2 hk2
  generalize hys : List.map trS (List.map (fun x => x.fst) l) = ys at hsa'
  have hyl : ys.length = vs.length := (strs_len hsa').symm
  have hyb : ∀ y ∈ ys, y.length ≤ 20000 := by
    intro y hy
    rw [← hys] at hy
    obtain ⟨z, hz, rfl⟩ := List.mem_map.mp hy
    have := trS_len z; have := hle z hz; have : x.length ≤ 10000 := hx
    omega
  have hpos : 0 < vs.length := by have := len_of_split hsp; omega
  refine iter_rangeJ (fun i m nx => ∃ u vs' c', m = (fun y => if y = Str.ofString "i" then u else if y = Str.ofString "parts" then some (Value.ref S) else if y = Str.ofString "path" then some (Value.str x t) else none) ∧ nx = [(S, listO (vs' : List Value).toArray c')] ∧ StrsAre vs' (mixS ys i))
    (n := vs.length - 2) rfl hR ?small ?hn F2 N2 ?init ?turn ?done
  case small => exact small_one (by decide) (by decide) (by omega) (by omega)
  case hn => rw [rangeSize_nat]; omega
  case init =>
    refine ⟨none, vs, c, ?_, rfl, ?_⟩
    · funext y
      by_cases e1 : y = Str.ofString "i"
      · subst e1; rfl
      · by_cases e2 : y = Str.ofString "parts"
        · subst e2; rfl
        · rw [if_neg e1, if_neg e2, if_neg e2]
          by_cases e3 : y = Str.ofString "path"
          · subst e3; rfl
          · rw [if_neg e3]
            show List.lookup y [(Str.ofString "path", Value.str x t)] = none
            have e4 : (y == Str.ofString "path") = false := beq_eq_false_iff_ne.mpr e3
            simp only [List.lookup, e4]
    · rw [mixS_zero]; exact hsa'
  case turn =>
    rintro i tk' m₁ nx h3 tk3 own hi ho ⟨u, vs', c', rfl, rfl, hs3⟩ F3 N3
    dsimp only [List.cons_append, List.nil_append] at N3
    have hyb' := mixS_len (i := i) hyb
    have hl3 : (mixS ys i).length = vs.length := by rw [mixS_length, hyl]
    have hkl : ((mixS ys i).getD ((1 : Int) + (i : Nat)).toNat Str.empty).length ≤ 20007 := getD_len hyb'
    have hl4 : vs'.length = vs.length := by rw [strs_len hs3, hl3]
    have hk1 : (1 : Int) + (i : Nat) < vs'.length := by omega
    k_steps
    refine set_K F3 N3 (ho.ne (by simp)) (by omega) hk1 (by omega) ?_
    intro h4 F4 N4
    k_steps
    have e1 : ((1 : Int) + (i : Nat)).toNat = 1 + i := by omega
    refine ⟨h4, _, _, _, [_], rfl, F4, N4, List.forall_mem_singleton.mpr (List.Mem.head _), fun p hp => .tail _ hp, rfl, ?_⟩
    refine ⟨some (Value.int (1 + (i : Nat)) tk'), _, c', ?_, rfl, ?_⟩
    · funext y
      by_cases e1 : y = Str.ofString "i"
      · subst e1; rfl
      · simp only [if_neg e1]
    · have := strs_set (show StrsAre vs' (mixS ys i) by assumption) (1 + i) (wrapS (ys.getD (1 + i) Str.empty))
      rw [mixS_succ _ _ (by omega)] at this
      rw [e1, mixS_get]
      exact this _
  case done =>
    rintro m₁ nx h3 tk3 ⟨u, vs', c', rfl, rfl, hs3⟩ F3 N3
    have hyb' := mixS_len (i := vs.length - 2) hyb
    have hl3 : (mixS ys (vs.length - 2)).length = vs.length := by rw [mixS_length, hyl]
    have hl4 : vs'.length = vs.length := by rw [strs_len hs3, hl3]
    have hbd : ((mixS ys (vs.length-2)).getD (-1 + (((mixS ys (vs.length-2)).length : Nat) : Int)).toNat Str.empty).length ≤ 20007 := getD_len hyb'
    k_steps
    refine setLast_K F3 N3 (by simp) (by omega) (by omega) ?_
    intro h4 F4 N4
    k_steps
    have e1 : (-1 + (((mixS ys (vs.length-2)).length : Nat) : Int)).toNat = ys.length - 1 := by rw [hl3, ← hyl]; exact tn1 _
    have e2 : vs.length - 2 = ys.length - 2 := by rw [hyl]
    have e3 : vs'.length - 1 = ys.length - 1 := by rw [hl4, hyl]
    rw [e1, e2, e3] at N4
    rw [e2] at hs3
    have hs4 := fun u => strs_set hs3 (ys.length - 1) (Str.ofString ".*" ++ (mixS ys (ys.length - 2)).getD (ys.length - 1) Str.empty) u
    have hys' : ys = (Txt.split x (Str.ofString "*")).map trS := by rw [← hys, hsp]
    refine join_list (News.isList N4 (.head _)) (ys := tpParts ys) (by exact hs4 _) ?_ ?_
    · have := sumL_tp x
      rw [← hys'] at this
      have e0 : (Str.ofString "").length = 0 := rfl
      have : x.length ≤ 10000 := hx
      unfold sumL at *
      rw [e0]; omega
    · intro t' k
      have : Txt.join (Str.ofString "") (tpParts ys) = tpS x := by unfold tpS; rw [← hys']; exact join_nilS _
      rw [this]
      exact h _ _ _ F4.keep
end Mine
end
section
open PySem PySem.W PySem.W.X PyProof.Rows PySem.Spec PySem.Calls
set_option Elab.async false
set_option maxRecDepth 100000
namespace Mine
theorem strs_snoc {us : List Value} {zs : List Str} (H : StrsAre us zs) {z : Str} {t : Tok} : StrsAre (us ++ [.str z t]) (zs ++ [z]) := by
  induction H with
  | nil => exact .cons z t .nil
  | cons y u r ih => exact .cons y u ih
section
variable {prog : Program} {w : World} {A : Around} {E : Value → Shared → Prop} {env : Env}
theorem comp_vals {s : Shared} {elt iter : Expr} {x : Str} {px : Pos} {scope : Scope} {cl : List (Str × Addr)} {pos : Pos} {Q : Value → Shared → Prop} {h₀ : Heap} {L : Addr} {m : Str → Option Value} (R : Value → Value → Prop)
    (_F₀ : Fr h₀ L s.heap m) (hh : A.handled = none) (hclos : closureFor scope env = pure cl) (hcell : ∀ y ∈ scope.names, y.2 ≠ .cell) (hkind : scope.kind = .function)
    (hnames : ∀ y ∈ scope.names, y.2 = .local → scope.names.lookup y.1 = some .local) (hx : scope.names.lookup x = some .local)
    (h : wpAny (model prog w) A (eval iter env) (Opq fun xv s₁ => ∃ l vs n₀ news, xv = .ref l ∧ (l, W.listOf (List.toArray vs) n₀) ∈ news ∧ vs.length ≤ sizeLine ∧ Fr h₀ L s₁.heap m ∧ News h₀ L s₁.heap news ∧
      (∀ v ∈ vs, ∀ C oC I oI D oD m₃ h tk (Q' : Value → Shared → Prop) E', LCg.NsObj oC m₃ → m₃ x = some v → Fr h₀ L h m → News h₀ L h ((C, oC) :: (I, oI) :: (D, oD) :: news) → (∀ y h' tk', R v y → Fr h₀ L h' m → News h₀ L h' ((C, oC) :: (I, oI) :: (D, oD) :: news) → Q' y { s₁ with heap := h', toks := tk' }) →
        wpAny (model prog w) A (eval elt (compEnvC scope cl C env)) Q' E' { s₁ with heap := h, toks := tk }) ∧
      (∀ D (us : List Value) n h' tk, Fr h₀ L h' m → News h₀ L h' ((D, W.listOf us.toArray n) :: news) → (∀ p ∈ news, @Ne Nat p.1 D) → All2 R vs us → Q (.ref D) { s₁ with heap := h', toks := tk })) E s)
    (hs : ∀ x, foldedSetIterable iter env x = pure x := by intro _; rfl) :
    wpAny (model prog w) A (eval (.ListComp elt [⟨.Name x px, iter, [], 0⟩] scope pos) env) Q E s := by
  rw [eval_ListComp]
  refine wpAny_comprehension_free (use := none) rfl hs hclos hkind hnames (wpAny_mono h (fun xv s₁ h₁ => ?_) fun _ _ e => e)
  obtain ⟨l, vs, n₀, news, rfl, hlm, hsz, F, N, helt, done⟩ := h₁
  have hl₁ : s₁.heap.IsList l vs.toArray := News.isList N hlm
  have hol := (N _ hlm).1
  have hll : l < s₁.heap.objs.size := Heap.lt_size hol
  refine wpAny_pyIter_list hl₁ ?_
  have Wk := Walks.list (prog := prog) (w := w) hh s₁.heap.objs.size l (Nat.ne_of_lt hll) vs.toArray
  have hst : (s₁.heap.push { cls := .type "list_iterator", data := .fields #[.ref l, .int 0 0] }).IsListIter s₁.heap.objs.size l 0 ∧ (s₁.heap.push { cls := .type "list_iterator", data := .fields #[.ref l, .int 0 0] }).IsList l vs.toArray := ⟨⟨_, Heap.get?_push_size _ rfl, rfl, rfl⟩, hl₁.at fun o e => Heap.get?_push_of_some _ e⟩
  generalize ({ cls := .type "list_iterator", data := .fields #[.ref l, .int 0 0] } : Obj) = oI at *
  refine wpAny_newObj_type (wpAny_newFunctionEnv hcell (by intro y hy; simp at hy) (fun h₁ hns₁ hsb₁ => ?_) hkind)
  dsimp only at hns₁ hsb₁ hol ⊢
  generalize hI : s₁.heap.objs.size = I at *
  generalize hH1 : s₁.heap.push oI = H1 at *
  have hH1s : H1.objs.size = I + 1 := by rw [← hH1, Heap.size_push, hI]
  generalize hD : H1.objs.size = D at *
  generalize hH2 : H1.push { cls := .type "list", dict := none, data := .seq ([] : List Value).toArray } = H2 at *
  have hC0 : H2.objs.size = D + 1 := by rw [← hH2, Heap.size_push, hD]
  generalize hC : H2.objs.size = C at *
  have hID : I ≠ D := by rw [hH1s]; exact Nat.ne_of_lt (Nat.lt_succ_self _)
  have hDC : D ≠ C := by rw [hC0]; exact Nat.ne_of_lt (Nat.lt_succ_self _)
  have hIC : I ≠ C := by rw [hC0, hH1s]; exact Nat.ne_of_lt (Nat.lt_succ_of_lt (Nat.lt_succ_self _))
  have below : ∀ b o, s₁.heap.get? b = some o → b ≠ I ∧ b ≠ D ∧ b ≠ C := fun b o e => by
    have := Heap.lt_size e
    rw [hI] at this
    refine ⟨Nat.ne_of_lt this, ?_, ?_⟩
    · rw [hH1s]; exact Nat.ne_of_lt (Nat.lt_succ_of_lt this)
    · rw [hC0, hH1s]; exact Nat.ne_of_lt (Nat.lt_succ_of_lt (Nat.lt_succ_of_lt this))
  have old : ∀ b o, s₁.heap.get? b = some o → h₁.get? b = some o := fun b o e =>
    hsb₁.extBut b o (below b o e).2.2 (Heap.get?_push_of_some _ (hH2 ▸ Heap.get?_push_of_some _ (hH1 ▸ Heap.get?_push_of_some _ e)))
  have fresh : ∀ a, I ≤ a → s₁.heap.get? a = none := fun a ha => by
    cases e : s₁.heap.get? a with
    | none => rfl
    | some o' => have := Heap.lt_size e; rw [hI] at this; exact absurd this (Nat.not_lt.mpr ha)
  have hDn : s₁.heap.get? D = none := fresh _ (by rw [hH1s]; exact Nat.le_succ _)
  have hCn : s₁.heap.get? C = none := fresh _ (by rw [hC0, hH1s]; exact Nat.le_succ_of_le (Nat.le_succ _))
  have n0 : ∀ b, s₁.heap.get? b = none → h₀.get? b = none := fun b hb => by
    cases q : h₀.get? b with
    | none => rfl
    | some o => have := F.keep _ _ q; rw [hb] at this; cases this
  have hLl : ∃ o, s₁.heap.get? L = some o := by obtain ⟨o, _, _, ho, _⟩ := F.ns; exact ⟨o, ho⟩
  have hCL : C ≠ L := by obtain ⟨o, ho⟩ := hLl; exact live_ne hCn ho
  have hDL : D ≠ L := by obtain ⟨o, ho⟩ := hLl; exact live_ne hDn ho
  have up₁ : ∀ b o, H1.get? b = some o → h₁.get? b = some o := fun b o e => by
    have hb := Heap.lt_size e
    rw [hD] at hb
    exact hsb₁.extBut b o (by rw [hC0]; exact Nat.ne_of_lt (Nat.lt_succ_of_lt hb)) (Heap.get?_push_of_some _ (hH2 ▸ Heap.get?_push_of_some _ e))
  have hacc : h₁.get? D = some (W.listOf ([] : List Value).toArray 0) := hsb₁.extBut _ _ hDC (Heap.get?_push_of_some _ (by rw [← hH2, ← hD]; exact Heap.get?_push_size _ rfl))
  have hst₁ : h₁.IsListIter I l 0 ∧ h₁.IsList l vs.toArray := Wk.frame _ _ _ hst fun b _ o e => up₁ b o e
  have hDf : l ≠ D := (below _ _ hol).2.1
  have hCf : l ≠ C := (below _ _ hol).2.2
  have offN : ∀ q ∈ news, q.1 ≠ I ∧ q.1 ≠ D ∧ q.1 ≠ C := fun q hq => below _ _ (N q hq).1
  have hIL : I ≠ L := by obtain ⟨o, ho⟩ := hLl; exact Ne.symm (below _ _ ho).1
  have hIn : s₁.heap.get? I = none := fresh _ (Nat.le_refl _)
  have loop : ∀ s₃ : Shared, s₃ = { s₁ with heap := h₁, toks := s₁.toks + ([] : List (Str × Value)).length } →
      codeAny (model prog w) A (.compLoop (.ListComp elt [⟨.Name x px, iter, [], 0⟩] scope pos) 0 (.ref I) (.ref D) (compEnvC scope cl C env))
        (compPost (model prog w) A E none Q (.ref D) C) s₃ := by
    rintro s₃ rfl
    refine kcp_loop
      (fun k' s' => ∃ h' tk i us m' n, s' = { s₁ with heap := h', toks := tk } ∧ i ≤ vs.length ∧ k' = vs.length + 1 - i ∧ (us : List Value).length = i ∧ All2 R (vs.take i) us ∧ h'.IsListIter I l i ∧ h'.Ns C m' ∧ h'.get? D = some (W.listOf us.toArray n) ∧
        Fr h₀ L h' m ∧ News h₀ L h' news) ?_ (vs.length + 1)
      ⟨h₁, _, 0, [], _, 0, rfl, Nat.zero_le _, rfl, rfl, .nil, hst₁.1, hns₁, hacc, Fr.keeps F old, News.grown N old⟩
    rintro k' s' ⟨h', tk, i, us, m', n, rfl, hi', rfl, hul, hR, hst', hn', hD', hF', hN'⟩
    have hsize : vs.toArray.size = vs.length := by simp
    have hlst : h'.IsList l vs.toArray := News.isList hN' hlm
    by_cases hlt : i < vs.length
    · refine Wk.item i _ _ _ (by rw [hsize]; exact hlt) ⟨hst', hlst⟩ fun v h₂ tk₂ hPv hst₂ hk₂ => ?_
      have up₂ : ∀ b o, b ≠ I → h'.get? b = some o → h₂.get? b = some o := fun b o hb e => hk₂ b o (fun q => hb (List.mem_singleton.mp q)) e
      have hv : vs[i]? = some v := by simpa using hPv
      refine wpAny_of_eq (by rfl) ?_
      refine wpAny_assign_Name (wpAny_storeName_local (lookup_relabel_local hx) (hn'.at' fun o e => up₂ _ o (Ne.symm hIC) e) (fun h₃ hn₃ hs₃ => ?_) (by simp [compEnvC, relabel, hkind]))
      have up₃ : ∀ b o, b ≠ I → b ≠ C → h'.get? b = some o → h₃.get? b = some o := fun b o b1 b2 e => hs₃.extBut b o b2 (up₂ b o b1 e)
      have hD₃ : h₃.get? D = some (W.listOf us.toArray n) := up₃ _ _ (Ne.symm hID) hDC hD'
      have F₃ : Fr h₀ L h₃ m := ⟨hF'.ns.at' fun o e => up₃ _ o (Ne.symm hIL) (Ne.symm hCL) e, fun b o e => up₃ b o (fun q => by rw [q] at e; rw [n0 _ hIn] at e; cases e) (fun q => by rw [q] at e; rw [n0 _ hCn] at e; cases e) (hF'.keep b o e), hF'.above⟩
      obtain ⟨oC, heC, hoC⟩ := LCg.ns_obj hn₃
      have hst₃ : h₃.IsListIter I l (i + 1) := by
        obtain ⟨o, ho, r⟩ := hst₂.1
        exact ⟨o, hs₃.extBut _ _ hIC ho, r⟩
      obtain ⟨oI', heI, hIr⟩ := hst₃
      have N₃ : News h₀ L h₃ ((C, oC) :: (I, oI') :: (D, W.listOf us.toArray n) :: news) := fun q hq => by
        rcases List.mem_cons.mp hq with rfl | hq
        · exact ⟨heC, hCL, n0 _ hCn⟩
        rcases List.mem_cons.mp hq with rfl | hq
        · exact ⟨heI, hIL, n0 _ hIn⟩
        rcases List.mem_cons.mp hq with rfl | hq
        · exact ⟨hD₃, hDL, n0 _ hDn⟩
        · exact ⟨up₃ _ _ (offN q hq).1 (offN q hq).2.2 (hN' q hq).1, (hN' q hq).2⟩
      refine helt v (List.mem_of_getElem? hv) C oC I oI' D _ _ h₃ _ _ _ hoC (by simp) F₃ N₃ fun y h₄ tk₄ hRy F₄ N₄ => ?_
      have hD₄ := (N₄ _ (.tail _ (.tail _ (.head _)))).1
      refine append_at (hsz := by show us.toArray.size ≤ sizeLine; rw [List.size_toArray, hul]; exact Nat.le_trans hi' hsz) hD₄ fun h₅ hs₅ hD₅ => ?_
      refine ⟨vs.length + 1 - (i + 1), by omega, h₅, tk₄, i + 1, us ++ [y], _, n + 1, rfl, hlt, rfl, by rw [List.length_append, hul]; rfl, ?_, ⟨oI', hs₅.extBut _ _ hID (N₄ _ (.tail _ (.head _))).1, hIr⟩, (hoC.ns (N₄ _ (.head _)).1).sameBut hs₅ (Ne.symm hDC), ?_, F₄.change hs₅ hDL (n0 _ hDn), fun q hq => ⟨hs₅.extBut _ _ (offN q hq).2.1 (N₄ q (.tail _ (.tail _ (.tail _ hq)))).1, (hN' q hq).2⟩⟩
      · rw [List.take_add_one, hv]; exact hR.append (.cons hRy .nil)
      · rw [hD₅, List.push_toArray]
    · obtain rfl : i = vs.length := Nat.le_antisymm hi' (Nat.not_lt.mp hlt)
      refine Wk.done _ _ _ (by rw [hsize]; exact ⟨hst', hlst⟩) fun h₂ tk₂ hk₂ => ?_
      have up₂ : ∀ b o, b ≠ I → h'.get? b = some o → h₂.get? b = some o := fun b o b1 e => hk₂ b o (fun q => b1 (List.mem_singleton.mp q)) e
      refine ⟨m', hn'.at' fun o e => up₂ _ o (Ne.symm hIC) e, fun h'' hs'' => ?_⟩
      have up'' : ∀ b o, b ≠ I → b ≠ C → h'.get? b = some o → h''.get? b = some o := fun b o b1 b2 e => hs''.extBut b o b2 (up₂ b o b1 e)
      refine done D us n h'' tk₂ ⟨hF'.ns.at' fun o e => up'' _ o (Ne.symm hIL) (Ne.symm hCL) e, fun b o e => up'' b o (fun q => by rw [q] at e; rw [n0 _ hIn] at e; cases e) (fun q => by rw [q] at e; rw [n0 _ hCn] at e; cases e) (hF'.keep b o e), hF'.above⟩ ?_ (fun q hq => Ne.symm (live_ne hDn (N q hq).1)) (by rw [List.take_of_length_le (Nat.le_refl _)] at hR; exact hR)
      intro q hq
      rcases List.mem_cons.mp hq with rfl | hq
      · exact ⟨up'' _ _ (Ne.symm hID) hDC hD', hDL, n0 _ hDn⟩
      · exact ⟨up'' _ _ (offN q hq).1 (offN q hq).2.2 (hN' q hq).1, (hN' q hq).2⟩
  exact codeAny_compStart_list (loop _ rfl) (Wk.self 0 _ _ _ hst₁ (loop _ rfl))
theorem comp_filter_text {s : Shared} {elt iter c : Expr} {x : Str} {px : Pos} {scope : Scope} {cl : List (Str × Addr)} {pos : Pos} {Q : Value → Shared → Prop} {h₀ : Heap} {L : Addr} {m : Str → Option Value} (p : Nat → Bool)
    (_F₀ : Fr h₀ L s.heap m) (hh : A.handled = none) (hclos : closureFor scope env = pure cl) (hcell : ∀ y ∈ scope.names, y.2 ≠ .cell) (hkind : scope.kind = .function)
    (hnames : ∀ y ∈ scope.names, y.2 = .local → scope.names.lookup y.1 = some .local) (hx : scope.names.lookup x = some .local)
    (h : wpAny (model prog w) A (eval iter env) (Opq fun xv s₁ => ∃ y t news, xv = .str y t ∧ y.cps.size ≤ sizeLine ∧ Fr h₀ L s₁.heap m ∧ News h₀ L s₁.heap news ∧
      (∀ C oC k t m₃ h tk (Q' : Bool → Shared → Prop) E', LCg.NsObj oC m₃ → m₃ x = some (.str ⟨#[k]⟩ t) → Fr h₀ L h m → News h₀ L h [(C, oC)] → (∀ tk', Q' (p k) { s₁ with heap := h, toks := tk' }) →
        wpAny (model prog w) A (isTrue c (compEnvC scope cl C env) (eval c (compEnvC scope cl C env))) Q' E' { s₁ with heap := h, toks := tk }) ∧
      (∀ C oC k t m₃ h tk (Q' : Value → Shared → Prop) E', LCg.NsObj oC m₃ → m₃ x = some (.str ⟨#[k]⟩ t) → Fr h₀ L h m → News h₀ L h [(C, oC)] → (∀ t' tk', Q' (.str ⟨#[k]⟩ t') { s₁ with heap := h, toks := tk' }) →
        wpAny (model prog w) A (eval elt (compEnvC scope cl C env)) Q' E' { s₁ with heap := h, toks := tk }) ∧
      (∀ D (us : List Value) n h' tk, Fr h₀ L h' m → News h₀ L h' ((D, W.listOf us.toArray n) :: news) → (∀ p ∈ news, @Ne Nat p.1 D) → us.length = (y.cps.toList.filter p).length → (∃ zs, StrsAre us zs ∧ ∀ z ∈ zs, ∃ k, k ∈ y.cps.toList ∧ z = (⟨#[k]⟩ : Str)) → Q (.ref D) { s₁ with heap := h', toks := tk })) E s)
    (hs : ∀ x, foldedSetIterable iter env x = pure x := by intro _; rfl) :
    wpAny (model prog w) A (eval (.ListComp elt [⟨.Name x px, iter, [c], 0⟩] scope pos) env) Q E s := by
  rw [eval_ListComp]
  refine wpAny_comprehension_free (use := none) rfl hs hclos hkind hnames (wpAny_mono h (fun xv s₁ h₁ => ?_) fun _ _ e => e)
  obtain ⟨y, t, news, rfl, hsz, F, N, htest, helt, done⟩ := h₁
  refine pyIter_text fun oI St W0 hlive hst => ?_
  have Wk := W0 A hh
  refine wpAny_newObj_type (wpAny_newFunctionEnv hcell (by intro y hy; simp at hy) (fun h₁ hns₁ hsb₁ => ?_) hkind)
  dsimp only at hns₁ hsb₁ ⊢
  generalize hI : s₁.heap.objs.size = I at *
  generalize hH1 : s₁.heap.push oI = H1 at *
  have hH1s : H1.objs.size = I + 1 := by rw [← hH1, Heap.size_push, hI]
  generalize hD : H1.objs.size = D at *
  generalize hH2 : H1.push { cls := .type "list", dict := none, data := .seq ([] : List Value).toArray } = H2 at *
  have hC0 : H2.objs.size = D + 1 := by rw [← hH2, Heap.size_push, hD]
  generalize hC : H2.objs.size = C at *
  have hID : I ≠ D := by rw [hH1s]; exact Nat.ne_of_lt (Nat.lt_succ_self _)
  have hDC : D ≠ C := by rw [hC0]; exact Nat.ne_of_lt (Nat.lt_succ_self _)
  have hIC : I ≠ C := by rw [hC0, hH1s]; exact Nat.ne_of_lt (Nat.lt_succ_of_lt (Nat.lt_succ_self _))
  have below : ∀ b o, s₁.heap.get? b = some o → b ≠ I ∧ b ≠ D ∧ b ≠ C := fun b o e => by
    have := Heap.lt_size e
    rw [hI] at this
    refine ⟨Nat.ne_of_lt this, ?_, ?_⟩
    · rw [hH1s]; exact Nat.ne_of_lt (Nat.lt_succ_of_lt this)
    · rw [hC0, hH1s]; exact Nat.ne_of_lt (Nat.lt_succ_of_lt (Nat.lt_succ_of_lt this))
  have old : ∀ b o, s₁.heap.get? b = some o → h₁.get? b = some o := fun b o e =>
    hsb₁.extBut b o (below b o e).2.2 (Heap.get?_push_of_some _ (hH2 ▸ Heap.get?_push_of_some _ (hH1 ▸ Heap.get?_push_of_some _ e)))
  have fresh : ∀ a, I ≤ a → s₁.heap.get? a = none := fun a ha => by
    cases e : s₁.heap.get? a with
    | none => rfl
    | some o' => have := Heap.lt_size e; rw [hI] at this; exact absurd this (Nat.not_lt.mpr ha)
  have hDn : s₁.heap.get? D = none := fresh _ (by rw [hH1s]; exact Nat.le_succ _)
  have hCn : s₁.heap.get? C = none := fresh _ (by rw [hC0, hH1s]; exact Nat.le_succ_of_le (Nat.le_succ _))
  have n0 : ∀ b, s₁.heap.get? b = none → h₀.get? b = none := fun b hb => by
    cases q : h₀.get? b with
    | none => rfl
    | some o => have := F.keep _ _ q; rw [hb] at this; cases this
  have hLl : ∃ o, s₁.heap.get? L = some o := by obtain ⟨o, _, _, ho, _⟩ := F.ns; exact ⟨o, ho⟩
  have hCL : C ≠ L := by obtain ⟨o, ho⟩ := hLl; exact live_ne hCn ho
  have hDL : D ≠ L := by obtain ⟨o, ho⟩ := hLl; exact live_ne hDn ho
  have up₁ : ∀ b o, H1.get? b = some o → h₁.get? b = some o := fun b o e => by
    have hb := Heap.lt_size e
    rw [hD] at hb
    exact hsb₁.extBut b o (by rw [hC0]; exact Nat.ne_of_lt (Nat.lt_succ_of_lt hb)) (Heap.get?_push_of_some _ (hH2 ▸ Heap.get?_push_of_some _ e))
  have hacc : h₁.get? D = some (W.listOf ([] : List Value).toArray 0) := hsb₁.extBut _ _ hDC (Heap.get?_push_of_some _ (by rw [← hH2, ← hD]; exact Heap.get?_push_size _ rfl))
  have hst₁ : St 0 h₁ := Wk.frame _ _ _ hst fun b _ o e => up₁ b o e
  have loop : ∀ s₃ : Shared, s₃ = { s₁ with heap := h₁, toks := s₁.toks + ([] : List (Str × Value)).length } →
      codeAny (model prog w) A (.compLoop (.ListComp elt [⟨.Name x px, iter, [c], 0⟩] scope pos) 0 (.ref I) (.ref D) (compEnvC scope cl C env))
        (compPost (model prog w) A E none Q (.ref D) C) s₃ := by
    rintro s₃ rfl
    refine kct_loop
      (fun k' s' => ∃ h' tk i us m' n, s' = { s₁ with heap := h', toks := tk } ∧ i ≤ y.cps.size ∧ k' = y.cps.size + 1 - i ∧ (us : List Value).length = ((y.cps.toList.take i).filter p).length ∧ (∃ zs, StrsAre us zs ∧ ∀ z ∈ zs, ∃ k, k ∈ y.cps.toList ∧ z = (⟨#[k]⟩ : Str)) ∧ St i h' ∧ h'.Ns C m' ∧ h'.get? D = some (W.listOf us.toArray n) ∧
        (∀ b o, s₁.heap.get? b = some o → h'.get? b = some o)) ?_ (y.cps.size + 1)
      ⟨h₁, _, 0, [], _, 0, rfl, Nat.zero_le _, rfl, rfl, ⟨[], .nil, (fun _ h => nomatch h)⟩, hst₁, hns₁, hacc, old⟩
    rintro k' s' ⟨h', tk, i, us, m', n, rfl, hi', rfl, hul, hzs, hst', hn', hD', hk'⟩
    by_cases hlt : i < y.cps.size
    · refine Wk.item i _ _ _ hlt hst' fun v h₂ tk₂ hPv hst₂ hk₂ => ?_
      obtain ⟨k, u, hc, rfl⟩ := hPv
      have up₂ : ∀ b o, b ≠ I → h'.get? b = some o → h₂.get? b = some o := fun b o hb e => hk₂ b o (fun q => hb (List.mem_singleton.mp q)) e
      refine wpAny_of_eq (by rfl) ?_
      refine wpAny_assign_Name (wpAny_storeName_local (lookup_relabel_local hx) (hn'.at' fun o e => up₂ _ o (Ne.symm hIC) e) (fun h₃ hn₃ hs₃ => ?_) (by simp [compEnvC, relabel, hkind]))
      have up₃ : ∀ b o, b ≠ I → b ≠ C → h'.get? b = some o → h₃.get? b = some o := fun b o b1 b2 e => hs₃.extBut b o b2 (up₂ b o b1 e)
      have hD₃ : h₃.get? D = some (W.listOf us.toArray n) := up₃ _ _ (Ne.symm hID) hDC hD'
      have F₃ : Fr h₀ L h₃ m := Fr.keeps F fun b o e => up₃ b o (below b o e).1 (below b o e).2.2 (hk' b o e)
      obtain ⟨oC, heC, hoC⟩ := LCg.ns_obj hn₃
      have N₃ : News h₀ L h₃ [(C, oC)] := fun q hq => by rw [List.mem_singleton.mp hq]; exact ⟨heC, hCL, n0 _ hCn⟩
      have hst₃ : St (i + 1) h₃ := Wk.frame _ _ _ hst₂ fun b hb o e => hs₃.extBut b o (fun q => hIC ((List.mem_singleton.mp hb).symm.trans q)) e
      have hcount : ((y.cps.toList.take (i + 1)).filter p).length = us.length + if p k then 1 else 0 := by
        rw [List.take_add_one, show y.cps.toList[i]? = some k by simpa using hc, List.filter_append, List.length_append, hul]
        cases hps : p k <;> simp [hps]
      refine htest C oC k u _ h₃ _ _ _ hoC (by simp) F₃ N₃ fun tk' => ?_
      cases hps : p k with
      | false =>
        rw [if_neg (by decide)]
        refine ⟨y.cps.size + 1 - (i + 1), by omega, h₃, tk', i + 1, us, _, n, rfl, hlt, rfl, ?_, hzs, hst₃, hn₃, hD₃, fun b o e => up₃ b o (below b o e).1 (below b o e).2.2 (hk' b o e)⟩
        rw [hcount, hps]; rfl
      | true =>
        rw [if_pos rfl]
        refine helt C oC k u _ h₃ tk' _ _ hoC (by simp) F₃ N₃ fun t₄ tk₄ => ?_
        refine append_at (hsz := ?hzz) hD₃ fun h₅ hs₅ hD₅ => ?_
        case hzz =>
          show us.toArray.size ≤ sizeLine
          rw [List.size_toArray, hul]
          refine Nat.le_trans (List.length_filter_le _ _) (Nat.le_trans ?_ (Nat.le_trans hi' hsz))
          rw [List.length_take]; omega
        refine ⟨y.cps.size + 1 - (i + 1), by omega, h₅, tk₄, i + 1, us ++ [.str ⟨#[k]⟩ t₄], _, n + 1, rfl, hlt, rfl, ?_, hzs.elim (fun zs h => ⟨zs ++ [⟨#[k]⟩], strs_snoc h.1, fun z hz => (List.mem_append.mp hz).elim (h.2 z) (fun hz => ⟨k, List.mem_of_getElem? (show y.cps.toList[i]? = some k by simpa using hc), List.mem_singleton.mp hz⟩)⟩), Wk.frame _ _ _ hst₃ fun b hb o e => hs₅.extBut b o (fun q => hID ((List.mem_singleton.mp hb).symm.trans q)) e, hn₃.sameBut hs₅ (Ne.symm hDC), ?_, fun b o e => hs₅.extBut b o (below b o e).2.1 (up₃ b o (below b o e).1 (below b o e).2.2 (hk' b o e))⟩
        · rw [hcount, hps, List.length_append]; rfl
        · rw [hD₅, List.push_toArray]
    · obtain rfl : i = y.cps.size := Nat.le_antisymm hi' (Nat.not_lt.mp hlt)
      refine Wk.done _ _ _ hst' fun h₂ tk₂ hk₂ => ?_
      have up₂ : ∀ b o, b ≠ I → h'.get? b = some o → h₂.get? b = some o := fun b o b1 e => hk₂ b o (fun q => b1 (List.mem_singleton.mp q)) e
      refine ⟨m', hn'.at' fun o e => up₂ _ o (Ne.symm hIC) e, fun h'' hs'' => ?_⟩
      have up'' : ∀ b o, b ≠ I → b ≠ C → h'.get? b = some o → h''.get? b = some o := fun b o b1 b2 e => hs''.extBut b o b2 (up₂ b o b1 e)
      have upS : ∀ b o, s₁.heap.get? b = some o → h''.get? b = some o := fun b o e => up'' b o (below b o e).1 (below b o e).2.2 (hk' b o e)
      refine done D us n h'' tk₂ (Fr.keeps F upS) ?_ (fun q hq => Ne.symm (live_ne hDn (N q hq).1)) (by rw [hul, List.take_of_length_le (by simp)]) hzs
      intro q hq
      rcases List.mem_cons.mp hq with rfl | hq
      · exact ⟨up'' _ _ (Ne.symm hID) hDC hD', hDL, n0 _ hDn⟩
      · exact News.grown N upS q hq
  exact codeAny_compStart_list (loop _ rfl) (Wk.self 0 _ _ _ hst₁ (loop _ rfl))
end
end Mine
end
section
open PySem PySem.W PySem.W.X PyProof.Rows PySem.Spec PySem.Calls
set_option Elab.async false
set_option maxRecDepth 100000
set_option maxHeartbeats 0
namespace Mine
noncomputable abbrev tupT (vs : List Value) : Obj := { cls := .type "tuple", data := .seq vs.toArray }
noncomputable abbrev listT (vs : List Value) : Obj := { cls := .type "list", data := .seq vs.toArray 0 }
noncomputable def bareB (v : List Nat) : Bool := !v.isEmpty && v.all Rx.tokB
theorem bare_yes {v : Str} (hs : ∀ c ∈ v.cps.toList, c ∈ Rx.sigma) (hv : v.cps.size ≤ 10000) (hb : bareB v.cps.toList = true) : Rx.Ends 400000 (Sre.forMatch Rx.cJTok v.cps 0 0 v.cps.size true false) (Rx.Found 0 v.cps.size none) := by
  have := Rx.jtok_yes (t := v.cps.toList) (by rintro e; rw [e] at hb; cases hb) (fun c hc => ⟨hs c hc, by simp only [bareB, Bool.and_eq_true, List.all_eq_true] at hb; exact hb.2 c hc⟩) (by simp; omega)
  simpa using this
theorem bare_no {v : Str} (hs : ∀ c ∈ v.cps.toList, c ∈ Rx.sigma) (hv : v.cps.size ≤ 10000) (hb : bareB v.cps.toList = false) : Rx.Ends 400000 (Sre.forMatch Rx.cJTok v.cps 0 0 v.cps.size true false) Rx.Lost := by
  have := Rx.jtok_no (t := v.cps.toList) hs (by
    simp only [bareB, Bool.and_eq_false_iff, Bool.not_eq_false', List.isEmpty_iff, List.all_eq_false] at hb
    rcases hb with hb | ⟨c, hc, hb⟩
    · exact .inl hb
    · exact .inr ⟨c, hc, by simpa using hb⟩) (by simp; omega)
  simpa using this
theorem escOf_len : ∀ v : List Nat, (Rx.escOf v).length ≤ 2 * v.length
  | [] => Nat.le_refl _
  | c :: v => by
    have := escOf_len v
    rw [Rx.escOf_cons, List.length_append]
    have h1 : (Rx.esc1 c).length ≤ 2 := by unfold Rx.esc1; split <;> simp
    simp only [List.length_cons]
    omega
noncomputable abbrev qJ : Str := Str.ofString "join_header_words" ++ Str.ofString ".<locals>." ++ Str.ofString "<lambda>"
theorem codeRec_grow {h h' : Heap} {v : Value} {q : Str} (hcr : h.CodeRec v q) (g : Grow h h') : h'.CodeRec v q := by
  obtain ⟨c, oc, vs, tq, h1, h2, r⟩ := hcr
  exact ⟨c, oc, vs, tq, h1, g _ _ h2, r⟩
theorem lamPos.grow {ps : Array Value} {q : Str} {h h' : Heap} {a b : Int} (x : lamPos ps q h a b) (g : Grow h h') : lamPos ps q h' a b := by
  rcases x with x | ⟨c', oc, vs, t, h1, h2, h3⟩
  · exact .inl x
  · exact .inr ⟨c', oc, vs, t, h1, g _ _ h2, h3⟩
noncomputable def hdVal (v : List Nat) : List Nat := 107 :: 61 :: (if bareB v then v else 34 :: (Rx.escOf v ++ [34]))
theorem hdE_eq {A : Str} {al : List Nat} (hA : A.cps.toList = al) : Txt.join (Str.ofString ", ") [Txt.join (Str.ofString "; ") [A, Str.ofString "z"]] = ⟨(al ++ [59, 32, 122]).toArray⟩ := by
  have h1 := eq_of_beq (join_closes (sep := Str.ofString ", ") (ys := [Txt.join (Str.ofString "; ") [A, Str.ofString "z"]]) rfl)
  have h2 := eq_of_beq (join_closes (sep := Str.ofString "; ") (ys := [A, Str.ofString "z"]) rfl)
  rw [h1, h2]
  show A ++ Str.ofString "; " ++ Str.ofString "z" = _
  apply Str.ext'
  apply Array.toList_inj.mp
  show (A.cps ++ (Str.ofString "; ").cps ++ (Str.ofString "z").cps).toList = _
  rw [Array.toList_append, Array.toList_append, hA]
  have e1 : (Str.ofString "; ").cps.toList = [59, 32] := by decide +kernel
  have e2 : (Str.ofString "z").cps.toList = [122] := by decide +kernel
  rw [e1, e2]
  simp
theorem eA1 (v : Str) : (Str.ofString "k=" ++ v).cps.toList = 107 :: 61 :: v.cps.toList := by
  show ((Str.ofString "k=").cps ++ v.cps).toList = _
  have e : (Str.ofString "k=").cps.toList = [107, 61] := by decide +kernel
  rw [Array.toList_append, e]; rfl
theorem eA2 (l : List Nat) : (Str.ofString "k=" ++ (Str.ofString "\"" ++ (⟨l.toArray⟩ : Str) ++ Str.ofString "\"")).cps.toList = 107 :: 61 :: 34 :: (l ++ [34]) := by
  show ((Str.ofString "k=").cps ++ ((Str.ofString "\"").cps ++ l.toArray ++ (Str.ofString "\"").cps)).toList = _
  have e : (Str.ofString "k=").cps.toList = [107, 61] := by decide +kernel
  have e2 : (Str.ofString "\"").cps.toList = [34] := by decide +kernel
  rw [Array.toList_append, Array.toList_append, Array.toList_append, e, e2]; rfl
theorem lA1 {v : Str} (h : v.length ≤ 30000) : (Str.ofString "k=" ++ v).length ≤ 50000 := by
  rw [Str.length_append]
  have : (Str.ofString "k=").length = 2 := by decide +kernel
  omega
theorem lA2 {v : Str} (h : v.length ≤ 20000) : (Str.ofString "k=" ++ (Str.ofString "\"" ++ v ++ Str.ofString "\"")).length ≤ 50000 := by
  rw [Str.length_append, Str.length_append, Str.length_append]
  have : (Str.ofString "k=").length = 2 := by decide +kernel
  have : (Str.ofString "\"").length = 1 := by decide +kernel
  omega
theorem szE {A : Str} (h : A.length ≤ 50000) : (List.map (fun x => x.length) [A, Str.ofString "z"]).sum + [A, Str.ofString "z"].length * (Str.ofString "; ").length ≤ 16777216 := by
  have e1 : (Str.ofString "z").length = 1 := by decide +kernel
  have e2 : (Str.ofString "; ").length = 2 := by decide +kernel
  simp only [List.map_cons, List.map_nil, List.sum_cons, List.sum_nil, List.length_cons, List.length_nil]
  omega
theorem szE1 {A : Str} (h : A.length ≤ 50000) : (List.map (fun x => x.length) [Txt.join (Str.ofString "; ") [A, Str.ofString "z"]]).sum + [Txt.join (Str.ofString "; ") [A, Str.ofString "z"]].length * (Str.ofString ", ").length ≤ 16777216 := by
  have h2 := eq_of_beq (join_closes (sep := Str.ofString "; ") (ys := [A, Str.ofString "z"]) rfl)
  rw [h2]
  have e0 : (Str.join (Str.ofString "; ") [A, Str.ofString "z"]).length = A.length + 3 := by
    show (A ++ Str.ofString "; " ++ Str.ofString "z").length = _
    rw [Str.length_append, Str.length_append]
    have e1 : (Str.ofString "z").length = 1 := by decide +kernel
    have e2 : (Str.ofString "; ").length = 2 := by decide +kernel
    omega
  have e2 : (Str.ofString ", ").length = 2 := by decide +kernel
  simp only [List.map_cons, List.map_nil, List.sum_cons, List.sum_nil, List.length_cons, List.length_nil, e0]
  omega
theorem cat_bs (a : Array Nat) : Str.ofString "\\" ++ (⟨a⟩ : Str) = ⟨(92 :: a.toList).toArray⟩ := by
  apply Str.ext'
  apply Array.toList_inj.mp
  show ((Str.ofString "\\").cps ++ a).toList = _
  have e : (Str.ofString "\\").cps.toList = [92] := by decide +kernel
  rw [Array.toList_append, e]
  simp
end Mine
end
section
local macro_rules | `(tactic| k_steps) => `(tactic| repeat' (first | ((fail_if_success with_reducible show Hold _); first | (k_unfold; (try dsimp only)) | walk1 | (dsimp only; walk1)) | fail "no step"))
local macro_rules | `(tactic| size_fits) => `(tactic| exact Nat.le_of_ble_eq_true rfl)
section
open PySem PySem.W PySem.W.X PyProof.Rows PySem.Spec PySem.Calls
set_option Elab.async false
set_option maxRecDepth 100000
set_option maxHeartbeats 0
namespace Mine
theorem off_Jk : True := by
  w_top off
  trivial
local macro_rules | `(tactic| omega) => `(tactic| lia)
local macro_rules | `(tactic| walk_at "eval Lambda") => `(tactic| with_reducible refine hold_in ?_)
local macro_rules | `(tactic| walk_at "getMethod ref") => `(tactic| (with_reducible refine gm_group (by first | assumption | exact MatchAt.keeps (by assumption) (Fr.keep (by assumption))) ?_))
local macro_rules | `(tactic| walk_at "call builtin:re.Match.group") => `(tactic| with_reducible refine hold_in ?_)
local macro_rules | `(tactic| walk_at "call builtin:str.join") => `(tactic| with_reducible refine hold_in ?_)
local macro_rules | `(tactic| walk_at "call builtin:re.Pattern.fullmatch") => `(tactic| with_reducible refine hold_in ?_)
local macro_rules | `(tactic| walk_at "call builtin:re.Pattern.sub") => `(tactic| with_reducible refine hold_in ?_)
local macro_rules | `(tactic| walk_at "getMethod ref") => `(tactic| (with_reducible refine gm_fullmatch (pat_jtok (by assumption)) (by assumption) ?_))
local macro_rules | `(tactic| walk_at "getMethod ref") => `(tactic| (with_reducible refine gm_sub (pat_jesc (by assumption)) (by assumption) ?_))
noncomputable def nthS : Nat → List Stmt → Option Stmt
  | _, [] => none
  | 0, s :: _ => some s
  | n + 1, _ :: r => nthS n r
noncomputable def bodyS : Option Stmt → List Stmt
  | some (.FunctionDef _ _ b _ _ _ _ _ _ _) => b
  | _ => []
noncomputable def scopeS : Option Stmt → Scope
  | some (.FunctionDef _ _ _ _ _ _ sc _ _ _) => sc
  | _ => { kind := .function, names := [], isGenerator := false, isCoroutine := false, more := [] }
noncomputable def forB : List Stmt → List Stmt
  | .For _ _ b _ _ :: _ => b
  | _ :: r => forB r
  | [] => []
noncomputable def joinFn : Option Stmt := nthS 5 PySem.Challenge.pw_re0054_01.main.body.reverse
noncomputable def joinIf : Stmt := match forB (forB (bodyS joinFn)) with
  | s :: _ => s
  | [] => .Pass ⟨0, 0, 0, 0⟩
noncomputable def joinScope : Scope := scopeS joinFn
noncomputable def CutJ (g : Heap) (L : Addr) (s : Shared) (m0 : Str → Option Value) (v : Str) (nw : List (Addr × Obj)) (nf : Obj → List (Addr × Obj)) (f : Flow) (s' : Shared) : Prop :=
  f = .next ∧ ∃ h' tk u vv ps' xx ox, s' = { s with heap := h', toks := tk } ∧ Fr g L h' (fun y => if y = Str.ofString "k" then some (Value.str ⟨(hdVal v.cps.toList).toArray⟩ u) else if y = Str.ofString "v" then some vv else m0 y) ∧
    News g L h' ((xx, ox) :: nf (tabObj ps')) ∧ (∀ q ∈ nw, @Ne Nat q.1 101 → @Ne Nat q.1 xx) ∧ (∀ hh : Heap, (∀ b o, g.get? b = some o → hh.get? b = some o) → hh.get? xx = some ox → lamPos ps' qJ hh 72 50)
theorem Fr.cast {g h : Heap} {L : Addr} {m m' : Str → Option Value} (F : Fr g L h m) (e : m = m') : Fr g L h m' := e ▸ F
theorem kv1 (v : Str) (h : bareB v.cps.toList = true) : Str.ofString "k=" ++ v = ⟨(hdVal v.cps.toList).toArray⟩ := by
  apply Str.ext'
  apply Array.toList_inj.mp
  rw [eA1, hdVal, h]; rfl
theorem kv2 (v : Str) (h : bareB v.cps.toList = false) : Str.ofString "k=" ++ (Str.ofString "\"" ++ (⟨(Rx.escOf v.cps.toList).toArray⟩ : Str) ++ Str.ofString "\"") = ⟨(hdVal v.cps.toList).toArray⟩ := by
  apply Str.ext'
  apply Array.toList_inj.mp
  rw [eA2, hdVal, h]; rfl
theorem jmap1 (m0 : Str → Option Value) (a b c : Option Value) : (fun y => if y = Str.ofString "k" then a else if y = Str.ofString "v" then b else if y = Str.ofString "k" then c else m0 y) = (fun y => if y = Str.ofString "k" then a else if y = Str.ofString "v" then b else m0 y) := by
  funext y
  by_cases e : y = Str.ofString "k"
  · simp only [if_pos e]
  · simp only [if_neg e]
theorem jmap2 (m0 : Str → Option Value) (a b b2 b3 c : Option Value) : (fun y => if y = Str.ofString "k" then a else if y = Str.ofString "v" then b else if y = Str.ofString "v" then b2 else if y = Str.ofString "v" then b3 else if y = Str.ofString "k" then c else m0 y) = (fun y => if y = Str.ofString "k" then a else if y = Str.ofString "v" then b else m0 y) := by
  funext y
  by_cases e : y = Str.ofString "k"
  · simp only [if_pos e]
  · by_cases e2 : y = Str.ofString "v"
    · simp only [if_neg e, if_pos e2]
    · simp only [if_neg e, if_neg e2]
theorem updF_get {d : Addr} {o o' : Obj} {l : List (Addr × Obj)} {g : Obj → List (Addr × Obj)} (U : UpdF d o l g) : (d, o) ∈ l ∧ g o = l ∧ (d, o') ∈ g o' := by
  obtain ⟨pre, post, rfl, hg, _⟩ := U.split
  exact ⟨List.mem_append_right _ (.head _), hg o, by rw [hg]; exact List.mem_append_right _ (.head _)⟩
theorem jk_if {w : World} {dp un : Nat} {fr : Option (List Env)} {gd : Option (List Code)} {s : Shared} {g : Heap} {L : Addr} {v : Str} {t1 t2 : Tok} {ps : Array Value} {news : List (Addr × Obj)} {nf : Obj → List (Addr × Obj)} {m0 : Str → Option Value} {loose mean mg mb} {E : Value → Shared → Prop}
  (hd : dp < 850) (hu : un < 600) (hv : v.cps.size ≤ 10000) (hs : ∀ c ∈ v.cps.toList, c ∈ Rx.sigma) (X' : (Mine.hd.heap_1 w.params).In g) (T : Top topProg loose mean mg mb g) (hlp : lamPos ps qJ g 72 50)
  (F : Fr g L s.heap (fun y => if y = Str.ofString "v" then some (Value.str v t2) else if y = Str.ofString "k" then some (Value.str (Str.ofString "k") t1) else m0 y)) (N : News g L s.heap news) (U : UpdF 101 (tabObj ps) news nf) :
  wpAny (model PySem.Challenge.rw_re0054_01.row.prog w) (AA dp un fr gd) (exec joinIf (envOf "join_header_words" joinScope L 106 (.ref 105))) (CutJ g L s m0 v news nf) E s := by
  revert X'; k_fill; intro X'
  have e : joinIf = joinIf := rfl
  conv at e => rhs; whnf
  rw [e]; clear e
  have e : joinScope = joinScope := rfl
  conv at e => rhs; whnf
  rw [e]; clear e
  have hxl : v.length ≤ 100000 := Nat.le_trans hv (by decide)
  k_unmd
  k_fold
  refine wpAny_If ?_
  k_steps
  unfold Hold
  cases hb : bareB v.cps.toList with
  | true =>
    refine fullmatch_yes_K (gp := none) (pat_jtok X') F N (Nat.le_trans hv (by decide)) (bare_yes hs hv hb) (Nat.le_refl _) (fun _ _ h => nomatch h) ?_
    intro mt sp li h' F' N' l1 l2
    refine truthy_match (MatchAt.ofNews N' (.head _) (.tail _ (.head _))) ?_
    k_steps
    have F9 := (by assumption : Fr _ _ _ (fun y => if y = Str.ofString "k" then _ else _))
    rw [kv1 v hb] at F9
    obtain ⟨hg1, hg2, _⟩ := updF_get (o' := tabObj ps) U
    have N9 := (by assumption : News _ _ _ (_ :: _ :: news))
    exact ⟨rfl, _, _, _, _, ps, 101, tabObj ps, rfl, Fr.cast F9 (jmap1 _ _ _ _), fun p hp => N9 p (by
      rcases List.mem_cons.mp hp with rfl | hp
      · exact .tail _ (.tail _ hg1)
      · rw [hg2] at hp; exact .tail _ (.tail _ hp)), fun _ _ hq => hq, fun hh kk _ => hlp.grow kk⟩
  | false =>
    refine fullmatch_no ((pat_jtok X').keeps F.keep) (Nat.le_trans hv (by decide)) (bare_no hs hv hb) (Nat.le_refl _) ?_
    k_steps
    unfold Hold
    refine' lam_make ?l1 ?l2 T (c := 105) (P := 101) ?lC U ?lp rfl rfl ?_
    case l1 => assumption
    case l2 => assumption
    case lC => exact code_105 X'
    case lp => exact hlp
    intro f c' ctv pm ps' xx ox h' tk' F' N' hcr hps' l0 l1
    clear F
    k_steps
    unfold Hold
    refine re_sub (lam := f) (f := fun g => 92 :: g) ((pat_jesc X').keeps F'.keep) ⟨_, N'.get (.head _), rfl⟩ ?lam (Nat.le_trans hv (by decide)) (r := Rx.escOf v.cps.toList) ?subs ?_
    case subs =>
      have := subs_jesc v.cps.toList (by simp; omega) hs v.cps.toList.length v.cps.toList [] (Nat.le_refl _) rfl
      simpa using this
    case lam =>
      intro s2 a2 x2 u2 b2 e2 p2 q2 Q2 E2 g2 mt2 hx2 hh
      have X2 : (Mine.hd.heap_1 w.params).In s2.heap := fun a o e => g2 _ _ (F'.keep _ _ (X' a o e))
      have T2 : Top topProg loose mean mg mb s2.heap := T.keeps fun a o e => g2 _ _ (F'.keep _ _ e)
      have o2 := g2 _ _ (N'.get (.head _))
      have c2 := codeRec_grow hcr g2
      clear F' N' X' T N U
      refine enterL (binds := [(Str.ofString "_m", .ref a2)]) T2.nolimit o2 c2 (by have : recursionLimit = 1000 := rfl; show dp < recursionLimit; omega) rfl (locs rfl) ?_ rfl rfl rfl (by decide)
      intro L h₁ hL F N
      have hxl : x2.length ≤ 100000 := hx2
      dsimp only [List.length]
      k_unmd
      k_steps
      unfold Hold
      refine' group_1 ?gm (Nat.le_trans hx2 (by decide)) ?_
      case gm => exact mt2.keeps F.keep
      have hgl : (⟨x2.cps.extract p2 q2⟩ : Str).length ≤ 100000 := by
        show (x2.cps.extract p2 q2).size ≤ 100000
        simp; omega
      k_steps
      · rw [cat_bs]
        exact hh _ _ _ F.keep
      · have h0 : ((⟨x2.cps.extract p2 q2⟩ : Str).length : Int) = 0 := by assumption
        have h1 : (⟨x2.cps.extract p2 q2⟩ : Str).length = 0 := by omega
        have ez : x2.cps.extract p2 q2 = #[] := Array.eq_empty_of_size_eq_zero h1
        have e2 : Str.ofString "\\" ++ Str.ofString "" = ⟨[92].toArray⟩ := by decide +kernel
        have hh' := hh
        rw [ez] at hh'
        rw [e2]
        exact hh' _ _ _ F.keep
    intro h5 tk5 u5 g5
    have hel : (⟨(Rx.escOf v.cps.toList).toArray⟩ : Str).length ≤ 20000 := by
      have := escOf_len v.cps.toList
      show (Rx.escOf v.cps.toList).toArray.size ≤ 20000
      simp at this ⊢
      omega
    replace F' := Fr.keeps F' g5
    replace N' := News.grown N' g5
    k_steps
    have F9 := (by assumption : Fr _ _ _ (fun y => if y = Str.ofString "k" then _ else _))
    rw [kv2 v hb] at F9
    have N9 := (by assumption : News _ _ _ (_ :: (xx, ox) :: nf (tabObj ps')))
    exact ⟨rfl, _, _, _, _, ps', xx, ox, rfl, Fr.cast F9 (jmap2 _ _ _ _ _ _), fun p hp => N9 p (.tail _ hp), fun q hq _ => Nat.ne_of_lt (l0 q hq), hps'⟩
end Mine
end
section
local macro_rules | `(tactic| k_steps) => `(tactic| repeat' (first | ((fail_if_success with_reducible show Hold _); first | (k_unfold; (try dsimp only)) | (walk1; (try dsimp only)) | (dsimp only; walk1)) | fail "no step"))
section
open PySem PySem.W PySem.W.X PyProof.Rows PySem.Spec PySem.Calls
set_option Elab.async false
set_option maxRecDepth 100000
set_option maxHeartbeats 0
namespace Mine
theorem off_J1 : True := by
  w_top off
  trivial
local macro_rules | `(tactic| omega) => `(tactic| lia)
local macro_rules | `(tactic| walk_at "execs cons") => `(tactic| ((with_reducible refine wpAny_execs_cons ?_); (try k_fold)))
local macro_rules | `(tactic| walk_at "call builtin:str.join") => `(tactic| with_reducible refine hold_in ?_)
local macro_rules | `(tactic| walk_at "exec If") => `(tactic| ((with_reducible show wpAny _ _ (exec (Stmt.If (Expr.Compare _ _ _ _) _ _ _) _) _ _ _); with_reducible refine hold_in ?_))
theorem hdVal_short {v : Str} (h : v.cps.size ≤ 10000) : (⟨(hdVal v.cps.toList).toArray⟩ : Str).length ≤ 50000 := by
  have := escOf_len v.cps.toList
  have h2 : v.cps.toList.length ≤ 10000 := h
  show (hdVal v.cps.toList).toArray.size ≤ _
  rw [List.size_toArray]
  unfold hdVal
  split <;> simp only [List.length_cons, List.length_append, List.length_nil] <;> omega
theorem spec_joinE {w : World} {dp un : Nat} {fr : Option (List Env)} {gd : Option (List Code)} {s : Shared} {a b c d : Addr} {v : Str} {t1 t2 t3 : Tok} {ps : Array Value} {loose mean mg mb} {Q : Value → Shared → Prop} {E : Value → Shared → Prop}
  (hd : dp < 800) (hu : un < 500) (hv : v.cps.size ≤ 10000) (hs : ∀ c ∈ v.cps.toList, c ∈ Rx.sigma)
  (tabs : List (Addr × Obj)) (htabs : tabs = [(a, listT [.ref b]), (b, listT [.ref c, .ref d]), (d, tupT [.str (Str.ofString "z") t3, .none]), (c, tupT [.str (Str.ofString "k") t1, .str v t2]), (101, tabObj ps)])
  (X : (Mine.hd.heap_1 w.params).In (hideAll s.heap (tabs.map (·.1)))) (T : Top topProg loose mean mg mb (hideAll s.heap (tabs.map (·.1)))) (ht : ∀ p ∈ tabs, s.heap.get? p.1 = some p.2)
  (hlp : lamPos ps qJ (hideAll s.heap (tabs.map (·.1))) 72 50) (o1 : (101 : Nat) < c) (o2 : c < d) (o3 : d < b) (o4 : b < a)
  (h : ∀ h' tk u ps', Grow (hideAll s.heap (tabs.map (·.1))) h' → (∀ p ∈ [(a, listT [.ref b]), (b, listT [.ref c, .ref d]), (d, tupT [.str (Str.ofString "z") t3, .none]), (c, tupT [.str (Str.ofString "k") t1, .str v t2]), (101, tabObj ps')], h'.get? p.1 = some p.2) → lamPos ps' qJ h' 72 50 →
    Q (.str ⟨(hdVal v.cps.toList ++ [59, 32, 122]).toArray⟩ u) { s with heap := h', toks := tk }) :
  wpAny (model PySem.Challenge.rw_re0054_01.row.prog w) (AA dp un fr gd) (call (.ref 106) [.ref a]) Q E s := by
  subst htabs
  revert X; k_fill; intro X
  refine' enterH _ ?k1 ?k2 ht ?k3 ?k4 ?k5 ?k6 ?k7 ?_ ?k8 ?k9 ?k10 ?k11
  case k1 => assumption
  case k2 => exact T.nolimit
  case k3 => k_is
  case k4 => k_is
  case k5 => have : recursionLimit = 1000 := rfl; show dp < recursionLimit; omega
  case k6 => exact BindsTo.of_eq rfl
  case k7 => exact locs rfl
  case k8 => rfl
  case k9 => rfl
  case k10 => rfl
  case k11 => decide
  intro L h₁ g hg hlt X' F N
  k_lt2 o1
  k_lt2 o2
  k_lt2 o3
  k_lt2 o4
  k_lt hlt
  rw [← hg] at T h hlp
  clear X
  dsimp only
  k_unmd
  k_fold
  have hxl : v.length ≤ 100000 := Nat.le_trans hv (by decide)
  k_steps
  unfold Hold
  rename_i hd0 q1 lhd q2 qa ea i0 li0 it0 q4 q5 hit0 at0 q6 lat q7 qb eb i1 li1 q9 q10 o1' hc1 q11 F1 N1 q12 q13 F2 N2
  clear F1 N1
  refine' wpAny_mono (jk_if ?jd ?ju hv hs X' T hlp F2 N2 ?U) ?_ (fun _ _ e => e)
  case jd => show dp + 1 < 850; omega
  case ju => show un + 3 < 600; omega
  case U => k_updF
  rintro f s' ⟨rfl, h7, tk7, u7, vv, ps', xx, ox, rfl, F7, N7, hxx, hps⟩
  dsimp only at N7
  have x1 : @Ne Nat i1 xx := hxx _ (.head _) (by omega)
  have x2 : @Ne Nat at0 xx := hxx _ (.tail _ (.head _)) (by omega)
  have x3 : @Ne Nat i0 xx := hxx _ (.tail _ (.tail _ (.head _))) (by omega)
  have x4 : @Ne Nat hd0 xx := hxx _ (.tail _ (.tail _ (.tail _ (.head _)))) (by omega)
  obtain ⟨A, hA⟩ : ∃ A : Str, A = ⟨(hdVal v.cps.toList).toArray⟩ := ⟨_, rfl⟩
  rw [← hA] at F7
  have hAl : A.length ≤ 50000 := by
    rw [hA]; exact hdVal_short hv
  clear F2 N2 hxx
  k_steps
  unfold Hold
  refine wpAny_If ?_
  k_steps
  unfold Hold
  refine join_list (News.isList (by assumption) (by k_mem)) (.cons _ _ (.cons _ _ .nil)) ?_ ?_
  · exact szE hAl
  intro t5 k5
  k_steps
  unfold Hold
  refine join_list (News.isList (by assumption) (by k_mem)) (.cons _ _ .nil) ?_ ?_
  · exact szE1 hAl
  intro t6 k6
  dsimp only [qk]
  rw [hdE_eq (A := A) (al := hdVal v.cps.toList) (by rw [hA])]
  have N9 := (by assumption : News _ _ _ _)
  refine h _ _ _ ps' (Fr.keep (by assumption)) ?_ (hps _ (Fr.keep (by assumption)) (N9.get (by k_mem)))
  intro p hp
  simp only [List.mem_cons, List.not_mem_nil, or_false] at hp
  rcases hp with rfl | rfl | rfl | rfl | rfl
  all_goals exact N9.get (by k_mem)
end Mine
end
section
open PySem PySem.W PySem.W.X PyProof.Rows PySem.Spec PySem.Calls
set_option Elab.async false
set_option maxRecDepth 100000
set_option maxHeartbeats 0
namespace Mine
theorem off_S2 : True := by
  w_top off
  trivial
local macro_rules | `(tactic| omega) => `(tactic| lia)
theorem newAt1 {h g h' : Heap} {L a : Addr} {n : List (Addr × Obj)} {o1 o2 : Obj} {p : Addr × Obj} (N : News g L h' n) (hg : g = hideAll h (List.map (fun x => x.1) [(a, o1), (84, o2)])) (hm : p ∈ n) (h1 : @Ne Nat p.1 a) (h2 : @Ne Nat p.1 84) : h'.get? p.1 = some p.2 ∧ h.get? p.1 = none := by
  refine ⟨(N p hm).1, ?_⟩
  cases q : h.get? p.1 with
  | none => rfl
  | some o =>
    have := (N p hm).2.2
    rw [hg, hideAll_get _ q (by simp only [List.map_cons, List.map_nil, List.mem_cons, List.not_mem_nil, or_false, not_or]; exact ⟨h1, h2⟩)] at this
    cases this
local macro_rules | `(tactic| walk_at "eval Lambda") => `(tactic| with_reducible refine hold_in ?_)
local macro_rules | `(tactic| walk_at "exec While") => `(tactic| refine whl_start 100 ?_)
local macro_rules | `(tactic| walk_at "WhlIf") => `(tactic| with_reducible refine hold_in ?_)
local macro_rules | `(tactic| walk_at "call builtin:re.Match.group") => `(tactic| with_reducible refine hold_in ?_)
local macro_rules | `(tactic| walk_at "call builtin:re.Pattern.search") => `(tactic| with_reducible refine hold_in ?_)
local macro_rules | `(tactic| walk_at "call builtin:re.Pattern.sub") => `(tactic| with_reducible refine hold_in ?_)
local macro_rules | `(tactic| walk_at "call builtin:re.Pattern.subn") => `(tactic| with_reducible refine hold_in ?_)
local macro_rules | `(tactic| walk_at "call builtin:str.rstrip") => `(tactic| with_reducible refine hold_in ?_)
local macro_rules | `(tactic| walk_at "truthy ref") => `(tactic| with_reducible refine hold_in ?_)
local macro_rules | `(tactic| walk_at "call ref") => `(tactic| with_reducible refine hold_in ?_)
local macro_rules | `(tactic| walk_at "getMethod ref") => `(tactic| (with_reducible refine gm_search (pat_tok (by assumption)) (by assumption) ?_))
local macro_rules | `(tactic| walk_at "getMethod ref") => `(tactic| (with_reducible refine gm_search (pat_quo (by assumption)) (by assumption) ?_))
local macro_rules | `(tactic| walk_at "getMethod ref") => `(tactic| (with_reducible refine gm_search (pat_val (by assumption)) (by assumption) ?_))
local macro_rules | `(tactic| walk_at "getMethod ref") => `(tactic| (with_reducible refine gm_sub (pat_esc (by assumption)) (by assumption) ?_))
local macro_rules | `(tactic| walk_at "getMethod ref") => `(tactic| (with_reducible refine gm_subn (pat_twin (by assumption)) (by assumption) ?_))
local macro_rules | `(tactic| walk_at "getMethod ref") => `(tactic| (with_reducible refine gm_group (by first | assumption | exact MatchAt.keeps (by assumption) (Fr.keep (by assumption))) ?_))
local macro_rules | `(tactic| walk_at "getMethod ref") => `(tactic| ((with_reducible refine' gm_groupN ?gn1 ?gn2 ?_); (case gn1 => with_unfolding_all assumption); (case gn2 => with_unfolding_all k_mem)))
noncomputable abbrev qS : Str := Str.ofString "split_header_words" ++ Str.ofString ".<locals>." ++ Str.ofString "<lambda>"
theorem hdVal_len (v : List Nat) : (hdVal v).length ≤ 2 * v.length + 4 := by
  have := escOf_len v
  unfold hdVal
  split <;> simp only [List.length_cons, List.length_append, List.length_nil] <;> omega
theorem rstrip_same {x : Str} (h : ∀ c ∈ x.cps.toList, Unicode.isSpace c = false) : Txt.rstrip x = x := by
  obtain ⟨_, h0, h1, _⟩ := hi_facts Unicode.isSpace x 0 (Nat.zero_le _)
  have e : stripHi Unicode.isSpace true x 0 = x.length := by
    by_cases e : stripHi Unicode.isSpace true x 0 = x.length
    · exact e
    · have hlt : stripHi Unicode.isSpace true x 0 < x.length := by omega
      have h2 := h1 _ (Nat.le_refl _) hlt
      have hlt' : stripHi Unicode.isSpace true x 0 < x.cps.size := hlt
      rw [Array.getD_eq_getD_getElem?, Array.getElem?_eq_getElem hlt'] at h2
      have h3 := h (x.cps[stripHi Unicode.isSpace true x 0]) (by simp)
      simp only [Option.getD_some] at h2
      rw [h3] at h2; cases h2
  unfold Txt.rstrip Txt.stripBy
  have e0 : stripLo Unicode.isSpace false x = 0 := rfl
  rw [if_pos]
  unfold stripSame
  rw [e0, e]
  simp
theorem tok_nsp : ∀ c ∈ Rx.sigma, Rx.tokB c = true → Unicode.isSpace c = false ∧ c ≠ 32 ∧ c ≠ 59 ∧ c ≠ 44 ∧ c ≠ 34 := by decide +kernel
theorem truthy_listN {prog : Program} {w : World} {A : Around} {E : Value → Shared → Prop} {s : Shared} {h₀ : Heap} {L l : Addr} {news : List (Addr × Obj)} {vs : Array Value} {c : Nat} {Q : Bool → Shared → Prop} (N : News h₀ L s.heap news) (hm : (l, W.listOf vs c) ∈ news) (hz : vs.size ≤ 1000) (hb : vs.isEmpty = false)
    (h : ∀ tk, Q true { s with toks := tk }) : wpAny (model prog w) A (truthy (.ref l)) Q E s :=
  wpAny_truthy_list (News.isList N hm) (by omega) (by rw [hb]; exact h _)
theorem subn_K {prog : Program} {w : World} {A : Around} {E : Value → Shared → Prop} {s : Shared} {h₀ : Heap} {L pat : Addr} {m : Str → Option Value} {news : List (Addr × Obj)} {u u' : Tok} {x0 x1 : Str} {Q : Value → Shared → Prop} (e0 : x0.cps = #[]) (e1 : x1.cps = #[59, 32, 122]) (P : PatAt h₀ pat 0 Rx.cTwin) (F : Fr h₀ L s.heap m) (N : News h₀ L s.heap news)
    (h : ∀ tp h' tk v v', Fr h₀ L h' m → News h₀ L h' ((tp, ({ cls := .type "tuple", data := .seq #[.str (Str.ofString "z") v, .int 1 v'] } : Obj)) :: news) → (∀ p ∈ news, @Ne Nat p.1 tp) → Q (.ref tp) { s with heap := h', toks := tk }) :
    wpAny (model prog w) A (call (.builtin "re.Pattern.subn") [.ref pat, .str x0 u, .str x1 u']) Q E s := by
  obtain ⟨x0⟩ := x0; obtain ⟨x1⟩ := x1
  dsimp only at e0 e1
  subst e0 e1
  refine re_subn_z (P.keeps F.keep) Rx.twin_0 Rx.twin_2 fun h' tk v v' tp g hn ht => ?_
  refine h tp h' tk v v' (Fr.keeps F g) ?_ ?_
  · intro p hp
    rcases List.mem_cons.mp hp with rfl | hp
    · refine ⟨ht, ?_, ?_⟩
      · rintro rfl
        obtain ⟨_, _, _, ho, _⟩ := F.ns
        rw [hn] at ho; cases ho
      · cases q : h₀.get? tp with
        | none => rfl
        | some o => have := F.keep _ _ q; rw [hn] at this; cases this
    · exact News.grown N g p hp
  · intro p hp e
    have := (N p hp).1
    rw [e, hn] at this; cases this
noncomputable def AllNe (b : Nat) : List (Addr × Obj) → Prop
  | [] => True
  | p :: r => (@Ne Nat p.1 b) ∧ AllNe b r
theorem allNe_of {b : Nat} : ∀ {l : List (Addr × Obj)}, (∀ p ∈ l, @Ne Nat p.1 b) → AllNe b l
  | [], _ => trivial
  | _ :: _, h => ⟨h _ (.head _), allNe_of fun p hp => h p (.tail _ hp)⟩
noncomputable def CutS (g : Heap) (L : Addr) (s : Shared) (m0 : Str → Option Value) (v tz : Str) (lp : Addr) (rest : List (Addr × Obj)) (f : Flow) (s' : Shared) : Prop :=
  f = .next ∧ ∃ h' tk mv u1 u2 u3 u4 D c xx ox ps', s' = { s with heap := h', toks := tk } ∧ Fr g L h' (fun z => if z = Str.ofString "value" then some (.str v u1) else if z = Str.ofString "text" then some (.str tz u2) else if z = Str.ofString "m" then some mv else m0 z) ∧
    News g L h' ([(D, ({ cls := .type "tuple", data := .seq #[.str (Str.ofString "k") u3, .str v u4] } : Obj)), (xx, ox), (lp, W.listOf #[.ref D] c)] ++ rest ++ [(84, tabObj ps')]) ∧ @LT.lt Nat _ lp D ∧ @LT.lt Nat _ lp xx ∧
    (∀ hh : Heap, (∀ b o, g.get? b = some o → hh.get? b = some o) → hh.get? xx = some ox → lamPos ps' qS hh 41 49)
theorem cut_at {M : Model} {A : Around} {t : Sem Flow} {g : Heap} {L mt sp lp i res a : Addr} {s : Shared} {E : Value → Shared → Prop} {Q : Flow → Shared → Prop} {m0 : Str → Option Value} {o1 o2 o3 it o4 o5 o6 : Obj} (v tz : Str)
    (F : Fr g L s.heap m0) (N : News g L s.heap [(mt, o1), (sp, o2), (lp, o3), (i, it), (res, o4), (a, o5), (84, o6)]) (h : wpAny M A t (CutS g L s m0 v tz lp [(i, it), (res, o4), (a, o5)]) E s)
    (k : ∀ f s', CutS g L s m0 v tz lp [(i, it), (res, o4), (a, o5)] f s' → Q f s') : wpAny M A t Q E s := wpAny_mono h k fun _ _ e => e
noncomputable abbrev listC (vs : List Value) (c : Nat) : Obj := { cls := .type "list", data := .seq vs.toArray c }
noncomputable def NewAt (h h' : Heap) (l : List (Addr × Obj)) : Prop := ∀ p ∈ l, h'.get? p.1 = some p.2 ∧ h.get? p.1 = none
theorem news_flat {g h : Heap} {L : Addr} {p1 p2 p3 p4 p5 p6 p7 : Addr × Obj} (N : News g L h ([p1, p2, p3] ++ [p4, p5, p6] ++ [p7])) : News g L h [p1, p2, p3, p4, p5, p6, p7] := N
theorem spec_split {w : World} {dp un : Nat} {fr : Option (List Env)} {gd : Option (List Code)} {s : Shared} {a : Addr} {v y : Str} {t1 : Tok} {ps : Array Value} {loose mean mg mb} {Q : Value → Shared → Prop} {E : Value → Shared → Prop} {x : Nat}
  (hd : dp < 800) (hu : un < 400) (hv : v.cps.size ≤ 10000) (hs : ∀ c ∈ v.cps.toList, c ∈ Rx.sigma) (hx : x = 59 ∨ x = 44) (hy : y.cps.toList = hdVal v.cps.toList ++ [x, 32, 122])
  (tabs : List (Addr × Obj)) (htabs : tabs = [(a, listT [.str y t1]), (84, tabObj ps)])
  (X : (Mine.hd.heap_1 w.params).In (hideAll s.heap (tabs.map (·.1)))) (T : Top topProg loose mean mg mb (hideAll s.heap (tabs.map (·.1)))) (ht : ∀ p ∈ tabs, s.heap.get? p.1 = some p.2)
  (hlp : lamPos ps qS (hideAll s.heap (tabs.map (·.1))) 41 49) (o1 : (84 : Nat) < a)
  (hE : x = 59 → ∀ h' tk ps' r p q1 q2 c1 c2 u1 u2 u3, Grow (hideAll s.heap (tabs.map (·.1))) h' → (∀ p ∈ [(a, listT [.str y t1]), (84, tabObj ps')], h'.get? p.1 = some p.2) → lamPos ps' qS h' 41 49 →
    NewAt s.heap h' [(r, listC [.ref p] c1), (p, listC [.ref q1, .ref q2] c2), (q1, tupT [.str (Str.ofString "k") u1, .str v u2]), (q2, tupT [.str (Str.ofString "z") u3, .none])] → Q (.ref r) { s with heap := h', toks := tk })
  (hO : x = 44 → ∀ h' tk ps' r p p2 q1 q2 c1 c2 c3 u1 u2 u3, Grow (hideAll s.heap (tabs.map (·.1))) h' → (∀ p ∈ [(a, listT [.str y t1]), (84, tabObj ps')], h'.get? p.1 = some p.2) → lamPos ps' qS h' 41 49 →
    NewAt s.heap h' [(r, listC [.ref p, .ref p2] c1), (p, listC [.ref q1] c2), (p2, listC [.ref q2] c3), (q1, tupT [.str (Str.ofString "k") u1, .str v u2]), (q2, tupT [.str (Str.ofString "z") u3, .none])] → Q (.ref r) { s with heap := h', toks := tk }) :
  wpAny (model PySem.Challenge.rw_re0054_01.row.prog w) (AA dp un fr gd) (call (.ref 89) [.ref a]) Q E s := by
  subst htabs
  revert X; k_fill; intro X
  refine' enterH _ ?k1 ?k2 ht ?k3 ?k4 ?k5 ?k6 ?k7 ?_ ?k8 ?k9 ?k10 ?k11
  case k1 => assumption
  case k2 => exact T.nolimit
  case k3 => k_is
  case k4 => k_is
  case k5 => have : recursionLimit = 1000 := rfl; show dp < recursionLimit; omega
  case k6 => exact BindsTo.of_eq rfl
  case k7 => exact locs rfl
  case k8 => rfl
  case k9 => rfl
  case k10 => rfl
  case k11 => decide
  intro L h₁ g hg hlt X' F N
  k_lt2 o1
  k_lt hlt
  rw [← hg] at T hE hO hlp
  clear X
  dsimp only
  k_unmd
  k_fold
  obtain ⟨r, hr⟩ : ∃ r, hdVal v.cps.toList ++ [x, 32, 122] = 107 :: 61 :: r := ⟨_, rfl⟩
  have hyc : y.cps = (107 :: 61 :: r).toArray := by apply Array.toList_inj.mp; rw [hy, hr]
  have hyl : y.length ≤ 20010 := by
    show y.cps.size ≤ 20010
    have := hdVal_len v.cps.toList
    rw [← Array.length_toList, hy, List.length_append]
    simp at this ⊢
    omega
  have hy0 : 0 < y.length := by show 0 < y.cps.size; rw [hyc]; simp
  have htok : Rx.Ends 20 (Sre.forSearch Rx.cTok y.cps 1 0 y.cps.size false) (Rx.Found 0 1 (some (0, 1))) := by
    have hrl : r.length ≤ 100000 := by
      have : y.cps.size ≤ 20010 := hyl
      rw [hyc] at this; simp at this; omega
    have := Rx.tok_k r hrl
    rw [hyc]; simpa using this
  k_steps
  unfold Hold
  refine WhlIf.yes (by simp; omega) ?_
  k_steps
  unfold Hold
  refine search_yes_K (gp := some (0, 1)) (pat_tok X') (by assumption) (by assumption) (Nat.le_trans hyl (by decide)) htok (by decide) (by rintro p q ⟨⟩; decide) ?_
  intro mt sp li h' F' N' l1 l2
  k_lt l1
  k_lt2 l2
  k_steps
  unfold Hold
  refine truthy_match (MatchAt.ofNews (by assumption) (by k_mem) (by k_mem)) ?_
  k_steps
  unfold Hold
  have F5 := (by assumption : Fr _ _ _ _)
  have N5 := (by assumption : News _ _ _ _)
  refine spec_unmatched (X'.keeps F5.keep) (T.keeps F5.keep) (by show dp + 1 < 900; omega) (by show un + 3 < 500; omega) (MatchAt.ofNews N5 (by k_mem) (by k_mem)) (Nat.le_trans hyl (by decide)) (Nat.zero_le _) hy0 ?_
  intro h5 tk5 u5 g5
  replace F5 := Fr.keeps F5 g5
  replace N5 := News.grown N5 g5
  obtain ⟨z, hz⟩ : ∃ z : Str, z.cps = (61 :: r).toArray := ⟨⟨_⟩, rfl⟩
  rw [show (⟨y.cps.extract 0 0 ++ y.cps.extract 1 y.cps.size⟩ : Str) = z from by apply Str.ext'; rw [hz, hyc]; simp]
  k_steps
  unfold Hold
  have N6 := (by assumption : News _ _ _ _)
  refine' group_1 ?gm (Nat.le_trans hyl (by decide)) ?_
  case gm => exact MatchAt.ofNews N6 (b := 0) (e := 1) (gp := some (0, 1)) (by k_mem) (by k_mem)
  rw [show (⟨y.cps.extract 0 1⟩ : Str) = Str.ofString "k" from by rw [hyc]; rfl]
  dsimp only
  walk1
  dsimp only
  walk1
  obtain ⟨tz, htz⟩ : ∃ tz : Str, tz.cps = #[x, 32, 122] := ⟨⟨_⟩, rfl⟩
  refine cut_at v tz (by assumption) (by assumption) ?_ ?_
  · cases hb : bareB v.cps.toList with
    | true =>
      have hb' := hb
      simp only [bareB, Bool.and_eq_true, List.all_eq_true] at hb'
      obtain ⟨hne, htk⟩ := hb'
      have er : 61 :: r = 61 :: (v.cps.toList ++ x :: [32, 122]) := by
        unfold hdVal at hr
        rw [hb] at hr
        have := hr.symm
        simpa using this
      obtain ⟨c0, r0, hcr⟩ : ∃ c0 r0, v.cps.toList = c0 :: r0 := by
        cases hl : v.cps.toList with
        | nil => rw [hl] at hne; cases hne
        | cons c0 r0 => exact ⟨c0, r0, rfl⟩
      have hvl : v.cps.toList.length = v.cps.size := by simp
      have hc0 := tok_nsp c0 (hs c0 (by rw [hcr]; simp)) (htk c0 (by rw [hcr]; simp))
      have hquo := Rx.quo_no c0 (r0 ++ x :: [32, 122]) (hs c0 (by rw [hcr]; simp)) hc0.2.2.2.2 hc0.2.1 (by rw [hcr] at hvl; simp at hvl ⊢; omega)
      have hzl : z.cps.size = v.cps.size + 4 := by rw [hz, er]; simp
      have hq2 : Rx.Ends 400000 (Sre.forSearch Rx.cQuo z.cps 1 0 z.cps.size false) Rx.Lost := by
        rw [hz, er, hcr, List.size_toArray]; exact hquo
      have hval := Rx.val_yes v.cps.toList x [32, 122] (fun c hc => ⟨hs c hc, (tok_nsp c (hs c hc) (htk c hc)).2.1, (tok_nsp c (hs c hc) (htk c hc)).2.2.1, (tok_nsp c (hs c hc) (htk c hc)).2.2.2.1⟩) hx (by simp; omega)
      have hv2 : Rx.Ends 400000 (Sre.forSearch Rx.cVal z.cps 1 0 z.cps.size false) (Rx.Found 0 (v.cps.size + 1) (some (1, v.cps.size + 1))) := by
        rw [hz, er, List.size_toArray, ← hvl]; exact hval
      k_steps
      unfold Hold
      refine search_no ((pat_quo X').keeps (Fr.keep (by assumption))) ?sz hq2 (Nat.le_refl _) ?_
      case sz => rw [hzl]; omega
      k_steps
      unfold Hold
      refine search_yes_K (gp := some (1, v.cps.size + 1)) (pat_val X') (by assumption) (by assumption) ?sz2 hv2 (Nat.le_refl _) (by rintro p q ⟨⟩; omega) ?_
      case sz2 => rw [hzl]; omega
      intro mt2 sp2 li2 h2' F2' N2' l3 l4
      k_lt l3
      k_lt2 l4
      k_steps
      unfold Hold
      refine truthy_match (MatchAt.ofNews (by assumption) (by k_mem) (by k_mem)) ?_
      k_steps
      unfold Hold
      have F5 := (by assumption : Fr _ _ _ _)
      have N5 := (by assumption : News _ _ _ _)
      refine spec_unmatched (X'.keeps F5.keep) (T.keeps F5.keep) (by show dp + 1 < 900; omega) (by show un + 3 < 500; omega) (MatchAt.ofNews N5 (by k_mem) (by k_mem)) (by rw [hzl]; omega) (Nat.zero_le _) (by rw [hzl]; omega) ?_
      intro h6 tk6 u6 g6
      replace F5 := Fr.keeps F5 g6
      replace N5 := News.grown N5 g6
      rw [show (⟨z.cps.extract 0 0 ++ z.cps.extract (v.cps.size + 1) z.cps.size⟩ : Str) = tz from by
        apply Str.ext'; rw [htz, hz, er, ← hvl]; apply Array.toList_inj.mp; simp]
      k_steps
      unfold Hold
      have N6 := (by assumption : News _ _ _ _)
      refine' group_1 ?gm2 (by rw [hzl]; omega) ?_
      case gm2 => exact MatchAt.ofNews N6 (b := 0) (e := v.cps.size + 1) (gp := some (1, v.cps.size + 1)) (by k_mem) (by k_mem)
      rw [show (⟨z.cps.extract 1 (v.cps.size + 1)⟩ : Str) = v from by
        apply Str.ext'; rw [hz, er, ← hvl]; apply Array.toList_inj.mp; simp]
      k_steps
      unfold Hold
      refine SC.rstrip (fun t' k => ?_) (Nat.le_trans hv (by decide))
      rw [rstrip_same fun c hc => (tok_nsp c (hs c hc) (htk c hc)).1]
      k_steps
      have F7 := (by assumption : Fr _ _ _ _)
      have N7 := (by assumption : News _ _ _ _)
      refine ⟨rfl, _, _, _, _, _, _, _, _, _, _, _, ps, rfl, Fr.cast F7 (by
        funext z
        by_cases e1 : z = Str.ofString "value"
        · simp only [if_pos e1]; first | done | rfl
        · by_cases e2 : z = Str.ofString "text"
          · simp only [if_neg e1, if_pos e2]; first | done | rfl
          · by_cases e3 : z = Str.ofString "m"
            · simp only [if_neg e1, if_neg e2, if_pos e3]; first | done | rfl
            · simp only [if_neg e1, if_neg e2, if_neg e3]), news_sub N7 (all_cons (.head _) (all_cons (.head _) (all_cons (by k_mem) (all_cons (by k_mem) (all_cons (by k_mem) (all_cons (by k_mem) (all_cons (by k_mem) (fun _ h => nomatch h)))))))), ?_, ?_, fun hh k _ => hlp.grow k⟩
      · omega
      · omega
    | false =>
      have er : 61 :: r = 61 :: 34 :: (Rx.escOf v.cps.toList ++ 34 :: [x, 32, 122]) := by
        unfold hdVal at hr
        rw [hb] at hr
        have := hr.symm
        simpa using this
      have hel : (Rx.escOf v.cps.toList).length ≤ 20000 := by
        have := escOf_len v.cps.toList
        simp at this
        omega
      have hquo := Rx.quo_yes v.cps.toList [x, 32, 122] hs (by simp only [List.length_cons, List.length_nil]; omega)
      have hzl : z.cps.size = (Rx.escOf v.cps.toList).length + 6 := by rw [hz, er]; simp
      have hq2 : Rx.Ends 400000 (Sre.forSearch Rx.cQuo z.cps 1 0 z.cps.size false) (Rx.Found 0 ((Rx.escOf v.cps.toList).length + 3) (some (2, (Rx.escOf v.cps.toList).length + 2))) := by
        rw [hz, er, List.size_toArray]; exact hquo
      k_steps
      unfold Hold
      refine search_yes_K (gp := some (2, (Rx.escOf v.cps.toList).length + 2)) (pat_quo X') (by assumption) (by assumption) ?sz hq2 (Nat.le_refl _) (by rintro p q ⟨⟩; omega) ?_
      case sz => rw [hzl]; omega
      intro mt2 sp2 li2 h2' F2' N2' l3 l4
      k_lt l3
      k_lt2 l4
      k_steps
      unfold Hold
      refine truthy_match (MatchAt.ofNews (by assumption) (by k_mem) (by k_mem)) ?_
      k_steps
      unfold Hold
      have F5 := (by assumption : Fr _ _ _ _)
      have N5 := (by assumption : News _ _ _ _)
      refine spec_unmatched (X'.keeps F5.keep) (T.keeps F5.keep) (by show dp + 1 < 900; omega) (by show un + 3 < 500; omega) (MatchAt.ofNews N5 (by k_mem) (by k_mem)) (by rw [hzl]; omega) (Nat.zero_le _) (by rw [hzl]; omega) ?_
      intro h6 tk6 u6 g6
      replace F5 := Fr.keeps F5 g6
      replace N5 := News.grown N5 g6
      rw [show (⟨z.cps.extract 0 0 ++ z.cps.extract ((Rx.escOf v.cps.toList).length + 3) z.cps.size⟩ : Str) = tz from by
        apply Str.ext'; rw [htz, hz, er]; apply Array.toList_inj.mp; simp]
      k_steps
      unfold Hold
      have N6 := (by assumption : News _ _ _ _)
      refine' group_1 ?gm2 (by rw [hzl]; omega) ?_
      case gm2 => exact MatchAt.ofNews N6 (b := 0) (e := (Rx.escOf v.cps.toList).length + 3) (gp := some (2, (Rx.escOf v.cps.toList).length + 2)) (by k_mem) (by k_mem)
      obtain ⟨ev, hev⟩ : ∃ ev : Str, ev.cps = (Rx.escOf v.cps.toList).toArray := ⟨⟨_⟩, rfl⟩
      rw [show (⟨z.cps.extract 2 ((Rx.escOf v.cps.toList).length + 2)⟩ : Str) = ev from by
        apply Str.ext'; rw [hev, hz, er]; apply Array.toList_inj.mp; simp]
      k_steps
      unfold Hold
      refine' lam_make ?l1 ?l2 T (c := 88) (P := 84) ?lC ?lU ?lp rfl rfl ?_
      case l1 => assumption
      case l2 => assumption
      case lC => exact code_88 X'
      case lU => k_updF
      case lp => exact hlp
      intro f c' ctv pm ps' xx ox h' tk' F' N' hcr hps' l0 l1
      k_lt l0
      k_lt l1
      k_steps
      unfold Hold
      refine re_sub (lam := f) (f := fun g => g) ((pat_esc X').keeps F'.keep) ⟨_, N'.get (.head _), rfl⟩ ?lam ?szs (r := v.cps.toList) ?subs ?_
      case szs => rw [hev]; simp; omega
      case subs =>
        have := subs_esc (Rx.escOf v.cps.toList) (by omega) v.cps.toList.length v.cps.toList [] (Nat.le_refl _) hs rfl
        rw [hev]; simpa using this
      case lam =>
        intro s2 a2 x2 u2 b2 e2 p2 q2 Q2 E2 g2 mt2 hx2 hh
        have X2 : (Mine.hd.heap_1 w.params).In s2.heap := fun a o e => g2 _ _ (F'.keep _ _ (X' a o e))
        have T2 : Top topProg loose mean mg mb s2.heap := T.keeps fun a o e => g2 _ _ (F'.keep _ _ e)
        have o2 := g2 _ _ (N'.get (.head _))
        have c2 := codeRec_grow hcr g2
        clear F' N' X' T
        refine enterL (binds := [(Str.ofString "_m", .ref a2)]) T2.nolimit o2 c2 (by have : recursionLimit = 1000 := rfl; show dp + 1 < recursionLimit; omega) rfl (locs rfl) ?_ rfl rfl rfl (by decide)
        intro L h₁ hL F N
        have hxl : x2.length ≤ 100000 := hx2
        dsimp only [List.length]
        k_unmd
        k_steps
        unfold Hold
        refine' group_1 ?gm3 (Nat.le_trans hx2 (by decide)) ?_
        case gm3 => exact mt2.keeps F.keep
        have hgl : (⟨x2.cps.extract p2 q2⟩ : Str).length ≤ 100000 := by
          show (x2.cps.extract p2 q2).size ≤ 100000
          simp; omega
        k_steps
        · rw [show Str.ofString "" ++ (⟨x2.cps.extract p2 q2⟩ : Str) = ⟨(x2.cps.extract p2 q2).toList.toArray⟩ from by apply Str.ext'; apply Array.toList_inj.mp; show ((Str.ofString "").cps ++ _).toList = _; rw [show (Str.ofString "").cps = #[] from rfl]; simp]
          exact hh _ _ _ F.keep
        · have h0 : ((⟨x2.cps.extract p2 q2⟩ : Str).length : Int) = 0 := by assumption
          have h1 : (⟨x2.cps.extract p2 q2⟩ : Str).length = 0 := by omega
          have ez : x2.cps.extract p2 q2 = #[] := Array.eq_empty_of_size_eq_zero h1
          have e2 : Str.ofString "" ++ Str.ofString "" = ⟨([] : List Nat).toArray⟩ := by decide +kernel
          have hh' := hh
          rw [ez] at hh'
          rw [e2]
          exact hh' _ _ _ F.keep
      intro h7 tk7 u7 g7
      replace F' := Fr.keeps F' g7
      replace N' := News.grown N' g7
      rw [show (⟨v.cps.toList.toArray⟩ : Str) = v from by apply Str.ext'; simp]
      k_steps
      have F7 := (by assumption : Fr _ _ _ _)
      have N7 := (by assumption : News _ _ _ _)
      refine ⟨rfl, _, _, _, _, _, _, _, _, _, xx, ox, ps', rfl, Fr.cast F7 (by
        funext z
        by_cases e1 : z = Str.ofString "value"
        · simp only [if_pos e1]; first | done | rfl
        · by_cases e2 : z = Str.ofString "text"
          · simp only [if_neg e1, if_pos e2]; first | done | rfl
          · by_cases e3 : z = Str.ofString "m"
            · simp only [if_neg e1, if_neg e2, if_pos e3]; first | done | rfl
            · simp only [if_neg e1, if_neg e2, if_neg e3]), news_sub N7 (all_cons (.head _) (all_cons (by k_mem) (all_cons (by k_mem) (all_cons (by k_mem) (all_cons (by k_mem) (all_cons (by k_mem) (all_cons (by k_mem) (fun _ h => nomatch h)))))))), ?_, ?_, hps'⟩
      · omega
      · omega
  · clear hlp ht hs
    rintro f s' ⟨rfl, h7, tk7, mv, u1, u2, u3, u4, D, cc, xx, ox, ps', rfl, F7, N7, l5, l6, hps⟩
    replace N7 := news_flat N7
    dsimp only at F7
    rcases hx with rfl | rfl
    · obtain rfl : tz = Str.ofString "; z" := by apply Str.ext'; rw [htz]; decide +kernel
      have hsz : (Str.ofString "; z").cps.size = 3 := by rw [htz]; rfl
      have hno : Rx.Ends 400000 (Sre.forSearch Rx.cTok (Str.ofString "; z").cps 1 0 (Str.ofString "; z").cps.size false) Rx.Lost := by rw [htz]; exact Rx.tok_semi
      k_steps
      unfold Hold
      refine WhlIf.yes rfl ?_
      k_steps
      unfold Hold
      refine search_no ((pat_tok X').keeps (Fr.keep (by assumption))) (by rw [hsz]; decide) hno (Nat.le_refl _) ?_
      k_steps
      unfold Hold
      refine subn_K rfl htz (pat_twin X') (by assumption) (by assumption) ?_
      intro tp h8 tk8 v8 v8' F8 N8 l7
      replace l7 := allNe_of l7
      simp only [AllNe, and_true] at l7
      k_steps
      unfold Hold
      refine WhlIf.yes rfl ?_
      k_steps
      unfold Hold
      refine search_yes_K (gp := some (0, 1)) (pat_tok X') (by assumption) (by assumption) (by decide +kernel) Rx.tok_z (by decide) (by rintro p q ⟨⟩; decide) ?_
      intro mt3 sp3 li3 h9 F9 N9 l8 l9
      k_lt l8
      k_lt2 l9
      k_steps
      unfold Hold
      refine truthy_match (MatchAt.ofNews (by assumption) (by k_mem) (by k_mem)) ?_
      k_steps
      unfold Hold
      have F10 := (by assumption : Fr _ _ _ _)
      have N10 := (by assumption : News _ _ _ _)
      refine spec_unmatched (X'.keeps F10.keep) (T.keeps F10.keep) (by show dp + 1 < 900; omega) (by show un + 3 < 500; omega) (MatchAt.ofNews N10 (b := 0) (e := 1) (gp := some (0, 1)) (by k_mem) (by k_mem)) (by decide +kernel) (Nat.zero_le _) (by decide +kernel) ?_
      intro h11 tk11 u11 g11
      replace F10 := Fr.keeps F10 g11
      replace N10 := News.grown N10 g11
      rw [show (⟨(Str.ofString "z").cps.extract 0 0 ++ (Str.ofString "z").cps.extract 1 (Str.ofString "z").cps.size⟩ : Str) = Str.ofString "" from by decide +kernel]
      k_steps
      unfold Hold
      have N12 := (by assumption : News _ _ _ _)
      refine' group_1 ?gm3 ?sz3 ?_
      case gm3 => exact MatchAt.ofNews N12 (b := 0) (e := 1) (gp := some (0, 1)) (by k_mem) (by k_mem)
      case sz3 => decide +kernel
      rw [show (⟨(Str.ofString "z").cps.extract 0 1⟩ : Str) = Str.ofString "z" from by decide +kernel]
      k_steps
      unfold Hold
      refine search_no ((pat_quo X').keeps (Fr.keep (by assumption))) (by decide +kernel) Rx.quo_nil (Nat.le_refl _) ?_
      k_steps
      unfold Hold
      refine search_no ((pat_val X').keeps (Fr.keep (by assumption))) (by decide +kernel) Rx.val_nil (Nat.le_refl _) ?_
      k_steps
      unfold Hold
      refine WhlIf.no rfl ?_
      k_steps
      unfold Hold
      refine' truthy_listN (by assumption) ?mm ?zz ?bb ?_
      case mm => k_mem
      case zz => exact Nat.le_of_ble_eq_true rfl
      case bb => rfl
      intro tkT
      k_steps
      try dsimp only [qk]
      have F9 := (by assumption : Fr _ _ _ _)
      have N9 := (by assumption : News _ _ _ _)
      refine' hE rfl _ _ ps' _ _ _ _ _ _ _ _ _ F9.keep ?oo (hps _ F9.keep (N9.get ?xm)) ?nn
      case xm => k_mem
      case oo => exact all_cons (N9.get (by k_mem)) (all_cons (N9.get (by k_mem)) (fun _ h => nomatch h))
      case nn => exact all_cons (newAt1 N9 hg (by k_mem) (by dsimp only; omega) (by dsimp only; omega)) (all_cons (newAt1 N9 hg (by k_mem) (by dsimp only; omega) (by dsimp only; omega)) (all_cons (newAt1 N9 hg (by k_mem) (by dsimp only; omega) (by dsimp only; omega)) (all_cons (newAt1 N9 hg (by k_mem) (by dsimp only; omega) (by dsimp only; omega)) (fun _ h => nomatch h))))
    · obtain rfl : tz = Str.ofString ", z" := by apply Str.ext'; rw [htz]; decide +kernel
      have hsz : (Str.ofString ", z").cps.size = 3 := by rw [htz]; rfl
      have hno : Rx.Ends 400000 (Sre.forSearch Rx.cTok (Str.ofString ", z").cps 1 0 (Str.ofString ", z").cps.size false) Rx.Lost := by rw [htz]; exact Rx.tok_comma
      k_steps
      unfold Hold
      refine WhlIf.yes rfl ?_
      k_steps
      unfold Hold
      refine search_no ((pat_tok X').keeps (Fr.keep (by assumption))) (by rw [hsz]; decide) hno (Nat.le_refl _) ?_
      k_steps
      unfold Hold
      refine' truthy_listN (by assumption) ?mm ?zz ?bb ?_
      case mm => k_mem
      case zz => exact Nat.le_of_ble_eq_true rfl
      case bb => rfl
      intro tkT
      k_steps
      unfold Hold
      refine WhlIf.yes rfl ?_
      k_steps
      unfold Hold
      refine search_yes_K (gp := some (1, 2)) (pat_tok X') (by assumption) (by assumption) (by decide +kernel) Rx.tok_sz (by decide) (by rintro p q ⟨⟩; decide) ?_
      intro mt3 sp3 li3 h9 F9 N9 l8 l9
      k_lt l8
      k_lt2 l9
      k_steps
      unfold Hold
      refine truthy_match (MatchAt.ofNews (by assumption) (by k_mem) (by k_mem)) ?_
      k_steps
      unfold Hold
      have F10 := (by assumption : Fr _ _ _ _)
      have N10 := (by assumption : News _ _ _ _)
      refine spec_unmatched (X'.keeps F10.keep) (T.keeps F10.keep) (by show dp + 1 < 900; omega) (by show un + 3 < 500; omega) (MatchAt.ofNews N10 (b := 0) (e := 2) (gp := some (1, 2)) (by k_mem) (by k_mem)) (by decide +kernel) (Nat.zero_le _) (by decide +kernel) ?_
      intro h11 tk11 u11 g11
      replace F10 := Fr.keeps F10 g11
      replace N10 := News.grown N10 g11
      rw [show (⟨(Str.ofString " z").cps.extract 0 0 ++ (Str.ofString " z").cps.extract 2 (Str.ofString " z").cps.size⟩ : Str) = Str.ofString "" from by decide +kernel]
      k_steps
      unfold Hold
      have N12 := (by assumption : News _ _ _ _)
      refine' group_1 ?gm3 ?sz3 ?_
      case gm3 => exact MatchAt.ofNews N12 (b := 0) (e := 2) (gp := some (1, 2)) (by k_mem) (by k_mem)
      case sz3 => decide +kernel
      rw [show (⟨(Str.ofString " z").cps.extract 1 2⟩ : Str) = Str.ofString "z" from by decide +kernel]
      k_steps
      unfold Hold
      refine search_no ((pat_quo X').keeps (Fr.keep (by assumption))) (by decide +kernel) Rx.quo_nil (Nat.le_refl _) ?_
      k_steps
      unfold Hold
      refine search_no ((pat_val X').keeps (Fr.keep (by assumption))) (by decide +kernel) Rx.val_nil (Nat.le_refl _) ?_
      k_steps
      unfold Hold
      refine WhlIf.no rfl ?_
      k_steps
      unfold Hold
      refine' truthy_listN (by assumption) ?mm ?zz ?bb ?_
      case mm => k_mem
      case zz => exact Nat.le_of_ble_eq_true rfl
      case bb => rfl
      intro tkT
      k_steps
      try dsimp only [qk]
      have F9 := (by assumption : Fr _ _ _ _)
      have N9 := (by assumption : News _ _ _ _)
      refine' hO rfl _ _ ps' _ _ _ _ _ _ _ _ _ _ _ F9.keep ?oo (hps _ F9.keep (N9.get ?xm)) ?nn
      case xm => k_mem
      case oo => exact all_cons (N9.get (by k_mem)) (all_cons (N9.get (by k_mem)) (fun _ h => nomatch h))
      case nn => exact all_cons (newAt1 N9 hg (by k_mem) (by dsimp only; omega) (by dsimp only; omega)) (all_cons (newAt1 N9 hg (by k_mem) (by dsimp only; omega) (by dsimp only; omega)) (all_cons (newAt1 N9 hg (by k_mem) (by dsimp only; omega) (by dsimp only; omega)) (all_cons (newAt1 N9 hg (by k_mem) (by dsimp only; omega) (by dsimp only; omega)) (all_cons (newAt1 N9 hg (by k_mem) (by dsimp only; omega) (by dsimp only; omega)) (fun _ h => nomatch h)))))
end Mine
end
section
open PySem PySem.W PySem.W.X PyProof.Rows PySem.Spec PySem.Calls
set_option Elab.async false
set_option maxRecDepth 100000
set_option maxHeartbeats 0
namespace Mine
theorem off_J2 : True := by
  w_top off
  trivial
local macro_rules | `(tactic| omega) => `(tactic| lia)
local macro_rules | `(tactic| walk_at "execs cons") => `(tactic| ((with_reducible refine wpAny_execs_cons ?_); (try k_fold)))
local macro_rules | `(tactic| walk_at "call builtin:str.join") => `(tactic| with_reducible refine hold_in ?_)
local macro_rules | `(tactic| walk_at "exec If") => `(tactic| ((with_reducible show wpAny _ _ (exec (Stmt.If (Expr.Compare _ _ _ _) _ _ _) _) _ _ _); with_reducible refine hold_in ?_))
theorem joinA (sep : Str) (ys : List Str) : Txt.join sep ys = Str.join sep ys := eq_of_beq (join_closes (sep := sep) (ys := ys) rfl)
theorem hdO_eq {A : Str} {al : List Nat} (hA : A.cps.toList = al) : Txt.join (Str.ofString ", ") [Txt.join (Str.ofString "; ") [A], Str.ofString "z"] = ⟨(al ++ [44, 32, 122]).toArray⟩ := by
  rw [joinA, joinA]
  show A ++ Str.ofString ", " ++ Str.ofString "z" = _
  apply Str.ext'
  apply Array.toList_inj.mp
  show (A.cps ++ (Str.ofString ", ").cps ++ (Str.ofString "z").cps).toList = _
  rw [Array.toList_append, Array.toList_append, hA]
  have e1 : (Str.ofString ", ").cps.toList = [44, 32] := by decide +kernel
  have e2 : (Str.ofString "z").cps.toList = [122] := by decide +kernel
  rw [e1, e2]
  simp
theorem szO1 {A : Str} (h : A.length ≤ 50000) : (List.map (fun x => x.length) [A]).sum + [A].length * (Str.ofString "; ").length ≤ 16777216 := by
  have e2 : (Str.ofString "; ").length = 2 := by decide +kernel
  simp only [List.map_cons, List.map_nil, List.sum_cons, List.sum_nil, List.length_cons, List.length_nil]
  omega
theorem szO2 {A : Str} (h : A.length ≤ 50000) : (List.map (fun x => x.length) [Txt.join (Str.ofString "; ") [A], Str.ofString "z"]).sum + [Txt.join (Str.ofString "; ") [A], Str.ofString "z"].length * (Str.ofString ", ").length ≤ 16777216 := by
  rw [joinA]
  have e1 : (Str.ofString "z").length = 1 := by decide +kernel
  have e2 : (Str.ofString ", ").length = 2 := by decide +kernel
  have e3 : Str.join (Str.ofString "; ") [A] = A := rfl
  rw [e3]
  simp only [List.map_cons, List.map_nil, List.sum_cons, List.sum_nil, List.length_cons, List.length_nil]
  omega
theorem spec_joinO {w : World} {dp un : Nat} {fr : Option (List Env)} {gd : Option (List Code)} {s : Shared} {a b b2 c d : Addr} {v : Str} {t1 t2 t3 : Tok} {ps : Array Value} {loose mean mg mb} {Q : Value → Shared → Prop} {E : Value → Shared → Prop}
  (hd : dp < 800) (hu : un < 500) (hv : v.cps.size ≤ 10000) (hs : ∀ c ∈ v.cps.toList, c ∈ Rx.sigma)
  (tabs : List (Addr × Obj)) (htabs : tabs = [(a, listT [.ref b, .ref b2]), (b2, listT [.ref d]), (d, tupT [.str (Str.ofString "z") t3, .none]), (b, listT [.ref c]), (c, tupT [.str (Str.ofString "k") t1, .str v t2]), (101, tabObj ps)])
  (X : (Mine.hd.heap_1 w.params).In (hideAll s.heap (tabs.map (·.1)))) (T : Top topProg loose mean mg mb (hideAll s.heap (tabs.map (·.1)))) (ht : ∀ p ∈ tabs, s.heap.get? p.1 = some p.2)
  (hlp : lamPos ps qJ (hideAll s.heap (tabs.map (·.1))) 72 50) (o1 : (101 : Nat) < c) (o2 : c < b) (o3 : b < d) (o4 : d < b2) (o5 : b2 < a)
  (h : ∀ h' tk u ps', Grow (hideAll s.heap (tabs.map (·.1))) h' → (∀ p ∈ [(a, listT [.ref b, .ref b2]), (b2, listT [.ref d]), (d, tupT [.str (Str.ofString "z") t3, .none]), (b, listT [.ref c]), (c, tupT [.str (Str.ofString "k") t1, .str v t2]), (101, tabObj ps')], h'.get? p.1 = some p.2) → lamPos ps' qJ h' 72 50 →
    Q (.str ⟨(hdVal v.cps.toList ++ [44, 32, 122]).toArray⟩ u) { s with heap := h', toks := tk }) :
  wpAny (model PySem.Challenge.rw_re0054_01.row.prog w) (AA dp un fr gd) (call (.ref 106) [.ref a]) Q E s := by
  subst htabs
  revert X; k_fill; intro X
  refine' enterH _ ?k1 ?k2 ht ?k3 ?k4 ?k5 ?k6 ?k7 ?_ ?k8 ?k9 ?k10 ?k11
  case k1 => assumption
  case k2 => exact T.nolimit
  case k3 => k_is
  case k4 => k_is
  case k5 => have : recursionLimit = 1000 := rfl; show dp < recursionLimit; omega
  case k6 => exact BindsTo.of_eq rfl
  case k7 => exact locs rfl
  case k8 => rfl
  case k9 => rfl
  case k10 => rfl
  case k11 => decide
  intro L h₁ g hg hlt X' F N
  k_lt2 o1
  k_lt2 o2
  k_lt2 o3
  k_lt2 o4
  k_lt2 o5
  k_lt hlt
  rw [← hg] at T h hlp
  clear X
  dsimp only
  k_unmd
  k_fold
  have hxl : v.length ≤ 100000 := Nat.le_trans hv (by decide)
  k_steps
  unfold Hold
  rename_i hd0 q1 lhd q2 qa ea i0 li0 it0 q4 q5 hit0 at0 q6 lat q7 qb eb i1 li1 q9 q10 o1' hc1 q11 F1 N1 q12 q13 F2 N2
  clear F1 N1
  refine' wpAny_mono (jk_if ?jd ?ju hv hs X' T hlp F2 N2 ?U) ?_ (fun _ _ e => e)
  case jd => show dp + 1 < 850; omega
  case ju => show un + 3 < 600; omega
  case U => k_updF
  rintro f s' ⟨rfl, h7, tk7, u7, vv, ps', xx, ox, rfl, F7, N7, hxx, hps⟩
  dsimp only at N7
  have x1 : @Ne Nat i1 xx := hxx _ (.head _) (by omega)
  have x2 : @Ne Nat at0 xx := hxx _ (.tail _ (.head _)) (by omega)
  have x3 : @Ne Nat i0 xx := hxx _ (.tail _ (.tail _ (.head _))) (by omega)
  have x4 : @Ne Nat hd0 xx := hxx _ (.tail _ (.tail _ (.tail _ (.head _)))) (by omega)
  obtain ⟨A, hA⟩ : ∃ A : Str, A = ⟨(hdVal v.cps.toList).toArray⟩ := ⟨_, rfl⟩
  rw [← hA] at F7
  have hAl : A.length ≤ 50000 := by
    rw [hA]; exact hdVal_short hv
  clear F2 N2 hxx
  k_steps
  unfold Hold
  refine join_list (News.isList (by assumption) (by k_mem)) (.cons _ _ .nil) ?_ ?_
  · exact szO1 hAl
  intro t5 k5
  k_steps
  unfold Hold
  refine wpAny_If ?_
  k_steps
  unfold Hold
  refine join_list (News.isList (by assumption) (by k_mem)) (.cons _ _ .nil) ?_ ?_
  · exact szO1 (by decide +kernel)
  intro t7 k7
  k_steps
  unfold Hold
  refine join_list (News.isList (by assumption) (by k_mem)) (.cons _ _ (.cons _ _ .nil)) ?_ ?_
  · exact szO2 hAl
  intro t6 k6
  dsimp only [qk]
  rw [hdO_eq (A := A) (al := hdVal v.cps.toList) (by rw [hA])]
  have N9 := (by assumption : News _ _ _ _)
  refine h _ _ _ ps' (Fr.keep (by assumption)) ?_ (hps _ (Fr.keep (by assumption)) (N9.get (by k_mem)))
  intro p hp
  simp only [List.mem_cons, List.not_mem_nil, or_false] at hp
  rcases hp with rfl | rfl | rfl | rfl | rfl | rfl
  all_goals exact N9.get (by k_mem)
end Mine
end
end
section
open PySem PySem.W PySem.W.X PyProof.Rows PySem.Spec PySem.Calls
set_option Elab.async false
set_option maxRecDepth 100000
namespace Mine
/-- an object that may be changed: no tuple, no code -/
noncomputable def Mut (o : Obj) : Prop := o.cls ≠ .type "tuple" ∧ ∀ vs, o.data = .fields vs → ∀ q t, vs[1]? ≠ some (.str q t)
section
variable {prog : Program} {w : World} {A : Around} {E : Value → Shared → Prop} {s : Shared} {env : Env} {h₀ : Heap} {x : Str} {body : List Stmt} {Q : Flow → Shared → Prop}
theorem iterV_range {r : Addr} {a₀ b₀ : Int} {t₀ u₀ v₀ : Tok} {n : Nat} {m₀ : Str → Option Value} {news : List (Addr × Obj)} (J : Nat → (Str → Option Value) → List (Addr × Obj) → Prop)
    (hh : A.handled = none) (hr : IsRange s.heap r a₀ b₀ 1 t₀ u₀ v₀) (hsmall : Builtin.Range.small a₀ b₀ 1 = true) (hn : Builtin.Range.rangeSize a₀ b₀ 1 = (n : Int))
    (F : Fr h₀ env.locals s.heap m₀) (N : News h₀ env.locals s.heap news) (hj : J 0 m₀ news)
    (turn : ∀ i t m₁ nx h tk I it, Mut it → i < n → (∀ p ∈ nx, @Ne Nat p.1 I) → J i m₁ nx → Fr h₀ env.locals h (fun y => if y = x then some (.int (a₀ + (i : Nat)) t) else m₁ y) → News h₀ env.locals h ((I, it) :: nx) →
      wpAny (model prog w) A (execs body env) (fun f s' => match f with | .ret v => Q (.ret v) s' | f => TurnEnd h₀ env.locals I it (J (i + 1)) { s with heap := h, toks := tk } f s') E { s with heap := h, toks := tk })
    (done : ∀ m₁ nx h tk, J n m₁ nx → Fr h₀ env.locals h m₁ → News h₀ env.locals h nx → Q .next { s with heap := h, toks := tk }) :
    wpAny (model prog w) A (pyIter (.ref r)) (fun it s₂ => LoopAtV prog w A h₀ env x body Q E it s₂) E s := by
  refine wpAny_pyIter_range hr hsmall ?_
  have Wk := Walks.range (prog := prog) (w := w) hh s.heap.objs.size a₀ 1 n
  refine ⟨s.heap.objs.size, _, _, _, _, _, m₀, news, J, rfl, Wk, ?_, ?_, ?_, (by show IsRangeIter _ _ _ _ _; rw [hn]; simpa using Heap.get?_push_size _ rfl), F.push _, (fun p hp => ⟨Heap.get?_push_of_some _ (N p hp).1, (N p hp).2⟩), hj, ?_, ?_⟩
  · intro hm; exact absurd F.ns.lt ((List.mem_singleton.mp hm) ▸ Nat.lt_irrefl _)
  · intro b hb; rw [List.mem_singleton.mp hb]; exact next_is_new F
  · intro p hp hI; exact absurd (Heap.lt_size (N p hp).1) ((List.mem_singleton.mp hI) ▸ Nat.lt_irrefl _)
  · rintro i v m₁ news₁ s₁ own ⟨hh', tk', rfl⟩ hin hP hJ hoff hsub hown hmem hst F₁ N₁
    obtain ⟨t, rfl⟩ := hP
    rw [Int.mul_one] at F₁
    have hIn : h₀.get? s.heap.objs.size = none := next_is_new F
    obtain ⟨oI, heI⟩ : ∃ o, hh'.get? s.heap.objs.size = some o := ⟨_, hst⟩
    have hmI := hmem _ (.head _) hIn oI heI
    have N₂ : News h₀ env.locals hh' ((s.heap.objs.size, oI) :: news₁) := fun p hp => N₁ p (by
      rcases List.mem_cons.mp hp with rfl | hp
      · exact List.mem_append_left _ hmI
      · exact List.mem_append_right _ hp)
    refine wpAny_mono (turn i t m₁ news₁ hh' tk' _ oI (by rw [show hh'.get? s.heap.objs.size = some _ from hst] at heI; cases heI; exact ⟨(show Value.type "range_iterator" ≠ Value.type "tuple" by decide), fun vs h q t e => by cases h; cases e⟩) hin (fun p hp e => hoff p hp (by rw [show p.1 = _ from e]; exact .head _)) hJ F₁ N₂) (fun f s₂ p => ?_) fun _ _ e => e
    cases f with
    | ret v => exact .ret p
    | brk => obtain ⟨e, _⟩ := p; cases e
    | cont => obtain ⟨e, _⟩ := p; cases e
    | next =>
      obtain ⟨_, h', tk, m', nx', e, F', N', ha, hJ'⟩ := p
      refine .next ⟨rfl, h', tk, m', nx', e, F', ?_, fun p hp hm => ha p hp (List.mem_singleton.mp hm), hJ'⟩
      intro p hp
      rcases List.mem_append.mp hp with hp | hp
      · have e1 := List.mem_singleton.mp (hsub p hp)
        have e2 := hown p hp
        obtain ⟨p1, p2⟩ := p
        dsimp only at e1 e2
        subst e1
        rw [heI] at e2; cases e2
        exact N' _ (.head _)
      · exact N' _ (.tail _ hp)
  · intro h' tk m' news' F' N' _ hJ
    exact done m' news' h' tk hJ F' N'
end
/-- an object that stands, of the base or of the ledger's frozen tail -/
noncomputable def Has (g : Heap) (tl : List (Addr × Obj)) (a : Addr) (o : Obj) : Prop := g.get? a = some o ∨ (a, o) ∈ tl
theorem Has.mono {g : Heap} {tl tl' : List (Addr × Obj)} {a : Addr} {o : Obj} (k : ∀ p ∈ tl, p ∈ tl') (x : Has g tl a o) : Has g tl' a o := x.imp id (k _)
theorem Has.at {g h : Heap} {L : Addr} {m : Str → Option Value} {tl : List (Addr × Obj)} {a : Addr} {o : Obj} (F : Fr g L h m) (N : ∀ q ∈ tl, h.get? q.1 = some q.2) (x : Has g tl a o) : h.get? a = some o := x.elim (F.keep _ _) (N (a, o))
noncomputable def PairH (g : Heap) (tl : List (Addr × Obj)) (v : Value) (p : Str × Int) : Prop := ∃ T o t t', ∃ n : Nat, v = .ref T ∧ Has g tl T o ∧ o.cls = .type "tuple" ∧ o.data = .seq #[.str p.1 t, .int p.2 t'] n
noncomputable def ItemsH (g : Heap) (tl : List (Addr × Obj)) (v : Value) (xs : List (Str × Int)) : Prop := ∃ (a : Addr) (vs : List Value) (o : Obj) (n : Nat), v = .ref a ∧ Has g tl a o ∧ o.cls = .type "list" ∧ o.data = .seq vs.toArray n ∧ All2 (PairH g tl) vs xs
theorem PairH.mono {g : Heap} {tl tl' : List (Addr × Obj)} (k : ∀ p ∈ tl, p ∈ tl') {v : Value} {p : Str × Int} (x : PairH g tl v p) : PairH g tl' v p := by
  obtain ⟨T, o, t, t', n, e, h, r⟩ := x; exact ⟨T, o, t, t', n, e, h.mono k, r⟩
theorem ItemsH.mono {g : Heap} {tl tl' : List (Addr × Obj)} (k : ∀ p ∈ tl, p ∈ tl') {v : Value} {xs : List (Str × Int)} (x : ItemsH g tl v xs) : ItemsH g tl' v xs := by
  obtain ⟨a, vs, o, n, e, h, c, d, r⟩ := x; exact ⟨a, vs, o, n, e, h.mono k, c, d, r.mono fun _ _ => PairH.mono k⟩
theorem ItemsH.at {g h : Heap} {L : Addr} {m : Str → Option Value} {tl : List (Addr × Obj)} (F : Fr g L h m) (N : ∀ q ∈ tl, h.get? q.1 = some q.2) {v : Value} {xs : List (Str × Int)} (x : ItemsH g tl v xs) : ItemsAt h v xs := by
  obtain ⟨a, vs, o, n, e, ha, c, d, r⟩ := x
  refine ⟨a, vs, e, ⟨o, ha.at F N, c, n, d⟩, r.mono fun v p y => ?_⟩
  obtain ⟨T, o, t, t', n, e, hT, c, d⟩ := y
  exact ⟨T, t, t', e, o, hT.at F N, c, n, d⟩
/-- one standing object put where it belongs -/
theorem put {g h : Heap} {L a : Addr} {m : Str → Option Value} {o : Obj} (F : Fr g L h m) (ho : h.get? a = some o) (hd : ∀ es ep, o.data ≠ .dict es ep) : ∃ tl, News g L h tl ∧ Has g tl a o ∧ ∀ q ∈ tl, q = (a, o) := by
  cases e : g.get? a with
  | some o' =>
    have := F.keep _ _ e
    rw [ho] at this; cases this
    exact ⟨[], (fun _ hq => nomatch hq), .inl e, (fun _ hq => nomatch hq)⟩
  | none =>
    refine ⟨[(a, o)], fun q hq => ?_, .inr (.head _), fun q hq => List.mem_singleton.mp hq⟩
    rw [List.mem_singleton.mp hq]
    refine ⟨ho, ?_, e⟩
    rintro rfl
    obtain ⟨oL, es, ep, hL, hdd, _⟩ := F.ns
    rw [ho] at hL; cases hL
    exact hd _ _ hdd
noncomputable def Frz (o : Obj) : Prop := o.cls = .type "tuple" ∨ o.cls = .type "list"
theorem collect {g h : Heap} {L : Addr} {m : Str → Option Value} (F : Fr g L h m) {v : Value} {xs : List (Str × Int)} (x : ItemsAt h v xs) : ∃ tl, News g L h tl ∧ ItemsH g tl v xs ∧ ∀ q ∈ tl, (q.2.cls = .type "tuple" ∧ ∃ vs n, q.2.data = .seq vs n) ∨ v = .ref q.1 := by
  obtain ⟨a, vs, rfl, ⟨o, ho, hc, n, hd⟩, hi⟩ := x
  have key : ∀ {us : List Value} {xs : List (Str × Int)}, All2 (PairAt h) us xs → ∃ tl, News g L h tl ∧ All2 (PairH g tl) us xs ∧ ∀ q ∈ tl, q.2.cls = .type "tuple" ∧ ∃ vs n, q.2.data = .seq vs n := by
    intro us xs hu
    induction hu with
    | nil => exact ⟨[], (fun _ hq => nomatch hq), .nil, (fun _ hq => nomatch hq)⟩
    | cons y r ih =>
      obtain ⟨tl, N, hA, ht⟩ := ih
      obtain ⟨T, t, t', e, oT, hoT, hcT, nT, hdT⟩ := y
      obtain ⟨tl1, N1, h1, h2⟩ := put F hoT (by rw [hdT]; intro _ _ e; cases e)
      refine ⟨tl1 ++ tl, fun q hq => (List.mem_append.mp hq).elim (N1 q) (N q), .cons ⟨T, oT, t, t', nT, e, h1.mono fun _ hq => List.mem_append_left _ hq, hcT, hdT⟩ (hA.mono fun _ _ => PairH.mono fun _ hq => List.mem_append_right _ hq), ?_⟩
      intro q hq
      rcases List.mem_append.mp hq with hq | hq
      · rw [h2 q hq]; exact ⟨hcT, _, _, hdT⟩
      · exact ht q hq
  obtain ⟨tl, N, hA, ht⟩ := key hi
  obtain ⟨tl1, N1, h1, h2⟩ := put F ho (by rw [hd]; intro _ _ e; cases e)
  refine ⟨tl1 ++ tl, fun q hq => (List.mem_append.mp hq).elim (N1 q) (N q), ⟨a, vs, o, n, rfl, h1.mono fun _ hq => List.mem_append_left _ hq, hc, hd, hA.mono fun _ _ => PairH.mono fun _ hq => List.mem_append_right _ hq⟩, ?_⟩
  intro q hq
  rcases List.mem_append.mp hq with hq | hq
  · rw [h2 q hq]; exact .inr rfl
  · exact .inl (ht q hq)
theorem in_hide {w : World} {g h : Heap} {L : Addr} {m : Str → Option Value} {tabs : List (Addr × Obj)} (F : Fr g L h m) (N : News g L h tabs) : ∀ b o, g.get? b = some o → (hideAll h (tabs.map (·.1))).get? b = some o := fun b o e =>
  hideAll_get _ (F.keep _ _ e) fun hm => by
    obtain ⟨p, hp, e2⟩ := List.mem_map.mp hm
    have := (N p hp).2.2
    rw [e2, e] at this; cases this
theorem grow_hide {g h h' : Heap} {L : Addr} {m : Str → Option Value} {tabs tabs' rest : List (Addr × Obj)} (F : Fr g L h m) (N : News g L h (tabs ++ rest)) (hd : ∀ p ∈ rest, ∀ q ∈ tabs, p.1 ≠ q.1) (G : Grow (hideAll h (tabs.map (·.1))) h')
    (hT : ∀ p ∈ tabs', h'.get? p.1 = some p.2) (hs : ∀ p ∈ tabs', ∃ q ∈ tabs, q.1 = p.1) : Fr g L h' m ∧ News g L h' (tabs' ++ rest) := by
  have N1 : News g L h tabs := fun p hp => N p (List.mem_append_left _ hp)
  have up : ∀ b o, (∀ q ∈ tabs, q.1 ≠ b) → h.get? b = some o → h'.get? b = some o := fun b o hb e => G _ _ (hideAll_get _ e fun hm => by
    obtain ⟨p, hp, e2⟩ := List.mem_map.mp hm
    exact hb p hp e2)
  refine ⟨⟨F.ns.at' fun o e => up L o (fun q hq => (N1 q hq).2.1) e, fun b o e => G _ _ (hideAll_get _ (F.keep _ _ e) fun hm => by
    obtain ⟨p, hp, e2⟩ := List.mem_map.mp hm
    have := (N1 p hp).2.2
    rw [e2, e] at this; cases this), F.above⟩, ?_⟩
  intro p hp
  rcases List.mem_append.mp hp with hp | hp
  · obtain ⟨q, hq, e⟩ := hs p hp
    exact ⟨hT p hp, e ▸ (N1 q hq).2⟩
  · have := N p (List.mem_append_right _ hp)
    exact ⟨up _ _ (fun q hq e => hd p hp q hq e.symm) this.1, this.2⟩
/-- the state of a table of a lambda's code -/
noncomputable def LamH (g : Heap) (tl : List (Addr × Obj)) (ps : Array Value) (q : Str) (ln cl : Int) : Prop := ps = #[] ∨ ∃ c' oc vs t, ps = #[rawInt ln, rawInt cl, .ref c'] ∧ Has g tl c' oc ∧ oc.data = .fields vs ∧ vs[1]? = some (.str q t)
theorem LamH.mono {g : Heap} {tl tl' : List (Addr × Obj)} {ps : Array Value} {q : Str} {ln cl : Int} (k : ∀ p ∈ tl, p ∈ tl') (x : LamH g tl ps q ln cl) : LamH g tl' ps q ln cl :=
  x.imp id fun y => by obtain ⟨c', oc, vs, t, e, h, r⟩ := y; exact ⟨c', oc, vs, t, e, h.mono k, r⟩
theorem LamH.at {g h : Heap} {tl : List (Addr × Obj)} {ps : Array Value} {q : Str} {ln cl : Int} (k : ∀ b o, g.get? b = some o → h.get? b = some o) (N : ∀ q ∈ tl, h.get? q.1 = some q.2) (x : LamH g tl ps q ln cl) : lamPos ps q h ln cl :=
  x.imp id fun ⟨c', oc, vs, t, e, h, r⟩ => ⟨c', oc, vs, t, e, h.elim (k _ _) (N (c', oc)), r⟩
theorem LamH.of {g h : Heap} {L : Addr} {m : Str → Option Value} {ps : Array Value} {q : Str} {ln cl : Int} (F : Fr g L h m) (x : lamPos ps q h ln cl) : ∃ tl, News g L h tl ∧ LamH g tl ps q ln cl ∧ ∀ p ∈ tl, ∃ vs, p.2.data = .fields vs ∧ ∃ t, vs[1]? = some (.str q t) := by
  rcases x with e | ⟨c', oc, vs, t, e, h1, h2, h3⟩
  · exact ⟨[], (fun _ hq => nomatch hq), .inl e, (fun _ hq => nomatch hq)⟩
  · obtain ⟨tl, N, hH, hq⟩ := put F h1 (by rw [h2]; intro _ _ e; cases e)
    exact ⟨tl, N, .inr ⟨c', oc, vs, t, e, hH, h2, h3⟩, fun p hp => by rw [hq p hp]; exact ⟨vs, h2, t, h3⟩⟩
theorem strs_carried : ∀ {us : List Value} {zs : List Str}, StrsAre us zs → CarriedAll us (zs.map PyData.str)
  | _, _, .nil => .nil
  | _, _, .cons y t r => .cons (.str y t) (strs_carried r)
theorem strs_shaped (zs : List Str) (hz : ∀ z ∈ zs, z.cps.all (· < 0x110000) = true) : SeqAt.shaped (.list (zs.map PyData.str)) = true := by
  have h1 : ∀ zs : List Str, (∀ z ∈ zs, z.cps.all (· < 0x110000) = true) → PyData.canLayAll0 (zs.map PyData.str) = true := fun zs => by
    induction zs with
    | nil => intro _; rfl
    | cons a r ih =>
      intro h
      have h2 : PyData.strOk a = true := h a (.head _)
      simp [PyData.canLayAll0, PyData.canLay0, ih fun z hz => h z (.tail _ hz), h2]
  have h2 : ∀ zs : List Str, PyData.depthAll (zs.map PyData.str) = 0 := fun zs => by induction zs with | nil => rfl | cons a r ih => simp [PyData.depthAll, PyData.depth, ih]
  simp [SeqAt.shaped, PyData.canLay0, PyData.depth, h1 zs hz, h2]
theorem eq_nil_strs {prog : Program} {w : World} {A : Around} {E : Value → Shared → Prop} {s : Shared} {a b : Addr} {us : List Value} {zs : List Str} {Q : Value → Shared → Prop} (ha : s.heap.IsList a us.toArray) (hz : StrsAre us zs) (hb : s.heap.IsList b (([] : List Value).toArray)) (hok : ∀ z ∈ zs, z.cps.all (· < 0x110000) = true) (hu : A.units + 64 < cLine)
    (h : Q (.bool us.isEmpty) s) : wpAny (model prog w) A (compareOp .Eq (.ref a) (.ref b)) Q E s := by
  refine eq_dataH (reads_newData ha (strs_carried hz)) (reads_newData hb .nil) (strs_shaped _ hok) (by rfl) hu ?_
  cases hz with
  | nil => exact h
  | cons y t r => exact h
end Mine
end
section
open PySem PySem.W PySem.W.X PyProof.Rows PySem.Spec PySem.Calls
set_option Elab.async false
set_option maxRecDepth 100000
namespace Mine
local macro_rules | `(tactic| omega) => `(tactic| lia)
noncomputable def patM : List Nat := [32, 40, 41, 46, 63, 126]
noncomputable def hdM : List Nat := [34]
theorem strokesN_snoc (c : Nat) (l : List (List Nat)) (m : List Nat) : strokesN c (l ++ [m]) = 2 * strokesN c l + if c ∈ m then 1 else 0 := by
  unfold strokesN
  rw [List.foldl_append]
  rfl
theorem writ1_snoc {ms : List (List Nat)} {m : List Nat} {p : Nat × Nat} (hb : p.2 ≤ ms.length) : writ1 (ms ++ [m]) p = List.replicate (2 * strokesN p.1 (ms.drop p.2) + if p.1 ∈ m then 1 else 0) 92 ++ if p.1 = 92 then [] else [p.1] := by
  unfold writ1
  rw [List.drop_append_of_le_length hb, strokesN_snoc]
theorem writ1_new {ms : List (List Nat)} {c b : Nat} (hb : ms.length ≤ b) (hc : c ≠ 92) : writ1 ms (c, b) = [c] := by
  unfold writ1
  rw [List.drop_of_length_le hb]
  simp [strokesN, hc]
theorem writN_append (ms : List (List Nat)) (a b : List (Nat × Nat)) : writN ms (a ++ b) = writN ms a ++ writN ms b := by
  unfold writN; rw [List.flatMap_append]
theorem writN_cons (ms : List (List Nat)) (p : Nat × Nat) (b : List (Nat × Nat)) : writN ms (p :: b) = writ1 ms p ++ writN ms b := rfl
theorem writN_new {ms : List (List Nat)} {b : Nat} (hb : ms.length ≤ b) : ∀ (l : List Nat), (∀ c ∈ l, c ≠ 92) → writN ms (l.map fun c => (c, b)) = l
  | [], _ => rfl
  | c :: l, h => by
    rw [List.map_cons, writN_cons, writ1_new hb (h c (.head _)), writN_new hb l fun d hd => h d (.tail _ hd)]
    rfl
theorem trOf_append (a b : List Nat) : trOf (a ++ b) = trOf a ++ trOf b := by unfold trOf; rw [List.flatMap_append]
theorem dbl_replicate {f : Nat → List Nat} (h : f 92 = [92, 92]) : ∀ k, (List.replicate k 92).flatMap f = List.replicate (2 * k) 92
  | 0 => rfl
  | k + 1 => by
    rw [List.replicate_succ, List.flatMap_cons, dbl_replicate h k, h, show 2 * (k + 1) = 2 * k + 1 + 1 by omega, List.replicate_succ, List.replicate_succ]
    rfl
theorem rep_snoc (k : Nat) (r : List Nat) : List.replicate (k + 1) 92 ++ r = List.replicate k 92 ++ 92 :: r := by
  rw [List.replicate_succ']
  simp
theorem tr_marks : ∀ c ∈ Rx.sigma, c ≠ 92 → c ≠ 42 → (spB c = true ↔ c ∈ patM) := by decide
theorem writ1_tr {ms : List (List Nat)} {p : Nat × Nat} (hb : p.2 ≤ ms.length) (hc : p.1 ≠ 42) (hs : p.1 ∈ Rx.sigma) : writ1 (ms ++ [patM]) p = trOf (writ1 ms p) := by
  rw [writ1_snoc hb]
  unfold writ1
  rw [trOf_append]
  have hd : trOf (List.replicate (strokesN p.1 (ms.drop p.2)) 92) = List.replicate (2 * strokesN p.1 (ms.drop p.2)) 92 := dbl_replicate (by decide) _
  rw [hd]
  by_cases h92 : p.1 = 92
  · rw [if_pos h92, h92]
    have : (92 : Nat) ∉ patM := by decide
    rw [if_neg this]; rfl
  · rw [if_neg h92]
    have e := tr_marks p.1 hs h92 hc
    by_cases hm : p.1 ∈ patM
    · rw [if_pos hm, rep_snoc]
      have : trOf [p.1] = [92, p.1] := by unfold trOf tr1; simp [e.mpr hm]
      rw [this]
    · rw [if_neg hm, Nat.add_zero]
      have : trOf [p.1] = [p.1] := by
        unfold trOf tr1
        have : spB p.1 = false := by cases h : spB p.1 with | false => rfl | true => exact absurd (e.mp h) hm
        simp [this]
      rw [this]
theorem writ1_esc {ms : List (List Nat)} {p : Nat × Nat} (hb : p.2 ≤ ms.length) : writ1 (ms ++ [hdM]) p = Rx.escOf (writ1 ms p) := by
  rw [writ1_snoc hb]
  unfold writ1
  rw [Rx.escOf_append]
  have hd : Rx.escOf (List.replicate (strokesN p.1 (ms.drop p.2)) 92) = List.replicate (2 * strokesN p.1 (ms.drop p.2)) 92 := dbl_replicate (by decide) _
  rw [hd]
  by_cases h92 : p.1 = 92
  · rw [if_pos h92, h92]; rfl
  · rw [if_neg h92]
    by_cases hm : p.1 = 34
    · rw [hm, if_pos (by decide), rep_snoc]; rfl
    · rw [if_neg (by unfold hdM; simpa using hm), Nat.add_zero]
      have : Rx.escOf [p.1] = [p.1] := by unfold Rx.escOf Rx.esc1; simp [hm, h92]
      rw [this]
theorem writN_esc {ms : List (List Nat)} : ∀ {ys : List (Nat × Nat)}, (∀ p ∈ ys, p.2 ≤ ms.length) → writN (ms ++ [hdM]) ys = Rx.escOf (writN ms ys)
  | [], _ => rfl
  | p :: ys, h => by rw [writN_cons, writN_cons, Rx.escOf_append, writ1_esc (h p (.head _)), writN_esc fun q hq => h q (.tail _ hq)]
/-- the header's law -/
theorem head_law {ms : List (List Nat)} {ys : List (Nat × Nat)} {v : List Nat} (hv : v = writN ms ys) (hb : ∀ p ∈ ys, p.2 ≤ ms.length) (beh : List Nat) (hbeh : ∀ c ∈ beh, c ≠ 92) :
    hdVal v ++ beh = writN (ms ++ [hdM]) (headN (ms.length + 1) (bareB v) beh ys) := by
  unfold headN
  have hl : (ms ++ [hdM]).length ≤ ms.length + 1 := by simp
  rw [writN_append, writN_append, writN_esc hb, ← hv, writN_new hl, writN_new hl]
  · unfold hdVal markN
    by_cases h : bareB v = true
    · rw [h]
      have : Rx.escOf v = v := Rx.escOf_plain fun c hc hcc => by
        have h2 := h
        simp only [bareB, Bool.and_eq_true, List.all_eq_true] at h2
        have := h2.2 c hc
        rcases hcc with rfl | rfl <;> exact absurd this (by decide)
      rw [this]; simp
    · rw [Bool.eq_false_iff.mpr h]; simp
  · intro c hc
    rcases List.mem_append.mp hc with hc | hc
    · unfold markN at hc; split at hc
      · cases hc
      · rw [List.mem_singleton.mp hc]; decide
    · exact hbeh c hc
  · intro c hc
    rcases List.mem_cons.mp hc with rfl | hc
    · decide
    rcases List.mem_cons.mp hc with rfl | hc
    · decide
    · unfold markN at hc; split at hc
      · cases hc
      · rw [List.mem_singleton.mp hc]; decide
/-- split at stars -/
noncomputable def spL : List Nat → List Nat × List (List Nat)
  | [] => ([], [])
  | c :: v => if c = 42 then ([], (spL v).1 :: (spL v).2) else (c :: (spL v).1, (spL v).2)
theorem spL_free : ∀ (u v : List Nat), (∀ c ∈ u, c ≠ 42) → spL (u ++ v) = (u ++ (spL v).1, (spL v).2)
  | [], v, _ => rfl
  | c :: u, v, h => by
    rw [List.cons_append]
    show (if c = 42 then _ else _) = _
    rw [if_neg (h c (.head _)), spL_free u v fun d hd => h d (.tail _ hd)]
    rfl
theorem spL_star (v : List Nat) : spL (42 :: v) = ([], (spL v).1 :: (spL v).2) := by
  show (if (42 : Nat) = 42 then _ else _) = _
  rw [if_pos rfl]
noncomputable def patGo (lay n : Nat) : Nat → List (Nat × Nat) → List (Nat × Nat)
  | _, [] => []
  | k, p :: ys => if p.1 = 42 then starN lay (k + 1) n ++ patGo lay n (k + 1) ys else p :: patGo lay n k ys
theorem patGo_fold (lay n : Nat) : ∀ (ys : List (Nat × Nat)) (a : List (Nat × Nat)) (k : Nat), (ys.foldl (patStep lay n) (a, k)).1 = a ++ patGo lay n k ys
  | [], a, k => by simp [patGo]
  | p :: ys, a, k => by
    rw [List.foldl_cons]
    unfold patStep patGo
    by_cases h : p.1 = 42
    · rw [if_pos h, if_pos h, ← List.append_assoc]; exact patGo_fold lay n ys _ _
    · rw [if_neg h, if_neg h, show p :: patGo lay n k ys = [p] ++ patGo lay n k ys from rfl, ← List.append_assoc]; exact patGo_fold lay n ys _ _
noncomputable def tailL (n : Nat) : Nat → List (List Nat) → List Nat
  | _, [] => []
  | k, q :: qs => (if 1 < k + 1 then [41] else []) ++ (if k + 1 < n then [40, 63, 62, 46] else [46]) ++ [42] ++ (if k + 1 < n then [63] else []) ++ trOf q ++ tailL n (k + 1) qs
theorem strokes_star : ∀ {ms : List (List Nat)}, (∀ m ∈ ms, (42 : Nat) ∉ m) → ms.foldl (strokeN 42) 0 = 0
  | [], _ => rfl
  | m :: ms, h => by
    rw [List.foldl_cons]
    have : strokeN 42 0 m = 0 := by unfold strokeN; rw [if_neg (h m (.head _))]
    rw [this]
    exact strokes_star fun x hx => h x (.tail _ hx)
theorem writ1_star {ms : List (List Nat)} (h : ∀ m ∈ ms, (42 : Nat) ∉ m) (b : Nat) : writ1 ms (42, b) = [42] := by
  unfold writ1
  have : strokesN 42 (ms.drop b) = 0 := strokes_star fun m hm => h m (List.mem_of_mem_drop hm)
  rw [this]; rfl
theorem writ1_free {ms : List (List Nat)} {p : Nat × Nat} (h : p.1 ≠ 42) : ∀ c ∈ writ1 ms p, c ≠ 42 := by
  intro c hc
  unfold writ1 at hc
  rcases List.mem_append.mp hc with hc | hc
  · rw [List.eq_of_mem_replicate hc]; decide
  · split at hc
    · cases hc
    · rw [List.mem_singleton.mp hc]; exact h
theorem writ_starN {ms : List (List Nat)} {lay : Nat} (hl : ms.length ≤ lay) (k n : Nat) : writN ms (starN lay k n) = (if 1 < k then [41] else []) ++ (if k < n then [40, 63, 62, 46] else [46]) ++ [42] ++ (if k < n then [63] else []) := by
  unfold starN
  rw [writN_append, writN_new hl]
  · congr 1
    split
    · rw [writN_cons, writ1_new hl (by decide)]; rfl
    · rfl
  · intro c hc
    have hh : ∀ c ∈ [41, 40, 63, 62, 46, 42], c ≠ 92 := by decide
    apply hh
    revert hc
    split <;> split <;> simp <;> omega
theorem pat_law0 {ms : List (List Nat)} (hms : ∀ m ∈ ms, (42 : Nat) ∉ m) {n lay : Nat} (hlay : (ms ++ [patM]).length ≤ lay) : ∀ {ys : List (Nat × Nat)} (k : Nat), (∀ p ∈ ys, p.2 ≤ ms.length ∧ p.1 ∈ Rx.sigma) →
    writN (ms ++ [patM]) (patGo lay n k ys) = trOf (spL (writN ms ys)).1 ++ tailL n k (spL (writN ms ys)).2
  | [], k, _ => rfl
  | (c, b) :: ys, k, h => by
    have ih := fun k => pat_law0 hms (n := n) hlay (ys := ys) k fun p hp => h p (.tail _ hp)
    have h0 := h (c, b) (.head _)
    unfold patGo
    dsimp only at h0 ⊢
    by_cases hc : c = 42
    · rw [if_pos hc, hc, writN_cons, writ1_star hms, List.singleton_append, spL_star, writN_append, writ_starN hlay, ih]
      show _ = trOf [] ++ tailL n k (_ :: _)
      rw [tailL]
      simp [trOf]
    · rw [if_neg hc, writN_cons, writN_cons, spL_free _ _ (writ1_free hc), ih, writ1_tr h0.1 hc h0.2]
      dsimp only
      rw [trOf_append, List.append_assoc]
theorem sp_len {ms : List (List Nat)} (hms : ∀ m ∈ ms, (42 : Nat) ∉ m) : ∀ (ys : List (Nat × Nat)), (spL (writN ms ys)).2.length = starsN ys
  | [] => rfl
  | (c, b) :: ys => by
    have ih := sp_len hms ys
    rw [writN_cons]
    by_cases hc : c = 42
    · subst hc
      rw [writ1_star hms, List.singleton_append, spL_star, List.length_cons, ih]
      unfold starsN
      rw [List.filter_cons_of_pos (by rfl), List.length_cons]
    · rw [spL_free _ _ (writ1_free hc)]
      dsimp only
      rw [ih]
      unfold starsN
      rw [List.filter_cons_of_neg (by simpa using hc)]
noncomputable def midL : List (List Nat) → List Nat
  | [] => []
  | [q] => [46, 42] ++ trOf q
  | q :: r :: qs => [40, 63, 62, 46, 42, 63] ++ trOf q ++ [41] ++ midL (r :: qs)
theorem tail_mid {n : Nat} : ∀ {qs : List (List Nat)} {q : List Nat} {k : Nat}, k + 1 + qs.length = n → tailL n k (q :: qs) = (if 1 < k + 1 then [41] else []) ++ midL (q :: qs)
  | [], q, k, h => by
    have h' : ¬ k + 1 < n := by simp at h; omega
    rw [tailL, if_neg h', if_neg h', tailL, midL]
    simp
  | r :: qs, q, k, h => by
    have h' : k + 1 < n := by simp at h; omega
    rw [tailL, if_pos h', if_pos h', tail_mid (qs := qs) (q := r) (k := k + 1) (by simp at h; omega), if_pos (show 1 < k + 1 + 1 by omega), midL]
    simp
end Mine
end
section
open PySem PySem.W PySem.W.X PyProof.Rows PySem.Spec PySem.Calls
set_option Elab.async false
set_option maxRecDepth 100000
namespace Mine
local macro_rules | `(tactic| omega) => `(tactic| lia)
noncomputable abbrev cl (x : Str) : List Nat := x.cps.toList
theorem cl_append (x y : Str) : cl (x ++ y) = cl x ++ cl y := by
  show (x.cps ++ y.cps).toList = _
  rw [Array.toList_append]
theorem star_cl : cl (Str.ofString "*") = [42] := by decide +kernel
theorem sp_join : ∀ (ps : List Str) (p : Str), (∀ q ∈ p :: ps, (42 : Nat) ∉ cl q) → spL (cl (Str.join (Str.ofString "*") (p :: ps))) = (cl p, ps.map cl)
  | [], p, h => by
    have := spL_free (cl p) [] fun c hc e => h p (.head _) (e ▸ hc)
    rw [List.append_nil] at this
    show spL (cl p) = _
    rw [this]; simp [spL]
  | q :: ps, p, h => by
    show spL (cl (p ++ Str.ofString "*" ++ Str.join (Str.ofString "*") (q :: ps))) = _
    rw [cl_append, cl_append, star_cl, List.append_assoc, spL_free _ _ fun c hc e => h p (.head _) (e ▸ hc), List.singleton_append, spL_star, sp_join ps q fun r hr => h r (.tail _ hr)]
    simp
theorem split_sp (x : Str) : ∃ p ps, Txt.split x (Str.ofString "*") = p :: ps ∧ spL (cl x) = (cl p, ps.map cl) := by
  have e : Str.ofString "*" = ⟨#[42]⟩ := by decide +kernel
  have hj := StrLaws.join_split x (Str.ofString "*")
  have hf : ∀ p ∈ Txt.split x (Str.ofString "*"), (42 : Nat) ∉ cl p := by rw [e]; exact StrLaws.split_free x 42
  cases hs : Txt.split x (Str.ofString "*") with
  | nil =>
    have := split_pos x (Str.ofString "*")
    rw [hs] at this
    exact absurd this (by simp)
  | cons p ps =>
    rw [hs] at hj hf
    refine ⟨p, ps, rfl, ?_⟩
    have := sp_join ps p hf
    rw [hj] at this
    exact this
noncomputable def gP (N j : Nat) (y : Str) : Str := if j + 1 = N then Str.ofString ".*" ++ y else if j = 0 then y else wrapS y
theorem tpParts_eq (ys : List Str) : tpParts ys = ys.mapIdx fun j y => gP ys.length j y := by
  unfold tpParts
  apply List.ext_getElem?
  intro j
  rw [List.getElem?_set, List.getElem?_mapIdx]
  have hm : ∀ j, (mixS ys (ys.length - 2))[j]? = (ys[j]?).map fun y => if 1 ≤ j ∧ j ≤ ys.length - 2 then wrapS y else y := by
    intro j; unfold mixS; rw [List.getElem?_mapIdx]
  by_cases hj : ys.length - 1 = j
  · rw [if_pos hj, mixS_length]
    cases hy : ys[j]? with
    | none =>
      have := List.getElem?_eq_none_iff.mp hy
      rw [if_neg (by omega)]; rfl
    | some y =>
      obtain ⟨hl, rfl⟩ := List.getElem?_eq_some_iff.mp hy
      rw [if_pos (by omega), List.getD_eq_getElem?_getD, hm, hj, hy]
      simp only [Option.map_some, Option.getD_some]
      unfold gP
      rw [if_neg (by omega), if_pos (by omega)]
  · rw [if_neg hj, hm]
    cases hy : ys[j]? with
    | none => rfl
    | some y =>
      obtain ⟨hl, rfl⟩ := List.getElem?_eq_some_iff.mp hy
      simp only [Option.map_some, Option.some.injEq]
      unfold gP
      rw [if_neg (show ¬ j + 1 = ys.length by omega)]
      by_cases h0 : j = 0
      · rw [if_pos h0, if_neg (by omega)]
      · rw [if_neg h0, if_pos (by omega)]
theorem join_flat : ∀ l : List Str, cl (Str.join Str.empty l) = l.flatMap cl
  | [] => rfl
  | [y] => by
    show cl y = _
    simp
  | y :: z :: l => by
    show cl (y ++ Str.empty ++ Str.join Str.empty (z :: l)) = _
    rw [cl_append, cl_append, join_flat (z :: l)]
    have : cl Str.empty = [] := rfl
    rw [this, List.append_nil]
    rfl
theorem tr_cl (p : Str) : cl (trS p) = trOf (cl p) := by
  unfold trS
  show (trOf p.cps.toList).toArray.toList = _
  simp
theorem wrap_cl (y : Str) : cl (wrapS y) = [40, 63, 62, 46, 42, 63] ++ cl y ++ [41] := by
  unfold wrapS
  rw [cl_append, cl_append]
  have h1 : cl (Str.ofString "(?>.*?") = [40, 63, 62, 46, 42, 63] := by decide +kernel
  have h2 : cl (Str.ofString ")") = [41] := by decide +kernel
  rw [h1, h2]
theorem ds_cl : cl (Str.ofString ".*") = [46, 42] := by decide +kernel
theorem flat_mid {N : Nat} : ∀ (ps : List Str) (p : Str) (j : Nat), 1 ≤ j → j + (ps.length + 1) = N → (((p :: ps).map trS).mapIdx fun i y => gP N (i + j) y).flatMap cl = midL ((p :: ps).map cl)
  | [], p, j, h1, h2 => by
    simp only [List.map_cons, List.map_nil, List.mapIdx_cons, List.mapIdx_nil, List.flatMap_cons, List.flatMap_nil, List.append_nil]
    unfold gP
    simp only [List.length_nil] at h2
    rw [if_pos (by omega), cl_append, ds_cl, tr_cl]
    rfl
  | q :: ps, p, j, h1, h2 => by
    have ih := flat_mid (N := N) ps q (j + 1) (by omega) (by simp at h2; omega)
    rw [List.map_cons, List.mapIdx_cons, List.flatMap_cons]
    have e : (fun i y => gP N (i + 1 + j) y) = fun i y => gP N (i + (j + 1)) y := by funext i y; rw [show i + 1 + j = i + (j + 1) by omega]
    rw [e, ih]
    show cl (gP N (0 + j) (trS p)) ++ _ = _
    unfold gP
    simp only [List.length_cons] at h2
    rw [if_neg (by omega), if_neg (by omega), wrap_cl, tr_cl]
    show _ = midL (cl p :: cl q :: ps.map cl)
    rw [midL]
    rfl
theorem tp_cl (x : Str) : cl (tpS x) = match spL (cl x) with | (q, []) => [46, 42] ++ trOf q | (q, r :: qs) => trOf q ++ midL (r :: qs) := by
  obtain ⟨p, ps, hs, hsp⟩ := split_sp x
  unfold tpS
  rw [join_flat, tpParts_eq, hs, hsp]
  cases ps with
  | nil =>
    simp only [List.map_cons, List.map_nil, List.mapIdx_cons, List.mapIdx_nil, List.flatMap_cons, List.flatMap_nil, List.append_nil, List.length_cons, List.length_nil]
    unfold gP
    rw [if_pos (by omega), cl_append, ds_cl, tr_cl]
  | cons q ps =>
    have := flat_mid (N := ps.length + 2) ps q 1 (Nat.le_refl _) (by omega)
    have e : ((p :: q :: ps).map trS).length = ps.length + 2 := by simp
    rw [e, List.map_cons, List.mapIdx_cons, List.flatMap_cons, this]
    show cl (gP (ps.length + 2) 0 (trS p)) ++ _ = _
    unfold gP
    rw [if_neg (by omega), if_pos rfl, tr_cl]
    rfl
theorem patGo_free (lay n : Nat) : ∀ (k : Nat) {ys : List (Nat × Nat)}, starsN ys = 0 → patGo lay n k ys = ys
  | _, [], _ => rfl
  | k, p :: ys, h => by
    unfold patGo
    by_cases hc : p.1 = 42
    · unfold starsN at h; rw [List.filter_cons_of_pos (by simpa using hc)] at h; cases h
    · rw [if_neg hc, patGo_free lay n k]
      unfold starsN at h ⊢; rw [List.filter_cons_of_neg (by simpa using hc)] at h; exact h
/-- the pattern's law -/
theorem pat_law {ms : List (List Nat)} {ys : List (Nat × Nat)} {x : Str} (hx : cl x = writN ms ys) (hms : ∀ m ∈ ms, (42 : Nat) ∉ m) (hb : ∀ p ∈ ys, p.2 ≤ ms.length ∧ p.1 ∈ Rx.sigma) :
    cl (tpS x) = writN (ms ++ [patM]) (patN (ms.length + 1) ys) := by
  have hl : (ms ++ [patM]).length ≤ ms.length + 1 := by simp
  have h0 := pat_law0 hms (n := starsN ys) hl (ys := ys) 0 hb
  have hn := sp_len hms ys
  rw [← hx] at h0 hn
  rw [tp_cl]
  unfold patN
  cases hsp : spL (cl x) with
  | mk q qs =>
    rw [hsp] at h0 hn
    dsimp only at h0 hn
    cases qs with
    | nil =>
      rw [if_pos (by simpa using hn.symm)]
      dsimp only
      rw [patGo_free _ _ 0 (by simpa using hn.symm)] at h0
      rw [writN_cons, writN_cons, writ1_new hl (by decide), writ1_new hl (by decide), h0]
      simp [tailL]
    | cons r qs =>
      have h1 : starsN ys ≠ 0 := by rw [← hn]; simp
      rw [if_neg h1, patGo_fold, List.nil_append, h0, tail_mid (by simp at hn; omega)]
      simp
end Mine
end
section
open PySem PySem.W PySem.W.X PyProof.Rows PySem.Spec PySem.Calls
set_option Elab.async false
set_option maxRecDepth 100000
namespace Mine
local macro_rules | `(tactic| omega) => `(tactic| lia)
noncomputable def OkI (i : Nat) (ys : List (Nat × Nat)) : Prop := ∀ p ∈ ys, p.2 ≤ i ∧ p.1 ∈ Rx.sigma
noncomputable def Iz (ys : List (Nat × Nat)) : Prop := (∃ p ∈ ys, p.1 = 122) → ∃ p ∈ ys, p.1 = 32
noncomputable def newSg : List Nat := [41, 40, 63, 62, 46, 42]
theorem mem_starN {lay k n : Nat} {p : Nat × Nat} (h : p ∈ starN lay k n) : p.2 = lay ∧ p.1 ∈ newSg := by
  unfold starN at h
  rcases List.mem_append.mp h with h | h
  · obtain ⟨c, hc, rfl⟩ := List.mem_map.mp h
    refine ⟨rfl, ?_⟩
    revert hc
    unfold newSg
    split <;> split <;> simp <;> omega
  · split at h
    · rw [List.mem_singleton.mp h]; exact ⟨rfl, show 63 ∈ newSg by decide⟩
    · cases h
theorem mem_patGo {lay n : Nat} {p : Nat × Nat} : ∀ {k : Nat} {ys : List (Nat × Nat)}, p ∈ patGo lay n k ys → p ∈ ys ∨ (p.2 = lay ∧ p.1 ∈ newSg)
  | _, [], h => nomatch h
  | k, q :: ys, h => by
    unfold patGo at h
    split at h
    · rcases List.mem_append.mp h with h | h
      · exact .inr (mem_starN h)
      · exact (mem_patGo h).imp (.tail _) id
    · rcases List.mem_cons.mp h with rfl | h
      · exact .inl (.head _)
      · exact (mem_patGo h).imp (.tail _) id
theorem patGo_mem {lay n : Nat} {p : Nat × Nat} (hp : p.1 ≠ 42) : ∀ {k : Nat} {ys : List (Nat × Nat)}, p ∈ ys → p ∈ patGo lay n k ys
  | k, q :: ys, h => by
    unfold patGo
    rcases List.mem_cons.mp h with rfl | h
    · rw [if_neg hp]; exact .head _
    · split
      · exact List.mem_append_right _ (patGo_mem hp h)
      · exact .tail _ (patGo_mem hp h)
theorem mem_patN {lay : Nat} {p : Nat × Nat} {ys : List (Nat × Nat)} (h : p ∈ patN lay ys) : p ∈ ys ∨ (p.2 = lay ∧ p.1 ∈ newSg) := by
  unfold patN at h
  split at h
  · rcases List.mem_cons.mp h with rfl | h
    · exact .inr ⟨rfl, show 46 ∈ newSg by decide⟩
    rcases List.mem_cons.mp h with rfl | h
    · exact .inr ⟨rfl, show 42 ∈ newSg by decide⟩
    · exact .inl h
  · rw [patGo_fold, List.nil_append] at h
    exact mem_patGo h
theorem patN_mem {lay : Nat} {p : Nat × Nat} {ys : List (Nat × Nat)} (hp : p.1 ≠ 42) (h : p ∈ ys) : p ∈ patN lay ys := by
  unfold patN
  split
  · exact .tail _ (.tail _ h)
  · rw [patGo_fold, List.nil_append]; exact patGo_mem hp h
theorem pat_ok {i : Nat} {ys : List (Nat × Nat)} (h : OkI i ys) : OkI (i + 1) (patN (i + 1) ys) := by
  intro p hp
  rcases mem_patN hp with hp | ⟨h1, h2⟩
  · exact ⟨Nat.le_succ_of_le (h p hp).1, (h p hp).2⟩
  · refine ⟨by omega, ?_⟩
    revert h2; generalize p.1 = c; revert c; decide
theorem pat_iz {i : Nat} {ys : List (Nat × Nat)} (h : Iz ys) : Iz (patN i ys) := by
  rintro ⟨p, hp, e⟩
  rcases mem_patN hp with hp | ⟨h1, h2⟩
  · obtain ⟨q, hq, e2⟩ := h ⟨p, hp, e⟩
    exact ⟨q, patN_mem (by rw [e2]; decide) hq, e2⟩
  · rw [e] at h2; exact absurd h2 (by decide)
theorem patGo_len (lay n : Nat) : ∀ (k : Nat) (ys : List (Nat × Nat)), (patGo lay n k ys).length ≤ 7 * ys.length
  | _, [] => Nat.le_refl _
  | k, p :: ys => by
    unfold patGo
    split
    · have := patGo_len lay n (k + 1) ys
      have := starN_len lay (k + 1) n
      rw [List.length_append, List.length_cons]; omega
    · have := patGo_len lay n k ys
      rw [List.length_cons, List.length_cons]; omega
theorem patN_len (lay : Nat) (ys : List (Nat × Nat)) : (patN lay ys).length ≤ 7 * ys.length + 2 := by
  unfold patN
  split
  · simp; omega
  · rw [patGo_fold, List.nil_append]
    have := patGo_len lay (starsN ys) 0 ys
    omega
theorem mem_headN {lay : Nat} {b : Bool} {beh : List Nat} {ys : List (Nat × Nat)} {p : Nat × Nat} (h : p ∈ headN lay b beh ys) : p ∈ ys ∨ (p.2 = lay ∧ (p.1 ∈ [107, 61, 34] ∨ p.1 ∈ beh)) := by
  have hm : ∀ c ∈ markN b, c ∈ [107, 61, 34] := by cases b <;> decide
  unfold headN at h
  rcases List.mem_append.mp h with h | h
  · rcases List.mem_append.mp h with h | h
    · obtain ⟨c, hc, rfl⟩ := List.mem_map.mp h
      refine .inr ⟨rfl, .inl ?_⟩
      rcases List.mem_cons.mp hc with rfl | hc
      · show 107 ∈ [107, 61, 34]; decide
      rcases List.mem_cons.mp hc with rfl | hc
      · show 61 ∈ [107, 61, 34]; decide
      · exact hm c hc
    · exact .inl h
  · obtain ⟨c, hc, rfl⟩ := List.mem_map.mp h
    rcases List.mem_append.mp hc with hc | hc
    · exact .inr ⟨rfl, .inl (hm c hc)⟩
    · exact .inr ⟨rfl, .inr hc⟩
theorem head_ok {i : Nat} {ys : List (Nat × Nat)} {b : Bool} {beh : List Nat} (h : OkI i ys) (hb : ∀ c ∈ beh, c ∈ Rx.sigma) : OkI (i + 1) (headN (i + 1) b beh ys) := by
  intro p hp
  rcases mem_headN hp with hp | ⟨h1, h2 | h2⟩
  · exact ⟨Nat.le_succ_of_le (h p hp).1, (h p hp).2⟩
  · refine ⟨by omega, ?_⟩
    revert h2; generalize p.1 = c; revert c; decide
  · exact ⟨by omega, hb _ h2⟩
theorem head_iz {lay : Nat} {ys : List (Nat × Nat)} {b : Bool} {beh : List Nat} (hb : (32 : Nat) ∈ beh) : Iz (headN lay b beh ys) := fun _ =>
  ⟨(32, lay), by unfold headN; exact List.mem_append_right _ (List.mem_map.mpr ⟨32, List.mem_append_right _ hb, rfl⟩), rfl⟩
theorem headN_len (lay : Nat) (b : Bool) (beh : List Nat) (ys : List (Nat × Nat)) : (headN lay b beh ys).length ≤ ys.length + 4 + beh.length := by
  have : (markN b).length ≤ 1 := by cases b <;> decide
  unfold headN
  rw [List.length_append, List.length_append, List.length_map, List.length_map, List.length_cons, List.length_cons, List.length_append]
  omega
theorem writ_mem {ms : List (List Nat)} {c : Nat} : ∀ {ys : List (Nat × Nat)}, c ∈ writN ms ys → c = 92 ∨ ∃ p ∈ ys, p.1 = c
  | p :: ys, h => by
    rw [writN_cons] at h
    rcases List.mem_append.mp h with h | h
    · unfold writ1 at h
      rcases List.mem_append.mp h with h | h
      · exact .inl (List.eq_of_mem_replicate h)
      · split at h
        · cases h
        · exact .inr ⟨p, .head _, (List.mem_singleton.mp h).symm⟩
    · rcases writ_mem h with h | ⟨q, hq, e⟩
      · exact .inl h
      · exact .inr ⟨q, .tail _ hq, e⟩
theorem mem_writ {ms : List (List Nat)} {p : Nat × Nat} (hp : p.1 ≠ 92) : ∀ {ys : List (Nat × Nat)}, p ∈ ys → p.1 ∈ writN ms ys
  | q :: ys, h => by
    rw [writN_cons]
    rcases List.mem_cons.mp h with rfl | h
    · refine List.mem_append_left _ ?_
      unfold writ1
      rw [if_neg hp]
      exact List.mem_append_right _ (.head _)
    · exact List.mem_append_right _ (mem_writ hp h)
theorem writ_sigma {ms : List (List Nat)} {i : Nat} {ys : List (Nat × Nat)} (h : OkI i ys) : ∀ c ∈ writN ms ys, c ∈ Rx.sigma := by
  intro c hc
  rcases writ_mem hc with rfl | ⟨p, hp, rfl⟩
  · decide
  · exact (h p hp).2
theorem writ_iz {ms : List (List Nat)} {ys : List (Nat × Nat)} (h : Iz ys) : 122 ∈ writN ms ys → 32 ∈ writN ms ys := by
  intro hc
  rcases writ_mem hc with e | ⟨p, hp, e⟩
  · exact absurd e (by decide)
  · obtain ⟨q, hq, e2⟩ := h ⟨p, hp, e⟩
    have := mem_writ (ms := ms) (show q.1 ≠ 92 by rw [e2]; decide) hq
    rwa [e2] at this
noncomputable def lawB (c : Nat) : Bool := [97, 107, 46, 42, 126].contains c
theorem bare_tok : ∀ c ∈ Rx.sigma, c ≠ 122 → lawB c = Rx.tokB c := by decide
theorem bare_law {v : List Nat} (hs : ∀ c ∈ v, c ∈ Rx.sigma) (hz : 122 ∈ v → 32 ∈ v) : (!v.isEmpty && v.all lawB) = bareB v := by
  unfold bareB
  congr 1
  rw [Bool.eq_iff_iff, List.all_eq_true, List.all_eq_true]
  constructor
  · intro h c hc
    by_cases e : c = 122
    · have := h c hc; rw [e] at this; exact absurd this (by decide)
    · rw [← bare_tok c (hs c hc) e]; exact h c hc
  · intro h c hc
    by_cases e : c = 122
    · have := h 32 (hz (e ▸ hc)); exact absurd this (by decide)
    · rw [bare_tok c (hs c hc) e]; exact h c hc
theorem bare_filter {v : List Nat} : ((v.filter fun c => !lawB c).length == 0) = v.all lawB := by
  rw [Bool.eq_iff_iff, beq_iff_eq, List.length_eq_zero_iff, List.filter_eq_nil_iff, List.all_eq_true]
  simp
/-- what stands at the start -/
theorem start_items (tx : List Nat) : writN [] (tx.map fun c => (c, 0)) = tx := by
  induction tx with
  | nil => rfl
  | cons c r ih =>
    rw [List.map_cons, writN_cons, ih]
    have : writ1 [] (c, 0) = [c] := by
      unfold writ1 strokesN
      by_cases h : c = 92
      · subst h; rfl
      · simp [h]
    rw [this]; rfl
noncomputable def bnd : Nat → Nat
  | 0 => 3
  | 1 => 30
  | 2 => 219
  | 3 => 1542
  | _ => 10803
theorem bnd_succ {i : Nat} (h : i < 4) : 7 * bnd i + 9 ≤ bnd (i + 1) := by
  rcases i with _ | _ | _ | _ | i <;> first | decide | omega
theorem bnd_le {i : Nat} (h : i < 4) : bnd i ≤ 1542 := by
  rcases i with _ | _ | _ | _ | i <;> first | decide | omega
theorem bnd_le4 (i : Nat) : bnd i ≤ 10803 := by
  rcases i with _ | _ | _ | _ | i <;> simp [bnd]
end Mine
end
section
open PySem PySem.W PySem.W.X PyProof.Rows PySem.Spec PySem.Calls
set_option Elab.async false
set_option maxRecDepth 100000
namespace Mine
noncomputable def CutL (g : Heap) (L : Addr) (s : Shared) (V : Addr) (f : Flow) (s' : Shared) : Prop :=
  f = .next ∧ ∃ h' tk D ws ms c, s' = { s with heap := h', toks := tk } ∧ Fr g L h' (fun y => if y = Str.ofString "numbers" then some (Value.ref D) else if y = Str.ofString "script" then some (Value.ref V) else none) ∧
    News g L h' [(D, W.listOf (List.toArray ws) c), (101, tabObj #[]), (84, tabObj #[])] ∧ IntsAre ws ms ∧ ws.length ≤ 3 ∧ @LT.lt Nat _ 101 D ∧ @LT.lt Nat _ 84 D
theorem cut_law {M : Model} {A : Around} {t : Sem Flow} {g : Heap} {L V : Addr} {s : Shared} {E : Value → Shared → Prop} {Q : Flow → Shared → Prop} {n : Str}
    (_F : Fr g L s.heap (fun x => List.lookup x [(n, Value.ref V)].reverse)) (h : wpAny M A t (CutL g L s V) E s) (k : ∀ f s', CutL g L s V f s' → Q f s') : wpAny M A t Q E s := wpAny_mono h k fun _ _ e => e
/-- what stands between the law's turns -/
structure LawS (g : Heap) (i : Nat) (tx : Str) (r Y : Addr) (ys : List (Nat × Nat)) (lv : List Value) (ms : List Str) (p1 p2 : Array Value) (tl : List (Addr × Obj)) : Prop where
  items : ItemsH g tl (.ref r) (ys.map encP)
  lays : StrsAre lv ms
  len : ms.length = i
  short : ∀ m ∈ ms, m.length ≤ 10
  nostar : ∀ m ∈ ms, (42 : Nat) ∉ cl m
  text : cl tx = writN (ms.map cl) ys
  ok : OkI i ys
  iz : Iz ys
  ysl : ys.length ≤ bnd i
  txl : tx.cps.size ≤ bnd i
  lam1 : LamH g tl p1 qJ 72 50
  lam2 : LamH g tl p2 qS 41 49
  off : ∀ q ∈ tl, @Ne Nat q.1 Y ∧ @Ne Nat q.1 101 ∧ @Ne Nat q.1 84
noncomputable def lawM (u1 u2 u3 u4 : Option Value) (tx : Str) (tt : Tok) (r Y D V : Addr) (K : Int) (tK : Tok) : Str → Option Value := fun y =>
  if y = Str.ofString "turn" then u1 else if y = Str.ofString "value" then u2 else if y = Str.ofString "lists" then u3 else if y = Str.ofString "bare" then u4 else if y = Str.ofString "text" then some (Value.str tx tt) else if y = Str.ofString "items" then some (Value.ref r) else if y = Str.ofString "layers" then some (Value.ref Y) else if y = Str.ofString "code" then some (Value.int K tK) else if y = Str.ofString "numbers" then some (Value.ref D) else if y = Str.ofString "script" then some (Value.ref V) else none
structure LawJ (g : Heap) (Y D V : Addr) (K : Int) (tK : Tok) (i : Nat) (m : Str → Option Value) (nx : List (Addr × Obj)) : Prop where
  ex : ∃ u1 u2 u3 u4 tx tt r ys lv c ms p1 p2 tl, m = lawM u1 u2 u3 u4 tx tt r Y D V K tK ∧ nx = (Y, W.listOf (List.toArray lv) c) :: (101, tabObj p1) :: (84, tabObj p2) :: tl ∧ LawS g i tx r Y ys lv ms p1 p2 tl
noncomputable def sig8 : List Nat := [97, 46, 42, 34, 92, 32, 59, 126]
noncomputable def signV (v : Value) : Prop := ∃ z t, v = .str z t ∧ z.cps.size ≤ 1 ∧ ∀ c ∈ z.cps.toList, c ∈ sig8
theorem slice9 : ∀ r < 9, (Txt.slice (Str.ofString "a.*\"\\ ;~") (some ((r : Nat) : Int)) (some (((r : Nat) : Int) + 1))).cps.size ≤ 1 ∧ ∀ c ∈ (Txt.slice (Str.ofString "a.*\"\\ ;~") (some ((r : Nat) : Int)) (some (((r : Nat) : Int) + 1))).cps.toList, c ∈ sig8 := by decide +kernel
theorem slice_fmod (k : Int) (t : Tok) : signV (.str (Txt.slice (Str.ofString "a.*\"\\ ;~") (some (k.fmod 9)) (some (k.fmod 9 + 1))) t) := by
  obtain ⟨r, hr⟩ : ∃ r : Nat, k.fmod 9 = r := ⟨(k.fmod 9).toNat, by have := Int.fmod_nonneg_of_pos k (show (0 : Int) < 9 by decide); omega⟩
  have h9 : r < 9 := by have := Int.fmod_lt_of_pos k (show (0 : Int) < 9 by decide); omega
  rw [hr]
  exact ⟨_, _, rfl, slice9 r h9⟩
theorem sum_le1 : ∀ {zs : List Str}, (∀ z ∈ zs, z.cps.size ≤ 1 ∧ ∀ c ∈ z.cps.toList, c ∈ sig8) → (zs.map fun z => z.length).sum ≤ zs.length
  | [], _ => Nat.le_refl _
  | z :: zs, h => by
    have := sum_le1 fun y hy => h y (.tail _ hy)
    have h1 : z.length ≤ 1 := (h z (.head _)).1
    rw [List.map_cons, List.sum_cons, List.length_cons]; omega
theorem join_tx {zs : List Str} (hz : ∀ z ∈ zs, z.cps.size ≤ 1 ∧ ∀ c ∈ z.cps.toList, c ∈ sig8) (hl : zs.length ≤ 3) : ∃ tx : Str, Txt.join (Str.ofString "") zs = tx ∧ tx.cps.size ≤ 3 ∧ ∀ c ∈ tx.cps.toList, c ∈ sig8 := by
  refine ⟨_, rfl, ?_, ?_⟩
  · rw [join_nilS]
    show (Str.join Str.empty zs).length ≤ 3
    rw [len_join]
    exact Nat.le_trans (sum_le1 hz) hl
  · intro c hc
    rw [join_nilS] at hc
    have : c ∈ cl (Str.join Str.empty zs) := hc
    rw [join_flat] at this
    obtain ⟨z, hz1, hz2⟩ := List.mem_flatMap.mp this
    exact (hz z hz1).2 c hz2
theorem start_law {g : Heap} {tx : Str} {r Y : Addr} {tl : List (Addr × Obj)} (h : ItemsH g tl (.ref r) ((tx.cps.toList.map fun c => (c, 0)).map encP)) (hl : tx.cps.size ≤ 3) (hs : ∀ c ∈ tx.cps.toList, c ∈ sig8)
    (off : ∀ q ∈ tl, @Ne Nat q.1 Y ∧ @Ne Nat q.1 101 ∧ @Ne Nat q.1 84) : LawS g 0 tx r Y (tx.cps.toList.map fun c => (c, 0)) [] [] #[] #[] tl where
  items := h
  lays := .nil
  len := rfl
  short := fun _ h => nomatch h
  nostar := fun _ h => nomatch h
  text := (start_items _).symm
  ok := fun p hp => by
    obtain ⟨c, hc, rfl⟩ := List.mem_map.mp hp
    refine ⟨Nat.le_refl _, ?_⟩
    have := hs c hc
    revert this; generalize c = d; revert d; decide
  iz := by
    rintro ⟨p, hp, e⟩
    obtain ⟨c, hc, rfl⟩ := List.mem_map.mp hp
    have := hs c hc
    dsimp only at e
    rw [e] at this; exact absurd this (by decide)
  ysl := by rw [List.length_map, Array.length_toList]; exact hl
  txl := hl
  lam1 := .inl rfl
  lam2 := .inl rfl
  off := off
theorem signs_of {ws : List Value} : ∀ {us : List Value}, All2 (fun _ y => signV y) ws us → ∃ zs, StrsAre us zs ∧ zs.length = ws.length ∧ ∀ z ∈ zs, z.cps.size ≤ 1 ∧ ∀ c ∈ z.cps.toList, c ∈ sig8
  := by
  intro us h
  induction h with
  | nil => exact ⟨[], .nil, rfl, fun _ h => nomatch h⟩
  | cons a r ih =>
    obtain ⟨zs, h1, h2, h3⟩ := ih
    obtain ⟨z, t, rfl, h4⟩ := a
    exact ⟨z :: zs, .cons z t h1, by rw [List.length_cons, List.length_cons, h2], List.forall_mem_cons.mpr ⟨h4, h3⟩⟩
theorem ints_of {ws : List Value} : ∀ {us : List Value}, All2 (fun _ y => ∃ k t, y = Value.int k t) ws us → ∃ ks, IntsAre us ks ∧ ks.length = ws.length := by
  intro us h
  induction h with
  | nil => exact ⟨[], .nil, rfl⟩
  | cons a r ih =>
    obtain ⟨ks, h1, h2⟩ := ih
    obtain ⟨k, t, rfl⟩ := a
    exact ⟨k :: ks, .cons k t h1, by rw [List.length_cons, List.length_cons, h2]⟩
theorem allLt_mem {d : Nat} {l : List (Addr × Obj)} (h : AllLt d l) : ∀ p ∈ l, @LT.lt Nat _ p.1 d := by
  induction l with
  | nil => intro p hp; cases hp
  | cons q r ih =>
    have h1 : @LT.lt Nat _ q.1 d ∧ AllLt d r := h
    intro p hp
    rcases List.mem_cons.mp hp with e | hp
    · rw [e]; exact h1.1
    · exact ih h1.2 p hp
theorem range1_K {prog : Program} {w : World} {A : Around} {E : Value → Shared → Prop} {s : Shared} {h₀ : Heap} {L : Addr} {m : Str → Option Value} {news : List (Addr × Obj)} {n : Int} {t : Tok} {Q : Value → Shared → Prop} (F : Fr h₀ L s.heap m) (N : News h₀ L s.heap news)
    (h : ∀ r h' tk t₁ u v, IsRange h' r 0 n 1 t₁ u v → Fr h₀ L h' m → News h₀ L h' news → Q (.ref r) { s with heap := h', toks := tk }) : wpAny (model prog w) A (call (.type "range") [.int n t]) Q E s :=
  call_range_1 (h _ _ _ _ _ _ (Heap.get?_push_size _ rfl) (F.push _) (N.grown fun _ _ e => Heap.get?_push_of_some _ e))
theorem ints_mem {ws : List Value} {ms : List Int} (H : IntsAre ws ms) {v : Value} (h : v ∈ ws) : ∃ k t, v = .int k t := by
  induction H with
  | nil => cases h
  | cons n t r ih =>
    rcases List.mem_cons.mp h with rfl | h
    · exact ⟨n, t, rfl⟩
    · exact ih h
theorem off_of {h hp : Heap} {r8 b : Addr} {ob ob' : Obj} {tl8 : List (Addr × Obj)} (hcl : ∀ q ∈ tl8, (q.2.cls = .type "tuple" ∧ ∃ vs n, q.2.data = .seq vs n) ∨ Value.ref r8 = Value.ref q.1) (hN : ∀ q ∈ tl8, h.get? q.1 = some q.2) (hb : h.get? b = some ob) (hm : Mut ob) (hpre : hp.get? b = some ob') (hr : hp.get? r8 = none) :
    ∀ q ∈ tl8, @Ne Nat q.1 b := by
  intro q hq e
  rcases hcl q hq with ⟨hc, _⟩ | hc
  · have := hN q hq
    rw [show q.1 = b from e, hb] at this
    cases this; exact hm.1 hc
  · cases hc
    rw [show q.1 = b from e, hpre] at hr; cases hr
theorem mut_list (v : Array Value) (n : Nat) : Mut (W.listOf v n) := ⟨(show Value.type "list" ≠ Value.type "tuple" by decide), fun vs h => by cases h⟩
theorem mut_tab {g : Heap} {tl : List (Addr × Obj)} {ps : Array Value} {q : Str} {ln cl : Int} (h : LamH g tl ps q ln cl) : Mut (tabObj ps) := by
  refine ⟨(show Value.none ≠ Value.type "tuple" by decide), fun vs hv q t e => ?_⟩
  cases hv
  rcases h with rfl | ⟨c', oc, us, u, rfl, _⟩
  · cases e
  · cases e
theorem pat_cl : cl (Str.ofString " ().?~") = patM := by decide +kernel
theorem hd_cl : cl (Str.ofString "\"") = hdM := by decide +kernel
theorem law_next_pat {g : Heap} {i : Nat} {tx : Str} {r r8 Y : Addr} {ys : List (Nat × Nat)} {lv : List Value} {ms : List Str} {p1 p2 : Array Value} {tl tl8 : List (Addr × Obj)} {t : Tok} (S : LawS g i tx r Y ys lv ms p1 p2 tl) (hi : i < 4)
    (hH : ItemsH g tl8 (.ref r8) ((patN (i + 1) ys).map encP)) (ho : ∀ q ∈ tl8, @Ne Nat q.1 Y ∧ @Ne Nat q.1 101 ∧ @Ne Nat q.1 84) :
    LawS g (i + 1) (tpS tx) r8 Y (patN (i + 1) ys) (lv ++ [Value.str (Str.ofString " ().?~") t]) (ms ++ [Str.ofString " ().?~"]) p1 p2 (tl8 ++ tl) where
  items := hH.mono fun _ hq => List.mem_append_left _ hq
  lays := strs_snoc S.lays
  len := by rw [List.length_append, S.len]; rfl
  short := fun m hm => (List.mem_append.mp hm).elim (S.short m) fun hm => by rw [List.mem_singleton.mp hm]; decide +kernel
  nostar := fun m hm => (List.mem_append.mp hm).elim (S.nostar m) fun hm => by rw [List.mem_singleton.mp hm, pat_cl]; decide
  text := by
    have := pat_law (x := tx) (ms := ms.map cl) (ys := ys) S.text (fun m hm => by obtain ⟨x, hx, rfl⟩ := List.mem_map.mp hm; exact S.nostar x hx) (fun p hp => by rw [List.length_map, S.len]; exact S.ok p hp)
    rw [this, List.map_append, List.length_map, S.len, List.map_cons, List.map_nil, pat_cl]
  ok := pat_ok S.ok
  iz := pat_iz S.iz
  ysl := by have := patN_len (i + 1) ys; have := bnd_succ hi; have := S.ysl; omega
  txl := by have h1 := tpS_len tx; have := bnd_succ hi; have h2 := S.txl; show (tpS tx).length ≤ _; have h3 : tx.length ≤ bnd i := h2; omega
  lam1 := S.lam1.mono fun _ hq => List.mem_append_right _ hq
  lam2 := S.lam2.mono fun _ hq => List.mem_append_right _ hq
  off := fun q hq => (List.mem_append.mp hq).elim (ho q) (S.off q)
theorem sigma_of {g : Heap} {i : Nat} {tx : Str} {r Y : Addr} {ys : List (Nat × Nat)} {lv : List Value} {ms : List Str} {p1 p2 : Array Value} {tl : List (Addr × Obj)} (S : LawS g i tx r Y ys lv ms p1 p2 tl) : ∀ c ∈ tx.cps.toList, c ∈ Rx.sigma := by
  have := writ_sigma (ms := ms.map cl) S.ok
  rwa [← S.text] at this
theorem ite_two {c : Prop} [Decidable c] {P Q : Prop} (h1 : P) (h2 : Q) : if c then P else Q := by
  split
  · exact h1
  · exact h2
theorem cut_turn {M : Model} {A : Around} {t : Sem Flow} {g : Heap} {L I Y D V : Addr} {K : Int} {tK : Tok} {i : Nat} {it : Obj} {s : Shared} {E : Value → Shared → Prop} {Q : Flow → Shared → Prop} {m m' : Str → Option Value} {nx : List (Addr × Obj)}
    (_F : Fr g L s.heap m) (_N : News g L s.heap ((I, it) :: nx)) (_hJ : LawJ g Y D V K tK i m' nx) (h : wpAny M A t (TurnEnd g L I it (LawJ g Y D V K tK (i + 1)) s) E s) (k : ∀ s', TurnEnd g L I it (LawJ g Y D V K tK (i + 1)) s .next s' → Q .next s') : wpAny M A t Q E s :=
  wpAny_mono h (fun f s' x => by obtain ⟨rfl, r⟩ := id x; exact k s' x) fun _ _ e => e
theorem iter_law {prog : Program} {w : World} {A : Around} {E : Value → Shared → Prop} {s : Shared} {env : Env} {g : Heap} {x : Str} {body : List Stmt} {Q : Flow → Shared → Prop} {r Y D D3 V : Addr} {K : Int} {tK tt : Tok} {tx : Str} {b₀ : Int} {t₀ u₀ v₀ : Tok} {n : Nat} {news : List (Addr × Obj)}
    (hh : A.handled = none) (hr : IsRange s.heap r 0 b₀ 1 t₀ u₀ v₀) (hsmall : Builtin.Range.small 0 b₀ 1 = true) (hn : Builtin.Range.rangeSize 0 b₀ 1 = (n : Int))
    (F : Fr g env.locals s.heap (fun y => if y = Str.ofString "layers" then some (Value.ref Y) else if y = Str.ofString "items" then some (Value.ref D3) else if y = Str.ofString "code" then some (Value.int K tK) else if y = Str.ofString "text" then some (Value.str tx tt) else if y = Str.ofString "numbers" then some (Value.ref D) else if y = Str.ofString "script" then some (Value.ref V) else none))
    (N : News g env.locals s.heap news)
    (hj : LawJ g Y D V K tK 0 (fun y => if y = Str.ofString "layers" then some (Value.ref Y) else if y = Str.ofString "items" then some (Value.ref D3) else if y = Str.ofString "code" then some (Value.int K tK) else if y = Str.ofString "text" then some (Value.str tx tt) else if y = Str.ofString "numbers" then some (Value.ref D) else if y = Str.ofString "script" then some (Value.ref V) else none) news)
    (turn : ∀ i t m₁ nx h tk I it, Mut it → i < n → (∀ p ∈ nx, @Ne Nat p.1 I) → LawJ g Y D V K tK i m₁ nx → Fr g env.locals h (fun y => if y = x then some (.int (0 + (i : Nat)) t) else m₁ y) → News g env.locals h ((I, it) :: nx) →
      wpAny (model prog w) A (execs body env) (fun f s' => match f with | .ret v => Q (.ret v) s' | f => TurnEnd g env.locals I it (LawJ g Y D V K tK (i + 1)) { s with heap := h, toks := tk } f s') E { s with heap := h, toks := tk })
    (done : ∀ m₁ nx h tk, LawJ g Y D V K tK n m₁ nx → Fr g env.locals h m₁ → News g env.locals h nx → Q .next { s with heap := h, toks := tk }) :
    wpAny (model prog w) A (pyIter (.ref r)) (fun it s₂ => LoopAtV prog w A g env x body Q E it s₂) E s := iterV_range (LawJ g Y D V K tK) hh hr hsmall hn F N hj turn done
end Mine
end
section
open PySem PySem.W PySem.W.X PyProof.Rows PySem.Spec PySem.Calls
set_option Elab.async false
set_option maxRecDepth 100000
namespace Mine
theorem law_next_head {g : Heap} {i x : Nat} {tx : Str} {r r8 Y : Addr} {ys : List (Nat × Nat)} {lv : List Value} {ms : List Str} {p1 p2 p1' p2' : Array Value} {tl tl' : List (Addr × Obj)} {t : Tok} (S : LawS g i tx r Y ys lv ms p1 p2 tl) (hi : i < 4) (hx : x = 59 ∨ x = 44)
    (hH : ItemsH g tl' (.ref r8) ((headN (i + 1) (bareB (cl tx)) [x, 32, 122] ys).map encP)) (h1 : LamH g tl' p1' qJ 72 50) (h2 : LamH g tl' p2' qS 41 49) (ho : ∀ q ∈ tl', @Ne Nat q.1 Y ∧ @Ne Nat q.1 101 ∧ @Ne Nat q.1 84) :
    LawS g (i + 1) ⟨(hdVal (cl tx) ++ [x, 32, 122]).toArray⟩ r8 Y (headN (i + 1) (bareB (cl tx)) [x, 32, 122] ys) (lv ++ [Value.str (Str.ofString "\"") t]) (ms ++ [Str.ofString "\""]) p1' p2' tl' where
  items := hH
  lays := strs_snoc S.lays
  len := by rw [List.length_append, S.len]; rfl
  short := fun m hm => (List.mem_append.mp hm).elim (S.short m) fun hm => by rw [List.mem_singleton.mp hm]; decide +kernel
  nostar := fun m hm => (List.mem_append.mp hm).elim (S.nostar m) fun hm => by rw [List.mem_singleton.mp hm, hd_cl]; decide
  text := by
    have := head_law (ms := ms.map cl) (ys := ys) (v := cl tx) S.text (fun p hp => by rw [List.length_map, S.len]; exact (S.ok p hp).1) [x, 32, 122] (by rcases hx with rfl | rfl <;> decide)
    rw [List.length_map, S.len] at this
    rw [List.map_append, List.map_cons, List.map_nil, hd_cl, ← this]
  ok := head_ok S.ok (by rcases hx with rfl | rfl <;> decide)
  iz := head_iz (.tail _ (.head _))
  ysl := by have := headN_len (i + 1) (bareB (cl tx)) [x, 32, 122] ys; have := bnd_succ hi; have := S.ysl; have e : [x, 32, 122].length = 3 := rfl; omega
  txl := by
    have h1 := hdVal_len (cl tx)
    have := bnd_succ hi
    have h2 : (cl tx).length ≤ bnd i := S.txl
    show (hdVal (cl tx) ++ [x, 32, 122]).toArray.size ≤ _
    simp only [List.size_toArray, List.length_append, List.length_cons, List.length_nil]
    omega
  lam1 := h1
  lam2 := h2
  off := ho
theorem iz_of {g : Heap} {i : Nat} {tx : Str} {r Y : Addr} {ys : List (Nat × Nat)} {lv : List Value} {ms : List Str} {p1 p2 : Array Value} {tl : List (Addr × Obj)} (S : LawS g i tx r Y ys lv ms p1 p2 tl) : 122 ∈ cl tx → 32 ∈ cl tx := by
  have := writ_iz (ms := ms.map cl) S.iz
  rwa [← S.text] at this
theorem sigma_ok : ∀ c ∈ Rx.sigma, (c < 0x110000) := by decide
theorem sigma_str {x : Str} (h : ∀ c ∈ x.cps.toList, c ∈ Rx.sigma) : PyData.strOk x = true := by
  show x.cps.all (· < 0x110000) = true
  rw [← Array.all_toList, List.all_eq_true]
  intro c hc
  exact decide_eq_true (sigma_ok c (h c hc))
noncomputable abbrev datK (v : Str) : PyData := .tuple [.str (Str.ofString "k"), .str v]
noncomputable abbrev datZ : PyData := .tuple [.str (Str.ofString "z"), .none]
theorem k_ok : PyData.strOk (Str.ofString "k") = true := by decide +kernel
theorem z_ok : PyData.strOk (Str.ofString "z") = true := by decide +kernel
theorem shapedE {v : Str} (h : PyData.strOk v = true) : SeqAt.shaped (.list [.list [datK v, datZ]]) = true := by
  simp [SeqAt.shaped, PyData.canLay0, PyData.canLayAll0, PyData.depth, PyData.depthAll, h, k_ok, z_ok]
theorem shapedO {v : Str} (h : PyData.strOk v = true) : SeqAt.shaped (.list [.list [datK v], .list [datZ]]) = true := by
  simp [SeqAt.shaped, PyData.canLay0, PyData.canLayAll0, PyData.depth, PyData.depthAll, h, k_ok, z_ok]
theorem eqvE (v : Str) : PyData.eqv (.list [.list [datK v, datZ]]) (.list [.list [datK v, datZ]]) = true := by simp [PyData.eqv, PyData.eqvAll]
theorem eqvO (v : Str) : PyData.eqv (.list [.list [datK v], .list [datZ]]) (.list [.list [datK v], .list [datZ]]) = true := by simp [PyData.eqv, PyData.eqvAll]
theorem readsK {h : Heap} {q : Addr} {v : Str} {u1 u2 : Tok} (e : h.get? q = some (tupT [.str (Str.ofString "k") u1, .str v u2])) : Reads h (.ref q) (datK v) [] := reads_tuple_at e rfl rfl (.cons (.str _ _) (.cons (.str _ _) .nil))
theorem readsZ {h : Heap} {q : Addr} {u : Tok} (e : h.get? q = some (tupT [.str (Str.ofString "z") u, .none])) : Reads h (.ref q) datZ [] := reads_tuple_at e rfl rfl (.cons (.str _ _) (.cons .none .nil))
theorem readsE {h : Heap} {r p q1 q2 : Addr} {c1 c2 : Nat} {v : Str} {u1 u2 u3 : Tok} (e1 : h.get? r = some (listC [.ref p] c1)) (e2 : h.get? p = some (listC [.ref q1, .ref q2] c2)) (e3 : h.get? q1 = some (tupT [.str (Str.ofString "k") u1, .str v u2])) (e4 : h.get? q2 = some (tupT [.str (Str.ofString "z") u3, .none])) :
    ∃ as, Reads h (.ref r) (.list [.list [datK v, datZ]]) as := ⟨_, reads_list_at e1 rfl rfl (.cons (reads_list_at e2 rfl rfl (.cons (readsK e3) (.cons (readsZ e4) .nil))) .nil)⟩
theorem readsO {h : Heap} {r p p2 q1 q2 : Addr} {c1 c2 c3 : Nat} {v : Str} {u1 u2 u3 : Tok} (e1 : h.get? r = some (listC [.ref p, .ref p2] c1)) (e2 : h.get? p = some (listC [.ref q1] c2)) (e5 : h.get? p2 = some (listC [.ref q2] c3)) (e3 : h.get? q1 = some (tupT [.str (Str.ofString "k") u1, .str v u2])) (e4 : h.get? q2 = some (tupT [.str (Str.ofString "z") u3, .none])) :
    ∃ as, Reads h (.ref r) (.list [.list [datK v], .list [datZ]]) as := ⟨_, reads_list_at e1 rfl rfl (.cons (reads_list_at e2 rfl rfl (.cons (readsK e3) .nil)) (.cons (reads_list_at e5 rfl rfl (.cons (readsZ e4) .nil)) .nil))⟩
section
variable {prog : Program} {w : World} {A : Around} {E : Value → Shared → Prop} {s : Shared} {Q : Value → Shared → Prop}
theorem neE {r p q1 q2 r' p' q1' q2' : Addr} {c1 c2 c1' c2' : Nat} {v : Str} {u1 u2 u3 u1' u2' u3' : Tok} (e1 : s.heap.get? r = some (listC [.ref p] c1)) (e2 : s.heap.get? p = some (listC [.ref q1, .ref q2] c2)) (e3 : s.heap.get? q1 = some (tupT [.str (Str.ofString "k") u1, .str v u2])) (e4 : s.heap.get? q2 = some (tupT [.str (Str.ofString "z") u3, .none]))
    (f1 : s.heap.get? r' = some (listC [.ref p'] c1')) (f2 : s.heap.get? p' = some (listC [.ref q1', .ref q2'] c2')) (f3 : s.heap.get? q1' = some (tupT [.str (Str.ofString "k") u1', .str v u2'])) (f4 : s.heap.get? q2' = some (tupT [.str (Str.ofString "z") u3', .none]))
    (hv : ∀ c ∈ v.cps.toList, c ∈ Rx.sigma) (hu : A.units + 64 < cLine) (h : Q (.bool false) s) : wpAny (model prog w) A (compareOp .NotEq (.ref r) (.ref r')) Q E s :=
  let ⟨_, h1⟩ := readsE e1 e2 e3 e4; let ⟨_, h2⟩ := readsE f1 f2 f3 f4; ne_dataH h1 h2 (shapedE (sigma_str hv)) (shapedE (sigma_str hv)) hu (by rw [eqvE]; exact h)
theorem neO {r p p2 q1 q2 r' p' p2' q1' q2' : Addr} {c1 c2 c3 c1' c2' c3' : Nat} {v : Str} {u1 u2 u3 u1' u2' u3' : Tok} (e1 : s.heap.get? r = some (listC [.ref p, .ref p2] c1)) (e2 : s.heap.get? p = some (listC [.ref q1] c2)) (e5 : s.heap.get? p2 = some (listC [.ref q2] c3)) (e3 : s.heap.get? q1 = some (tupT [.str (Str.ofString "k") u1, .str v u2])) (e4 : s.heap.get? q2 = some (tupT [.str (Str.ofString "z") u3, .none]))
    (f1 : s.heap.get? r' = some (listC [.ref p', .ref p2'] c1')) (f2 : s.heap.get? p' = some (listC [.ref q1'] c2')) (f5 : s.heap.get? p2' = some (listC [.ref q2'] c3')) (f3 : s.heap.get? q1' = some (tupT [.str (Str.ofString "k") u1', .str v u2'])) (f4 : s.heap.get? q2' = some (tupT [.str (Str.ofString "z") u3', .none]))
    (hv : ∀ c ∈ v.cps.toList, c ∈ Rx.sigma) (hu : A.units + 64 < cLine) (h : Q (.bool false) s) : wpAny (model prog w) A (compareOp .NotEq (.ref r) (.ref r')) Q E s :=
  let ⟨_, h1⟩ := readsO e1 e2 e5 e3 e4; let ⟨_, h2⟩ := readsO f1 f2 f5 f3 f4; ne_dataH h1 h2 (shapedO (sigma_str hv)) (shapedO (sigma_str hv)) hu (by rw [eqvO]; exact h)
end
theorem bare_val {v : Str} {us : List Value} (hs : ∀ c ∈ v.cps.toList, c ∈ Rx.sigma) (hz : 122 ∈ cl v → 32 ∈ cl v) (hne : cl v ≠ []) (hl : us.length = (v.cps.toList.filter fun c => !lawB c).length) : us.isEmpty = bareB (cl v) := by
  rw [← bare_law hs hz]
  have e : (cl v).isEmpty = false := by
    cases h : cl v with
    | nil => exact absurd h hne
    | cons a r => rfl
  rw [e, ← bare_filter (v := cl v), ← hl]
  cases us <;> rfl
theorem bare_nil {v : Str} (h : cl v = []) : false = bareB (cl v) := by rw [h]; rfl
noncomputable def lawBody : List Stmt := match PySem.Challenge.pw_re0054_01.main.body.getLast? with
  | some (.FunctionDef _ _ b _ _ _ _ _ _ _) => b
  | _ => []
noncomputable def lawScope : Scope := match PySem.Challenge.pw_re0054_01.main.body.getLast? with
  | some (.FunctionDef _ _ _ _ _ _ sc _ _ _) => sc
  | _ => { kind := .function, names := [], isGenerator := false, isCoroutine := false, more := [] }
noncomputable def forBody : List Stmt → List Stmt
  | .For _ _ b _ _ :: _ => b
  | _ :: r => forBody r
  | [] => []
noncomputable def turnBody : List Stmt := forBody lawBody
noncomputable def ifThen : List Stmt → List Stmt
  | .If _ b _ _ :: _ => b
  | _ :: r => ifThen r
  | [] => []
noncomputable def ifElse : List Stmt → List Stmt
  | .If _ _ b _ :: _ => b
  | _ :: r => ifElse r
  | [] => []
noncomputable def ifRest : List Stmt → List Stmt
  | .If _ _ _ _ :: r => r
  | _ :: r => ifRest r
  | [] => []
end Mine
end
section
open PySem PySem.W PySem.W.X PyProof.Rows PySem.Spec PySem.Calls
set_option Elab.async false
set_option maxRecDepth 100000
set_option maxHeartbeats 0
namespace Mine
local macro_rules | `(tactic| walk_at "pad") => `(tactic| skip)
theorem off_Lp5 : True := by
  w_top off
  trivial
local macro_rules | `(tactic| walk_at "call ref") => `(tactic| with_reducible refine hold_in ?_)
local macro_rules | `(tactic| walk_at "call builtin:list.append") => `(tactic| with_reducible refine hold_in ?_)
local macro_rules | `(tactic| walk_at "execs cons") => `(tactic| with_reducible refine wpAny_execs_cons ?_)
theorem lawM_end (n v u1 u2 u3 u4 : Option Value) (tx tx' : Str) (tt tt' : Tok) (r r' Y D V : Addr) (K : Int) (tK : Tok) :
    (fun y => if y = Str.ofString "items" then some (Value.ref r') else if y = Str.ofString "text" then some (Value.str tx' tt') else if y = Str.ofString "value" then v else if y = Str.ofString "turn" then n else lawM u1 u2 u3 u4 tx tt r Y D V K tK y) = lawM n v u3 u4 tx' tt' r' Y D V K tK := by
  funext z
  unfold lawM
  by_cases e1 : z = Str.ofString "items"
  · subst e1; rfl
  by_cases e2 : z = Str.ofString "text"
  · subst e2; rfl
  by_cases e3 : z = Str.ofString "value"
  · subst e3; rfl
  by_cases e4 : z = Str.ofString "turn"
  · subst e4; rfl
  simp only [if_neg e1, if_neg e2, if_neg e3, if_neg e4]
theorem pat_walk {w : World} {dp un : Nat} {fr : Option (List Env)} {gd : Option (List Code)} {s : Shared} {g : Heap} {L I Y D V r fa : Addr} {cd : Value} {it : Obj} {K : Int} {tK tt t : Tok} {i c : Nat} {tx : Str} {ys : List (Nat × Nat)} {lv : List Value} {ms : List Str} {p1 p2 : Array Value} {tl : List (Addr × Obj)} {u1 u2 u3 u4 : Option Value} {loose mean mg mb} {E : Value → Shared → Prop}
    (X : (Mine.hd.heap_1 w.params).In g) (T : Top topProg loose mean mg mb g) (hd : dp < 500) (hu : un < 100) (hi : i < 4) (S : LawS g i tx r Y ys lv ms p1 p2 tl) (hit : Mut it)
    (ho : ∀ p ∈ (Y, W.listOf (List.toArray lv) c) :: (101, tabObj p1) :: (84, tabObj p2) :: tl, @Ne Nat p.1 I)
    (F : Fr g L s.heap (fun y => if y = Str.ofString "value" then some (Value.str tx tt) else if y = Str.ofString "turn" then some (Value.int (0 + (i : Int)) t) else lawM u1 u2 u3 u4 tx tt r Y D V K tK y))
    (N : News g L s.heap ((I, it) :: (Y, W.listOf (List.toArray lv) c) :: (101, tabObj p1) :: (84, tabObj p2) :: tl)) :
    wpAny (model PySem.Challenge.rw_re0054_01.row.prog w) (AA dp un fr gd) (execs (ifThen turnBody) (envOf "law" lawScope L fa cd)) (TurnEnd g L I it (LawJ g Y D V K tK (i + 1)) s) E s := by
  revert X; k_fill; intro X
  have e : ifThen turnBody = ifThen turnBody := rfl
  conv at e => rhs; whnf
  rw [e]; clear e
  have e : lawScope = lawScope := rfl
  conv at e => rhs; whnf
  rw [e]; clear e
  unfold lawM at F
  k_unmd
  k_fold
  have hxl : tx.length ≤ 1542 := Nat.le_trans S.txl (bnd_le hi)
  k_steps
  unfold Hold
  refine spec_tp (X.keeps F.keep) (T.keeps F.keep) ?pd ?pu (Nat.le_trans hxl (by decide)) (sigma_of S) ?_
  case pd => show dp < 800; omega
  case pu => show un < 500; omega
  intro h7 tk7 u7 g7
  replace F := Fr.keeps F g7
  replace N := News.grown N g7
  have htp : (tpS tx).length ≤ 20000 := by have := tpS_len tx; omega
  k_steps
  unfold Hold
  have F7 := (by assumption : Fr _ _ _ _)
  have N7 := (by assumption : News _ _ _ _)
  obtain ⟨a, vs, ea, hl, hiv⟩ := S.items.at F7 (fun q hq => (N7 q (.tail _ (.tail _ (.tail _ (.tail _ hq))))).1)
  cases ea
  rw [show (0 + (i : Int)) + 1 = ((i + 1 : Nat) : Int) by omega]
  refine spec_pattern (X.keeps F7.keep) (T.keeps F7.keep) ?qd ?qu hl hiv (Nat.le_trans S.ysl (Nat.le_trans (bnd_le hi) (by decide))) ?_
  case qd => show dp < 800; omega
  case qu => show un < 500; omega
  intro h8 tk8 r8 g8 hit8 hr8
  have N7' := N7
  replace F7 := Fr.keeps F7 g8
  replace N7 := News.grown N7 g8
  obtain ⟨tl8, Ntl, hH, hcl⟩ := collect F7 hit8
  replace N7 : News g L h8 ((I, it) :: (Y, W.listOf (List.toArray lv) c) :: (101, tabObj p1) :: (84, tabObj p2) :: (tl8 ++ tl)) := all_cons (N7 _ (.head _)) (all_cons (N7 _ (by k_mem)) (all_cons (N7 _ (by k_mem)) (all_cons (N7 _ (by k_mem)) fun q hq => (List.mem_append.mp hq).elim (Ntl q) fun hq => N7 q (.tail _ (.tail _ (.tail _ (.tail _ hq)))))))
  have hoff : ∀ b ob, Mut ob → (b, ob) ∈ (I, it) :: (Y, W.listOf (List.toArray lv) c) :: (101, tabObj p1) :: (84, tabObj p2) :: tl → ∀ q ∈ tl8, @Ne Nat q.1 b := fun b ob hm hb => off_of hcl (fun q hq => (Ntl q hq).1) (g8 _ _ (N7' (b, ob) hb).1) hm (N7' (b, ob) hb).1 hr8
  clear Ntl
  k_steps
  unfold Hold
  have F9 := (by assumption : Fr _ _ _ _)
  have N9 := (by assumption : News _ _ _ _)
  have hYt : ∀ b p, (b, tabObj p) ∈ (101, tabObj p1) :: (84, tabObj p2) :: (tl8 ++ tl) → @Ne Nat b Y := fun b p hb e => by
    have h1 := (N9 (b, tabObj p) (.tail _ (.tail _ hb))).1
    have h2 := (N9 (Y, W.listOf (List.toArray lv) c) (.tail _ (.head _))).1
    rw [show b = Y from e] at h1
    dsimp only at h1 h2
    rw [h1] at h2
    cases h2
  refine append_K F9 N9 (Upd.tail (Ne.symm (ho (Y, _) (.head _))) (Upd.head ?ud)) ?_ ?sz
  case ud => exact all_cons (hYt _ p1 (.head _)) (all_cons (hYt _ p2 (.tail _ (.head _))) fun q hq => (List.mem_append.mp hq).elim (hoff Y _ (mut_list _ _) (.tail _ (.head _)) q) fun hq => (S.off q hq).1)
  case sz => have := S.lays.length; have := S.len; rw [sizeLine_eq]; simp; omega
  intro h' F' N'
  clear F9 N9
  k_steps
  refine ⟨rfl, h', _, _, (Y, W.listOf (List.toArray (lv ++ [Value.str (Str.ofString " ().?~") (tk8 + 1)])) (c + 1)) :: (101, tabObj p1) :: (84, tabObj p2) :: (tl8 ++ tl), rfl, Fr.cast F' (lawM_end _ _ _ _ _ _ _ _ _ _ _ _ _ _ _ _ _), ?nw, ?ne, ⟨⟨_, _, _, _, _, _, _, _, _, _, _, p1, p2, tl8 ++ tl, rfl, rfl, law_next_pat S hi hH ?of⟩⟩⟩
  case nw => rw [← List.push_toArray]; exact N'
  case ne => exact all_cons (ho (Y, W.listOf (List.toArray lv) c) (.head _)) (all_cons (ho _ (.tail _ (.head _))) (all_cons (ho _ (.tail _ (.tail _ (.head _)))) fun q hq => (List.mem_append.mp hq).elim (hoff I it hit (.head _) q) fun hq => ho q (.tail _ (.tail _ (.tail _ hq)))))
  case of => exact fun q hq => ⟨hoff Y _ (mut_list _ _) (.tail _ (.head _)) q hq, hoff 101 _ (mut_tab S.lam1) (.tail _ (.tail _ (.head _))) q hq, hoff 84 _ (mut_tab S.lam2) (.tail _ (.tail _ (.tail _ (.head _)))) q hq⟩
end Mine
end
section
open PySem PySem.W PySem.W.X PyProof.Rows PySem.Spec PySem.Calls
set_option Elab.async false
set_option maxRecDepth 100000
namespace Mine
theorem LawS.lamJ {g : Heap} {i : Nat} {tx : Str} {r Y : Addr} {ys : List (Nat × Nat)} {lv : List Value} {ms : List Str} {p1 p2 ps : Array Value} {tl tl1 : List (Addr × Obj)} (S : LawS g i tx r Y ys lv ms p1 p2 tl) (h : LamH g tl1 ps qJ 72 50)
    (ho : ∀ q ∈ tl1, @Ne Nat q.1 Y ∧ @Ne Nat q.1 101 ∧ @Ne Nat q.1 84) : LawS g i tx r Y ys lv ms ps p2 (tl1 ++ tl) where
  items := S.items.mono fun _ hq => List.mem_append_right _ hq
  lays := S.lays
  len := S.len
  short := S.short
  nostar := S.nostar
  text := S.text
  ok := S.ok
  iz := S.iz
  ysl := S.ysl
  txl := S.txl
  lam1 := h.mono fun _ hq => List.mem_append_left _ hq
  lam2 := S.lam2.mono fun _ hq => List.mem_append_right _ hq
  off := fun q hq => (List.mem_append.mp hq).elim (ho q) (S.off q)
theorem LawS.lamS {g : Heap} {i : Nat} {tx : Str} {r Y : Addr} {ys : List (Nat × Nat)} {lv : List Value} {ms : List Str} {p1 p2 ps : Array Value} {tl tl1 : List (Addr × Obj)} (S : LawS g i tx r Y ys lv ms p1 p2 tl) (h : LamH g tl1 ps qS 41 49)
    (ho : ∀ q ∈ tl1, @Ne Nat q.1 Y ∧ @Ne Nat q.1 101 ∧ @Ne Nat q.1 84) : LawS g i tx r Y ys lv ms p1 ps (tl1 ++ tl) where
  items := S.items.mono fun _ hq => List.mem_append_right _ hq
  lays := S.lays
  len := S.len
  short := S.short
  nostar := S.nostar
  text := S.text
  ok := S.ok
  iz := S.iz
  ysl := S.ysl
  txl := S.txl
  lam1 := S.lam1.mono fun _ hq => List.mem_append_right _ hq
  lam2 := h.mono fun _ hq => List.mem_append_left _ hq
  off := fun q hq => (List.mem_append.mp hq).elim (ho q) (S.off q)
theorem lam_off {h : Heap} {q : Str} {tl1 : List (Addr × Obj)} {b : Addr} {ob : Obj} (hq : ∀ p ∈ tl1, ∃ vs, p.2.data = .fields vs ∧ ∃ t, vs[1]? = some (.str q t)) (N : ∀ p ∈ tl1, h.get? p.1 = some p.2) (hb : h.get? b = some ob) (hm : Mut ob) : ∀ p ∈ tl1, @Ne Nat p.1 b := by
  intro p hp e
  obtain ⟨vs, hd, t, ht⟩ := hq p hp
  have := N p hp
  rw [show p.1 = b from e, hb] at this
  cases this
  exact hm.2 vs hd _ _ ht
theorem tab_ne {g h : Heap} {L Y b : Addr} {v : Array Value} {c : Nat} {p : Array Value} {nx : List (Addr × Obj)} (N : News g L h nx) (h1 : (Y, W.listOf v c) ∈ nx) (h2 : (b, tabObj p) ∈ nx) : @Ne Nat b Y := fun e => by
  have h1 := (N _ h1).1
  have h2 := (N _ h2).1
  rw [show b = Y from e] at h2
  dsimp only at h1 h2
  rw [h1] at h2
  cases h2
noncomputable abbrev ledger (I Y : Addr) (it : Obj) (lv : List Value) (c : Nat) (p1 p2 : Array Value) (tl : List (Addr × Obj)) : List (Addr × Obj) := (I, it) :: (Y, W.listOf (List.toArray lv) c) :: (101, tabObj p1) :: (84, tabObj p2) :: tl
theorem after_join {g h h' : Heap} {L I Y r : Addr} {m : Str → Option Value} {it : Obj} {i c : Nat} {tx : Str} {ys : List (Nat × Nat)} {lv : List Value} {ms : List Str} {p1 p2 ps : Array Value} {tl own tabs tabs' : List (Addr × Obj)}
    (F : Fr g L h m) (N : News g L h (own ++ ledger I Y it lv c p1 p2 tl)) (hown : ∀ q ∈ own, AllLt q.1 (ledger I Y it lv c p1 p2 tl)) (S : LawS g i tx r Y ys lv ms p1 p2 tl) (hit : Mut it)
    (ho : ∀ p ∈ (Y, W.listOf (List.toArray lv) c) :: (101, tabObj p1) :: (84, tabObj p2) :: tl, @Ne Nat p.1 I)
    (ht : tabs = own ++ [(101, tabObj p1)]) (ht' : tabs' = own ++ [(101, tabObj ps)])
    (G : Grow (hideAll h (tabs.map (·.1))) h') (hT : ∀ p ∈ tabs', h'.get? p.1 = some p.2) (hl : lamPos ps qJ h' 72 50) :
    Fr g L h' m ∧ ∃ tl1, News g L h' (own ++ ledger I Y it lv c ps p2 (tl1 ++ tl)) ∧ LawS g i tx r Y ys lv ms ps p2 (tl1 ++ tl) ∧ (∀ p ∈ (Y, W.listOf (List.toArray lv) c) :: (101, tabObj ps) :: (84, tabObj p2) :: (tl1 ++ tl), @Ne Nat p.1 I) := by
  subst ht ht'
  have hm1 : ∀ {x : Addr × Obj}, x ∈ ledger I Y it lv c p1 p2 tl → x ∈ own ++ ledger I Y it lv c p1 p2 tl := fun hx => List.mem_append_right _ hx
  have y1 : @Ne Nat 101 Y := tab_ne N (hm1 (.tail _ (.head _))) (hm1 (.tail _ (.tail _ (.head _))))
  have N0 : News g L h ((own ++ [(101, tabObj p1)]) ++ ((I, it) :: (Y, W.listOf (List.toArray lv) c) :: (84, tabObj p2) :: tl)) := fun p hp => N p (by
    simp only [List.mem_append, List.mem_cons, List.not_mem_nil, or_false] at hp ⊢
    grind)
  obtain ⟨F', N'⟩ := grow_hide F N0 (fun p hp q hq e => by
    have hp' : p ∈ ledger I Y it lv c p1 p2 tl := by
      simp only [List.mem_cons] at hp ⊢
      grind
    rcases List.mem_append.mp hq with hq | hq
    · exact absurd e (Nat.ne_of_lt (allLt_mem (hown q hq) p hp'))
    · rw [List.mem_singleton.mp hq] at e
      dsimp only at e
      rcases List.mem_cons.mp hp with rfl | hp
      · exact ho (101, tabObj p1) (.tail _ (.head _)) e.symm
      rcases List.mem_cons.mp hp with rfl | hp
      · exact y1 e.symm
      rcases List.mem_cons.mp hp with rfl | hp
      · exact absurd e (show ¬ (84 : Nat) = 101 by decide)
      · exact (S.off p hp).2.1 e) G hT (fun p hp => by
    rcases List.mem_append.mp hp with hp | hp
    · exact ⟨p, List.mem_append_left _ hp, rfl⟩
    · rw [List.mem_singleton.mp hp]; exact ⟨_, List.mem_append_right _ (.head _), rfl⟩)
  obtain ⟨tl1, N1, hL, hq⟩ := LamH.of F' hl
  have off : ∀ b ob, Mut ob → h'.get? b = some ob → ∀ q ∈ tl1, @Ne Nat q.1 b := fun b ob hm hb => lam_off hq (fun q hq => (N1 q hq).1) hb hm
  have gI : h'.get? I = some it := (N' (I, it) (List.mem_append_right _ (.head _))).1
  have gY : h'.get? Y = some (W.listOf (List.toArray lv) c) := (N' (Y, _) (List.mem_append_right _ (.tail _ (.head _)))).1
  have g1 : h'.get? 101 = some (tabObj ps) := (N' (101, _) (List.mem_append_left _ (List.mem_append_right _ (.head _)))).1
  have g8 : h'.get? 84 = some (tabObj p2) := (N' (84, _) (List.mem_append_right _ (.tail _ (.tail _ (.head _))))).1
  refine ⟨F', tl1, ?_, S.lamJ hL fun q hq => ⟨off Y _ (mut_list _ _) gY q hq, off 101 _ (mut_tab hL) g1 q hq, off 84 _ (mut_tab S.lam2) g8 q hq⟩, ?_⟩
  · intro p hp
    have : p ∈ tl1 ∨ p ∈ (own ++ [(101, tabObj ps)]) ++ ((I, it) :: (Y, W.listOf (List.toArray lv) c) :: (84, tabObj p2) :: tl) := by
      simp only [List.mem_append, List.mem_cons, List.not_mem_nil, or_false] at hp ⊢
      grind
    exact this.elim (N1 p) (N' p)
  · exact all_cons (ho (Y, W.listOf (List.toArray lv) c) (.head _)) (all_cons (ho (101, tabObj p1) (.tail _ (.head _))) (all_cons (ho (84, tabObj p2) (.tail _ (.tail _ (.head _)))) fun q hq => (List.mem_append.mp hq).elim (off I it hit gI q) fun hq => ho q (.tail _ (.tail _ (.tail _ hq)))))
theorem after_split {g h h' : Heap} {L I Y r a : Addr} {m : Str → Option Value} {it oa : Obj} {i c : Nat} {tx : Str} {ys : List (Nat × Nat)} {lv : List Value} {ms : List Str} {p1 p2 ps : Array Value} {tl own tabs tabs' : List (Addr × Obj)}
    (F : Fr g L h m) (N : News g L h ((a, oa) :: (own ++ ledger I Y it lv c p1 p2 tl))) (hown : ∀ q ∈ own, @Ne Nat q.1 84) (ha : AllLt a (own ++ ledger I Y it lv c p1 p2 tl)) (S : LawS g i tx r Y ys lv ms p1 p2 tl) (hit : Mut it)
    (ho : ∀ p ∈ (Y, W.listOf (List.toArray lv) c) :: (101, tabObj p1) :: (84, tabObj p2) :: tl, @Ne Nat p.1 I)
    (ht : tabs = [(a, oa), (84, tabObj p2)]) (ht' : tabs' = [(a, oa), (84, tabObj ps)])
    (G : Grow (hideAll h (tabs.map (·.1))) h') (hT : ∀ p ∈ tabs', h'.get? p.1 = some p.2) (hl : lamPos ps qS h' 41 49) :
    Fr g L h' m ∧ ∃ tl1, News g L h' (own ++ ledger I Y it lv c p1 ps (tl1 ++ tl)) ∧ LawS g i tx r Y ys lv ms p1 ps (tl1 ++ tl) ∧ (∀ p ∈ (Y, W.listOf (List.toArray lv) c) :: (101, tabObj p1) :: (84, tabObj ps) :: (tl1 ++ tl), @Ne Nat p.1 I) := by
  subst ht ht'
  have hm1 : ∀ {x : Addr × Obj}, x ∈ ledger I Y it lv c p1 p2 tl → x ∈ (a, oa) :: (own ++ ledger I Y it lv c p1 p2 tl) := fun hx => .tail _ (List.mem_append_right _ hx)
  have y1 : @Ne Nat 84 Y := tab_ne N (hm1 (.tail _ (.head _))) (hm1 (.tail _ (.tail _ (.tail _ (.head _)))))
  have N0 : News g L h ([(a, oa), (84, tabObj p2)] ++ (own ++ (I, it) :: (Y, W.listOf (List.toArray lv) c) :: (101, tabObj p1) :: tl)) := fun p hp => N p (by
    simp only [List.mem_append, List.mem_cons, List.not_mem_nil, or_false] at hp ⊢
    grind)
  obtain ⟨F', N'⟩ := grow_hide F N0 (fun p hp q hq e => by
    have hp' : p ∈ own ++ ledger I Y it lv c p1 p2 tl := by
      simp only [List.mem_append, List.mem_cons] at hp ⊢
      grind
    rcases List.mem_cons.mp hq with rfl | hq
    · exact absurd e (Nat.ne_of_lt (allLt_mem ha p hp'))
    · rw [List.mem_singleton.mp hq] at e
      dsimp only at e
      rcases List.mem_append.mp hp with hp | hp
      · exact hown p hp e
      rcases List.mem_cons.mp hp with rfl | hp
      · exact ho (84, tabObj p2) (.tail _ (.tail _ (.head _))) e.symm
      rcases List.mem_cons.mp hp with rfl | hp
      · exact y1 e.symm
      rcases List.mem_cons.mp hp with rfl | hp
      · exact absurd e (show ¬ (101 : Nat) = 84 by decide)
      · exact (S.off p hp).2.2 e) G hT (fun p hp => by
    rcases List.mem_cons.mp hp with rfl | hp
    · exact ⟨_, .head _, rfl⟩
    · rw [List.mem_singleton.mp hp]; exact ⟨_, .tail _ (.head _), rfl⟩)
  obtain ⟨tl1, N1, hL, hq⟩ := LamH.of F' hl
  have off : ∀ b ob, Mut ob → h'.get? b = some ob → ∀ q ∈ tl1, @Ne Nat q.1 b := fun b ob hm hb => lam_off hq (fun q hq => (N1 q hq).1) hb hm
  have hr : ∀ {x : Addr × Obj}, x ∈ (I, it) :: (Y, W.listOf (List.toArray lv) c) :: (101, tabObj p1) :: tl → x ∈ [(a, oa), (84, tabObj ps)] ++ (own ++ (I, it) :: (Y, W.listOf (List.toArray lv) c) :: (101, tabObj p1) :: tl) := fun hx => List.mem_append_right _ (List.mem_append_right _ hx)
  have gI : h'.get? I = some it := (N' (I, it) (hr (.head _))).1
  have gY : h'.get? Y = some (W.listOf (List.toArray lv) c) := (N' (Y, _) (hr (.tail _ (.head _)))).1
  have g1 : h'.get? 101 = some (tabObj p1) := (N' (101, _) (hr (.tail _ (.tail _ (.head _))))).1
  have g8 : h'.get? 84 = some (tabObj ps) := (N' (84, _) (.tail _ (.head _))).1
  refine ⟨F', tl1, ?_, S.lamS hL fun q hq => ⟨off Y _ (mut_list _ _) gY q hq, off 101 _ (mut_tab S.lam1) g1 q hq, off 84 _ (mut_tab hL) g8 q hq⟩, ?_⟩
  · intro p hp
    have : p ∈ tl1 ∨ p ∈ [(a, oa), (84, tabObj ps)] ++ (own ++ (I, it) :: (Y, W.listOf (List.toArray lv) c) :: (101, tabObj p1) :: tl) := by
      simp only [List.mem_append, List.mem_cons, List.not_mem_nil, or_false] at hp ⊢
      grind
    exact this.elim (N1 p) (N' p)
  · exact all_cons (ho (Y, W.listOf (List.toArray lv) c) (.head _)) (all_cons (ho (101, tabObj p1) (.tail _ (.head _))) (all_cons (ho (84, tabObj p2) (.tail _ (.tail _ (.head _)))) fun q hq => (List.mem_append.mp hq).elim (off I it hit gI q) fun hq => ho q (.tail _ (.tail _ (.tail _ hq)))))
noncomputable abbrev ownE (a b c d : Addr) (v : Str) (t1 t2 t3 : Tok) : List (Addr × Obj) := [(a, listT [.ref b]), (b, listT [.ref c, .ref d]), (d, tupT [.str (Str.ofString "z") t3, .none]), (c, tupT [.str (Str.ofString "k") t1, .str v t2])]
noncomputable abbrev ownO (a b b2 c d : Addr) (v : Str) (t1 t2 t3 : Tok) : List (Addr × Obj) := [(a, listT [.ref b, .ref b2]), (b2, listT [.ref d]), (d, tupT [.str (Str.ofString "z") t3, .none]), (b, listT [.ref c]), (c, tupT [.str (Str.ofString "k") t1, .str v t2])]
theorem in_hideW {g h : Heap} {L : Addr} {m : Str → Option Value} {tabs : List (Addr × Obj)} (F : Fr g L h m) (N : News g L h tabs) : ∀ b o, g.get? b = some o → (hideAll h (tabs.map (·.1))).get? b = some o := fun b o e =>
  hideAll_get _ (F.keep _ _ e) fun hm => by
    obtain ⟨p, hp, e2⟩ := List.mem_map.mp hm
    have := (N p hp).2.2
    rw [e2, e] at this; cases this
theorem before_join {g h : Heap} {L I Y r : Addr} {m : Str → Option Value} {it : Obj} {i c : Nat} {tx : Str} {ys : List (Nat × Nat)} {lv : List Value} {ms : List Str} {p1 p2 : Array Value} {tl own : List (Addr × Obj)}
    (F : Fr g L h m) (N : News g L h (own ++ ledger I Y it lv c p1 p2 tl)) (hown : ∀ q ∈ own, AllLt q.1 (ledger I Y it lv c p1 p2 tl)) (S : LawS g i tx r Y ys lv ms p1 p2 tl) :
    (∀ b o, g.get? b = some o → (hideAll h (List.map (fun p : Addr × Obj => p.1) (own ++ [((101 : Addr), tabObj p1)]))).get? b = some o) ∧ (∀ p ∈ own ++ [(101, tabObj p1)], h.get? p.1 = some p.2) ∧ lamPos p1 qJ (hideAll h (List.map (fun p : Addr × Obj => p.1) (own ++ [((101 : Addr), tabObj p1)]))) 72 50 := by
  have N1 : News g L h (own ++ [(101, tabObj p1)]) := fun p hp => N p (by
    simp only [List.mem_append, List.mem_cons, List.not_mem_nil, or_false] at hp ⊢
    grind)
  have k := in_hideW F N1
  refine ⟨k, fun p hp => (N1 p hp).1, S.lam1.at k fun q hq => hideAll_get _ (N q (List.mem_append_right _ (.tail _ (.tail _ (.tail _ (.tail _ hq)))))).1 fun hm => ?_⟩
  obtain ⟨p, hp, e⟩ := List.mem_map.mp hm
  rcases List.mem_append.mp hp with hp | hp
  · exact absurd e.symm (Nat.ne_of_lt (allLt_mem (hown p hp) q (.tail _ (.tail _ (.tail _ (.tail _ hq))))))
  · rw [List.mem_singleton.mp hp] at e
    exact (S.off q hq).2.1 e.symm
theorem before_split {g h : Heap} {L I Y r a : Addr} {m : Str → Option Value} {it oa : Obj} {i c : Nat} {tx : Str} {ys : List (Nat × Nat)} {lv : List Value} {ms : List Str} {p1 p2 : Array Value} {tl own : List (Addr × Obj)}
    (F : Fr g L h m) (N : News g L h ((a, oa) :: (own ++ ledger I Y it lv c p1 p2 tl))) (ha : AllLt a (own ++ ledger I Y it lv c p1 p2 tl)) (S : LawS g i tx r Y ys lv ms p1 p2 tl) :
    (∀ b o, g.get? b = some o → (hideAll h (List.map (fun p : Addr × Obj => p.1) [(a, oa), ((84 : Addr), tabObj p2)])).get? b = some o) ∧ (∀ p ∈ [(a, oa), (84, tabObj p2)], h.get? p.1 = some p.2) ∧ lamPos p2 qS (hideAll h (List.map (fun p : Addr × Obj => p.1) [(a, oa), ((84 : Addr), tabObj p2)])) 41 49 ∧ @LT.lt Nat _ 84 a := by
  have N1 : News g L h [(a, oa), (84, tabObj p2)] := fun p hp => N p (by
    simp only [List.mem_append, List.mem_cons, List.not_mem_nil, or_false] at hp ⊢
    grind)
  have k := in_hideW F N1
  refine ⟨k, fun p hp => (N1 p hp).1, S.lam2.at k fun q hq => hideAll_get _ (N q (.tail _ (List.mem_append_right _ (.tail _ (.tail _ (.tail _ (.tail _ hq))))))).1 fun hm => ?_, allLt_mem ha (84, tabObj p2) (List.mem_append_right _ (.tail _ (.tail _ (.tail _ (.head _)))))⟩
  obtain ⟨p, hp, e⟩ := List.mem_map.mp hm
  rcases List.mem_cons.mp hp with rfl | hp
  · exact absurd e.symm (Nat.ne_of_lt (allLt_mem ha q (List.mem_append_right _ (.tail _ (.tail _ (.tail _ (.tail _ hq)))))))
  · rw [List.mem_singleton.mp hp] at e
    exact (S.off q hq).2.2 e.symm
end Mine
end
section
open PySem PySem.W PySem.W.X PyProof.Rows PySem.Spec PySem.Calls
set_option Elab.async false
set_option maxRecDepth 100000
set_option maxHeartbeats 0
namespace Mine
theorem off_Lt5 : True := by
  w_top off
  trivial
local macro_rules | `(tactic| omega) => `(tactic| lia)
local macro_rules | `(tactic| walk_at "compareOp NotEq ref ref") => `(tactic| with_reducible refine hold_in ?_)
local macro_rules | `(tactic| walk_at "eval ListComp") => `(tactic| with_reducible refine hold_in ?_)
local macro_rules | `(tactic| walk_at "compareOp Eq ref ref") => `(tactic| with_reducible refine hold_in ?_)
local macro_rules | `(tactic| walk_at "call ref") => `(tactic| with_reducible refine hold_in ?_)
local macro_rules | `(tactic| walk_at "call builtin:list.append") => `(tactic| with_reducible refine hold_in ?_)
local macro_rules | `(tactic| walk_at "execs cons") => `(tactic| with_reducible refine wpAny_execs_cons ?_)
theorem lawM_end2 (b n v l u1 u2 u3 u4 : Option Value) (tx tx' : Str) (tt tt' : Tok) (r r' Y D V : Addr) (K : Int) (tK : Tok) :
    (fun y => if y = Str.ofString "items" then some (Value.ref r') else if y = Str.ofString "bare" then b else if y = Str.ofString "text" then some (Value.str tx' tt') else if y = Str.ofString "lists" then l else if y = Str.ofString "value" then v else if y = Str.ofString "turn" then n else lawM u1 u2 u3 u4 tx tt r Y D V K tK y) = lawM n v l b tx' tt' r' Y D V K tK := by
  funext z
  unfold lawM
  by_cases e1 : z = Str.ofString "items"
  · subst e1; rfl
  by_cases e5 : z = Str.ofString "bare"
  · subst e5; rfl
  by_cases e2 : z = Str.ofString "text"
  · subst e2; rfl
  by_cases e6 : z = Str.ofString "lists"
  · subst e6; rfl
  by_cases e3 : z = Str.ofString "value"
  · subst e3; rfl
  by_cases e4 : z = Str.ofString "turn"
  · subst e4; rfl
  simp only [if_neg e1, if_neg e2, if_neg e3, if_neg e4, if_neg e5, if_neg e6]
theorem head_end {w : World} {dp un : Nat} {fr : Option (List Env)} {gd : Option (List Code)} {s : Shared} {g : Heap} {L I Y D V r fa : Addr} {cd : Value} {it : Obj} {K : Int} {tK tt t : Tok} {i c : Nat} {tx tz : Str} {uz : Tok} {vl : Value} {x : Nat} {bb : Bool} {ys : List (Nat × Nat)} {lv : List Value} {ms : List Str} {p1 p2 : Array Value} {tl : List (Addr × Obj)} {u1 u2 u3 u4 : Option Value} {loose mean mg mb} {E : Value → Shared → Prop}
    (X : (Mine.hd.heap_1 w.params).In g) (T : Top topProg loose mean mg mb g) (hd : dp < 500) (hu : un < 100) (hi : i < 4) (S : LawS g i tx r Y ys lv ms p1 p2 tl) (hit : Mut it) (hbb : bb = bareB (cl tx)) (hx : (i % 2 = 0 ∧ x = 59) ∨ (i % 2 = 1 ∧ x = 44)) (htz : tz = ⟨(hdVal tx.cps.toList ++ [x, 32, 122]).toArray⟩) (hzl : tz.length ≤ 20000)
    (ho : ∀ p ∈ (Y, W.listOf (List.toArray lv) c) :: (101, tabObj p1) :: (84, tabObj p2) :: tl, @Ne Nat p.1 I)
    (F : Fr g L s.heap (fun y => if y = Str.ofString "bare" then some (Value.bool bb) else if y = Str.ofString "text" then some (Value.str tz uz) else if y = Str.ofString "lists" then some vl else if y = Str.ofString "value" then some (Value.str tx tt) else if y = Str.ofString "turn" then some (Value.int (0 + (i : Int)) t) else lawM u1 u2 u3 u4 tx tt r Y D V K tK y))
    (N : News g L s.heap ((I, it) :: (Y, W.listOf (List.toArray lv) c) :: (101, tabObj p1) :: (84, tabObj p2) :: tl)) :
    wpAny (model PySem.Challenge.rw_re0054_01.row.prog w) (AA dp un fr gd) (execs ((ifRest (ifElse turnBody)).tail) (envOf "law" lawScope L fa cd)) (TurnEnd g L I it (LawJ g Y D V K tK (i + 1)) s) E s := by
  revert X; k_fill; intro X
  have e : (ifRest (ifElse turnBody)).tail = (ifRest (ifElse turnBody)).tail := rfl
  conv at e => rhs; whnf
  rw [e]; clear e
  have e : lawScope = lawScope := rfl
  conv at e => rhs; whnf
  rw [e]; clear e
  unfold lawM at F
  k_unmd
  k_fold
  have hxl : tx.length ≤ 1542 := Nat.le_trans S.txl (bnd_le hi)
  have hsg := sigma_of S
  have hiz := iz_of S
  k_steps
  · unfold Hold
    rename_i hpar
    rw [Int.fmod_eq_emod_of_nonneg _ (by decide)] at hpar
    have hx' : x = 59 := by omega
    subst hx'
    have F7 := (by assumption : Fr _ _ _ _)
    have N7 := (by assumption : News _ _ _ _)
    obtain ⟨a, vs, ea, hl, hiv⟩ := S.items.at F7 (fun q hq => (N7 q (.tail _ (.tail _ (.tail _ (.tail _ hq))))).1)
    cases ea
    rw [show (0 + (i : Int)) + 1 = ((i + 1 : Nat) : Int) by omega]
    refine spec_header (X.keeps F7.keep) (T.keeps F7.keep) ?qd59 ?qu59 hl hiv (Nat.le_trans S.ysl (Nat.le_trans (bnd_le hi) (by decide))) (by decide +kernel) ?_
    case qd59 => show dp < 800; omega
    case qu59 => show un < 500; omega
    intro h8 tk8 r8 g8 hit8 hr8
    have N7' := N7
    replace F7 := Fr.keeps F7 g8
    replace N7 := News.grown N7 g8
    rw [show (Str.ofString "; z").cps.toList = [59, 32, 122] by decide +kernel, hbb] at hit8
    obtain ⟨tl8, Ntl, hH, hcl⟩ := collect F7 hit8
    replace N7 : News g L h8 ((I, it) :: (Y, W.listOf (List.toArray lv) c) :: (101, tabObj p1) :: (84, tabObj p2) :: (tl8 ++ tl)) := all_cons (N7 _ (.head _)) (all_cons (N7 _ (by k_mem)) (all_cons (N7 _ (by k_mem)) (all_cons (N7 _ (by k_mem)) fun q hq => (List.mem_append.mp hq).elim (Ntl q) fun hq => N7 q (.tail _ (.tail _ (.tail _ (.tail _ hq)))))))
    have hoff : ∀ b ob, Mut ob → (b, ob) ∈ (I, it) :: (Y, W.listOf (List.toArray lv) c) :: (101, tabObj p1) :: (84, tabObj p2) :: tl → ∀ q ∈ tl8, @Ne Nat q.1 b := fun b ob hm hb => off_of hcl (fun q hq => (Ntl q hq).1) (g8 _ _ (N7' (b, ob) hb).1) hm (N7' (b, ob) hb).1 hr8
    clear Ntl
    k_steps
    unfold Hold
    have F9 := (by assumption : Fr _ _ _ _)
    have N9 := (by assumption : News _ _ _ _)
    refine append_K F9 N9 (Upd.tail (Ne.symm (ho (Y, _) (.head _))) (Upd.head ?ud59)) ?_ ?sz59
    case ud59 => exact all_cons (tab_ne N9 (.tail _ (.head _)) (.tail _ (.tail _ (.head _)))) (all_cons (tab_ne N9 (.tail _ (.head _)) (.tail _ (.tail _ (.tail _ (.head _))))) fun q hq => (List.mem_append.mp hq).elim (hoff Y _ (mut_list _ _) (.tail _ (.head _)) q) fun hq => (S.off q hq).1)
    case sz59 => have := S.lays.length; have := S.len; rw [sizeLine_eq]; simp; omega
    intro h' F' N'
    clear F9 N9
    k_steps
    have hLN := law_next_head (t := tk8 + 1) S hi (by decide) (hH.mono fun q hq => List.mem_append_left tl hq) (S.lam1.mono fun q hq => List.mem_append_right tl8 hq) (S.lam2.mono fun q hq => List.mem_append_right tl8 hq) fun q hq => (List.mem_append.mp hq).elim (fun hq => ⟨hoff Y _ (mut_list _ _) (.tail _ (.head _)) q hq, hoff 101 _ (mut_tab S.lam1) (.tail _ (.tail _ (.head _))) q hq, hoff 84 _ (mut_tab S.lam2) (.tail _ (.tail _ (.tail _ (.head _)))) q hq⟩) (S.off q)
    have e0 : Str.mk (hdVal (cl tx) ++ [59, 32, 122]).toArray = tz := htz.symm
    rw [e0] at hLN
    refine ⟨rfl, h', _, _, (Y, W.listOf (List.toArray (lv ++ [Value.str (Str.ofString "\"") (tk8 + 1)])) (c + 1)) :: (101, tabObj p1) :: (84, tabObj p2) :: (tl8 ++ tl), rfl, Fr.cast F' (lawM_end2 _ _ _ _ _ _ _ _ _ _ _ _ _ _ _ _ _ _ _), ?nw59, ?ne59, ⟨⟨_, _, _, _, _, _, _, _, _, _, _, p1, p2, tl8 ++ tl, rfl, rfl, hLN⟩⟩⟩
    case nw59 => rw [← List.push_toArray]; exact N'
    case ne59 => exact all_cons (ho (Y, W.listOf (List.toArray lv) c) (.head _)) (all_cons (ho _ (.tail _ (.head _))) (all_cons (ho _ (.tail _ (.tail _ (.head _)))) fun q hq => (List.mem_append.mp hq).elim (hoff I it hit (.head _) q) fun hq => ho q (.tail _ (.tail _ (.tail _ hq)))))
  · unfold Hold
    rename_i hpar
    rw [Int.fmod_eq_emod_of_nonneg _ (by decide)] at hpar
    have hx' : x = 44 := by omega
    subst hx'
    have F7 := (by assumption : Fr _ _ _ _)
    have N7 := (by assumption : News _ _ _ _)
    obtain ⟨a, vs, ea, hl, hiv⟩ := S.items.at F7 (fun q hq => (N7 q (.tail _ (.tail _ (.tail _ (.tail _ hq))))).1)
    cases ea
    rw [show (0 + (i : Int)) + 1 = ((i + 1 : Nat) : Int) by omega]
    refine spec_header (X.keeps F7.keep) (T.keeps F7.keep) ?qd44 ?qu44 hl hiv (Nat.le_trans S.ysl (Nat.le_trans (bnd_le hi) (by decide))) (by decide +kernel) ?_
    case qd44 => show dp < 800; omega
    case qu44 => show un < 500; omega
    intro h8 tk8 r8 g8 hit8 hr8
    have N7' := N7
    replace F7 := Fr.keeps F7 g8
    replace N7 := News.grown N7 g8
    rw [show (Str.ofString ", z").cps.toList = [44, 32, 122] by decide +kernel, hbb] at hit8
    obtain ⟨tl8, Ntl, hH, hcl⟩ := collect F7 hit8
    replace N7 : News g L h8 ((I, it) :: (Y, W.listOf (List.toArray lv) c) :: (101, tabObj p1) :: (84, tabObj p2) :: (tl8 ++ tl)) := all_cons (N7 _ (.head _)) (all_cons (N7 _ (by k_mem)) (all_cons (N7 _ (by k_mem)) (all_cons (N7 _ (by k_mem)) fun q hq => (List.mem_append.mp hq).elim (Ntl q) fun hq => N7 q (.tail _ (.tail _ (.tail _ (.tail _ hq)))))))
    have hoff : ∀ b ob, Mut ob → (b, ob) ∈ (I, it) :: (Y, W.listOf (List.toArray lv) c) :: (101, tabObj p1) :: (84, tabObj p2) :: tl → ∀ q ∈ tl8, @Ne Nat q.1 b := fun b ob hm hb => off_of hcl (fun q hq => (Ntl q hq).1) (g8 _ _ (N7' (b, ob) hb).1) hm (N7' (b, ob) hb).1 hr8
    clear Ntl
    k_steps
    unfold Hold
    have F9 := (by assumption : Fr _ _ _ _)
    have N9 := (by assumption : News _ _ _ _)
    refine append_K F9 N9 (Upd.tail (Ne.symm (ho (Y, _) (.head _))) (Upd.head ?ud44)) ?_ ?sz44
    case ud44 => exact all_cons (tab_ne N9 (.tail _ (.head _)) (.tail _ (.tail _ (.head _)))) (all_cons (tab_ne N9 (.tail _ (.head _)) (.tail _ (.tail _ (.tail _ (.head _))))) fun q hq => (List.mem_append.mp hq).elim (hoff Y _ (mut_list _ _) (.tail _ (.head _)) q) fun hq => (S.off q hq).1)
    case sz44 => have := S.lays.length; have := S.len; rw [sizeLine_eq]; simp; omega
    intro h' F' N'
    clear F9 N9
    k_steps
    have hLN := law_next_head (t := tk8 + 1) S hi (by decide) (hH.mono fun q hq => List.mem_append_left tl hq) (S.lam1.mono fun q hq => List.mem_append_right tl8 hq) (S.lam2.mono fun q hq => List.mem_append_right tl8 hq) fun q hq => (List.mem_append.mp hq).elim (fun hq => ⟨hoff Y _ (mut_list _ _) (.tail _ (.head _)) q hq, hoff 101 _ (mut_tab S.lam1) (.tail _ (.tail _ (.head _))) q hq, hoff 84 _ (mut_tab S.lam2) (.tail _ (.tail _ (.tail _ (.head _)))) q hq⟩) (S.off q)
    have e0 : Str.mk (hdVal (cl tx) ++ [44, 32, 122]).toArray = tz := htz.symm
    rw [e0] at hLN
    refine ⟨rfl, h', _, _, (Y, W.listOf (List.toArray (lv ++ [Value.str (Str.ofString "\"") (tk8 + 1)])) (c + 1)) :: (101, tabObj p1) :: (84, tabObj p2) :: (tl8 ++ tl), rfl, Fr.cast F' (lawM_end2 _ _ _ _ _ _ _ _ _ _ _ _ _ _ _ _ _ _ _), ?nw44, ?ne44, ⟨⟨_, _, _, _, _, _, _, _, _, _, _, p1, p2, tl8 ++ tl, rfl, rfl, hLN⟩⟩⟩
    case nw44 => rw [← List.push_toArray]; exact N'
    case ne44 => exact all_cons (ho (Y, W.listOf (List.toArray lv) c) (.head _)) (all_cons (ho _ (.tail _ (.head _))) (all_cons (ho _ (.tail _ (.tail _ (.head _)))) fun q hq => (List.mem_append.mp hq).elim (hoff I it hit (.head _) q) fun hq => ho q (.tail _ (.tail _ (.tail _ hq)))))
end Mine
end
section
open PySem PySem.W PySem.W.X PyProof.Rows PySem.Spec PySem.Calls
set_option Elab.async false
set_option maxRecDepth 100000
set_option maxHeartbeats 0
namespace Mine
theorem off_Lt6 : True := by
  w_top off
  trivial
local macro_rules | `(tactic| walk_at "compareOp NotEq ref ref") => `(tactic| with_reducible refine hold_in ?_)
local macro_rules | `(tactic| walk_at "eval ListComp") => `(tactic| with_reducible refine hold_in ?_)
local macro_rules | `(tactic| walk_at "compareOp Eq ref ref") => `(tactic| with_reducible refine hold_in ?_)
local macro_rules | `(tactic| walk_at "call ref") => `(tactic| with_reducible refine hold_in ?_)
local macro_rules | `(tactic| walk_at "call builtin:list.append") => `(tactic| with_reducible refine hold_in ?_)
local macro_rules | `(tactic| walk_at "execs cons") => `(tactic| with_reducible refine wpAny_execs_cons ?_)
local macro_rules | `(tactic| walk_at "execs cons") => `(tactic| ((with_reducible show wpAny _ _ (execs [_, _] _) _ _ _); with_reducible refine hold_in ?_))
theorem not_law (k : Nat) : (!!(Builtin.Str.occurrences (Str.ofString "ak.*~") { cps := #[k] } 0 (Str.ofString "ak.*~").length 1).isEmpty) = !lawB k := by
  have e : (Str.ofString "ak.*~").cps.toList = [97, 107, 46, 42, 126] := by decide +kernel
  rw [PyProof.Rows.empty_one]
  unfold lawB
  rw [Bool.not_not, ← e]
  simp
theorem ne_nil {x : Str} (h : (x != Str.ofString "") = true) : cl x ≠ [] := by
  intro e
  have e1 : x = Str.ofString "" := Str.ext' (Array.toList_inj.mp (by show cl x = _; rw [e]; rfl))
  rw [e1] at h; revert h; decide +kernel
theorem eq_nil {x : Str} (h : (x != Str.ofString "") = false) : cl x = [] := by
  have e : x = Str.ofString "" := by simpa [bne] using h
  rw [e]; decide +kernel
theorem head_tail {w : World} {dp un : Nat} {fr : Option (List Env)} {gd : Option (List Code)} {s : Shared} {g : Heap} {L I Y D V r fa : Addr} {cd : Value} {it : Obj} {K : Int} {tK tt t : Tok} {i c : Nat} {tx tz : Str} {uz : Tok} {vl : Value} {x : Nat} {ys : List (Nat × Nat)} {lv : List Value} {ms : List Str} {p1 p2 : Array Value} {tl : List (Addr × Obj)} {u1 u2 u3 u4 : Option Value} {loose mean mg mb} {E : Value → Shared → Prop}
    (X : (Mine.hd.heap_1 w.params).In g) (T : Top topProg loose mean mg mb g) (hd : dp < 500) (hu : un < 100) (hi : i < 4) (S : LawS g i tx r Y ys lv ms p1 p2 tl) (hit : Mut it) (hx : (i % 2 = 0 ∧ x = 59) ∨ (i % 2 = 1 ∧ x = 44)) (htz : tz = ⟨(hdVal tx.cps.toList ++ [x, 32, 122]).toArray⟩) (hzl : tz.length ≤ 20000)
    (ho : ∀ p ∈ (Y, W.listOf (List.toArray lv) c) :: (101, tabObj p1) :: (84, tabObj p2) :: tl, @Ne Nat p.1 I)
    (F : Fr g L s.heap (fun y => if y = Str.ofString "text" then some (Value.str tz uz) else if y = Str.ofString "lists" then some vl else if y = Str.ofString "value" then some (Value.str tx tt) else if y = Str.ofString "turn" then some (Value.int (0 + (i : Int)) t) else lawM u1 u2 u3 u4 tx tt r Y D V K tK y))
    (N : News g L s.heap ((I, it) :: (Y, W.listOf (List.toArray lv) c) :: (101, tabObj p1) :: (84, tabObj p2) :: tl)) :
    wpAny (model PySem.Challenge.rw_re0054_01.row.prog w) (AA dp un fr gd) (execs (ifRest (ifElse turnBody)) (envOf "law" lawScope L fa cd)) (TurnEnd g L I it (LawJ g Y D V K tK (i + 1)) s) E s := by
  revert X; k_fill; intro X
  have e : ifRest (ifElse turnBody) = ifRest (ifElse turnBody) := rfl
  conv at e => rhs; whnf
  rw [e]; clear e
  have e : lawScope = lawScope := rfl
  conv at e => rhs; whnf
  rw [e]; clear e
  unfold lawM at F
  k_unmd
  k_fold
  have hxl : tx.length ≤ 1542 := Nat.le_trans S.txl (bnd_le hi)
  have hsg := sigma_of S
  have hiz := iz_of S
  k_steps
  · unfold Hold
    rename_i hne
    refine' comp_filter_text (fun k => !lawB k) F ?hh ?cl ?ce ?kd ?nm ?hx ?_
    case hh => rfl
    case cl => with_unfolding_all rfl
    case ce => decide
    case kd => rfl
    case nm => decide
    case hx => rfl
    k_steps
    refine ⟨tx, _, _, rfl, ?sz, F, N, ?tst, ?elt, ?_⟩
    case sz => have : tx.cps.size ≤ 1542 := hxl; rw [sizeLine_eq]; omega
    case tst =>
      intro C oC k t m₃ h2 tk2 Q' E' hoC hm F2 N2 hQ
      clear N F
      k_steps
      rw [not_law]
      exact hQ _
    case elt =>
      intro C oC k t m₃ h2 tk2 Q' E' hoC hm F2 N2 hQ
      clear N F
      k_steps
      exact hQ _ _
    intro D us n h2 tk2 F2 N2 hD hus hzs
    obtain ⟨zs, hz, hzk⟩ := hzs
    have hub := bare_val hsg hiz (ne_nil hne) hus
    k_steps
    unfold Hold
    rename_i F3 N3 _
    refine eq_nil_strs (News.isList N3 (.tail _ (.head _))) hz (News.isList N3 (.head _)) ?ok ?uu ?_
    case ok =>
      intro z hz
      obtain ⟨k, hk, rfl⟩ := hzk z hz
      have := sigma_ok k (hsg k hk)
      simpa using this
    case uu => show un + 64 < cLine; have : cLine = 9900 := rfl; omega
    rw [hub]
    k_steps
    unfold Hold
    refine wpAny_mono (head_end X T hd hu hi S hit rfl hx htz hzl ho (by assumption) (news_sub (by assumption) fun p hp => .tail _ (.tail _ hp))) (fun f s' y => y) fun _ _ y => y
  · unfold Hold
    rename_i hne _ _ _
    refine wpAny_mono (head_end X T hd hu hi S hit (hne.trans (bare_nil (eq_nil hne))) hx htz hzl ho (by assumption) (by assumption)) (fun f s' y => y) fun _ _ y => y
end Mine
end
section
open PySem PySem.W PySem.W.X PyProof.Rows PySem.Spec PySem.Calls
set_option Elab.async false
set_option maxRecDepth 100000
set_option maxHeartbeats 0
namespace Mine
theorem off_Lh5 : True := by
  w_top off
  trivial
local macro_rules | `(tactic| walk_at "compareOp NotEq ref ref") => `(tactic| with_reducible refine hold_in ?_)
local macro_rules | `(tactic| walk_at "call ref") => `(tactic| with_reducible refine hold_in ?_)
local macro_rules | `(tactic| walk_at "call builtin:list.append") => `(tactic| with_reducible refine hold_in ?_)
local macro_rules | `(tactic| walk_at "execs cons") => `(tactic| with_reducible refine wpAny_execs_cons ?_)
local macro_rules | `(tactic| walk_at "execs cons") => `(tactic| ((with_reducible show wpAny _ _ (execs [_, _, _] _) _ _ _); with_reducible refine hold_in ?_))
theorem head_walk {w : World} {dp un : Nat} {fr : Option (List Env)} {gd : Option (List Code)} {s : Shared} {g : Heap} {L I Y D V r fa : Addr} {cd : Value} {it : Obj} {K : Int} {tK tt t : Tok} {i c : Nat} {tx : Str} {ys : List (Nat × Nat)} {lv : List Value} {ms : List Str} {p1 p2 : Array Value} {tl : List (Addr × Obj)} {u1 u2 u3 u4 : Option Value} {loose mean mg mb} {E : Value → Shared → Prop}
    (X : (Mine.hd.heap_1 w.params).In g) (T : Top topProg loose mean mg mb g) (hd : dp < 500) (hu : un < 100) (hi : i < 4) (S : LawS g i tx r Y ys lv ms p1 p2 tl) (hit : Mut it)
    (ho : ∀ p ∈ (Y, W.listOf (List.toArray lv) c) :: (101, tabObj p1) :: (84, tabObj p2) :: tl, @Ne Nat p.1 I)
    (F : Fr g L s.heap (fun y => if y = Str.ofString "value" then some (Value.str tx tt) else if y = Str.ofString "turn" then some (Value.int (0 + (i : Int)) t) else lawM u1 u2 u3 u4 tx tt r Y D V K tK y))
    (N : News g L s.heap ((I, it) :: (Y, W.listOf (List.toArray lv) c) :: (101, tabObj p1) :: (84, tabObj p2) :: tl)) :
    wpAny (model PySem.Challenge.rw_re0054_01.row.prog w) (AA dp un fr gd) (execs (ifElse turnBody) (envOf "law" lawScope L fa cd)) (TurnEnd g L I it (LawJ g Y D V K tK (i + 1)) s) E s := by
  revert X; k_fill; intro X
  have e : ifElse turnBody = ifElse turnBody := rfl
  conv at e => rhs; whnf
  rw [e]; clear e
  have e : lawScope = lawScope := rfl
  conv at e => rhs; whnf
  rw [e]; clear e
  unfold lawM at F
  k_unmd
  k_fold
  have hxl : tx.length ≤ 1542 := Nat.le_trans S.txl (bnd_le hi)
  have hsg := sigma_of S
  have hiz := iz_of S
  k_steps
  · unfold Hold
    rename_i hpar c' hq4 lc d' hq3 ld b' hq2 lb a' hq1 la hq0 F1 N1
    rw [Int.fmod_eq_emod_of_nonneg _ (by decide)] at hpar
    obtain ⟨t1, t2, t3, N2⟩ : ∃ t1 t2 t3, News g L hq0 (ownE a' b' c' d' tx t1 t2 t3 ++ ledger I Y it lv c p1 p2 tl) := ⟨_, _, _, N1⟩
    have hown : ∀ q ∈ ownE a' b' c' d' tx t1 t2 t3, AllLt q.1 (ledger I Y it lv c p1 p2 tl) := all_cons la.2.2.2 (all_cons lb.2.2 (all_cons ld.2 (all_cons lc (List.forall_mem_nil _))))
    obtain ⟨bk, bt, bl⟩ := before_join F1 N2 hown S
    refine spec_joinE ?pd59 ?pu59 (Nat.le_trans hxl (by decide)) hsg (ownE a' b' c' d' tx t1 t2 t3 ++ [(101, tabObj p1)]) rfl (X.keeps bk) (T.keeps bk) bt bl lc.2.2.1 ld.1 lb.1 la.1 ?_
    case pd59 => show dp < 800; omega
    case pu59 => show un < 500; omega
    intro h8 tk8 u8 ps G8 hT8 hl8
    obtain ⟨F8, tl1, N8, S8, ho8⟩ := after_join F1 N2 hown S hit ho rfl rfl G8 hT8 hl8
    clear N1 N2 F1 bk bt bl G8 hT8 hl8
    obtain ⟨tz, htz⟩ : ∃ tz : Str, tz = ⟨(hdVal tx.cps.toList ++ [59, 32, 122]).toArray⟩ := ⟨_, rfl⟩
    have hzl : tz.length ≤ 20000 := by
      have := hdVal_len tx.cps.toList
      have h2 : tx.cps.toList.length ≤ 1542 := hxl
      rw [htz]
      show (hdVal tx.cps.toList ++ [59, 32, 122]).toArray.size ≤ _
      simp only [List.size_toArray, List.length_append, List.length_cons, List.length_nil]
      omega
    rw [← htz]
    dsimp only [ownE, ownO, ledger, List.cons_append, List.nil_append] at N8
    k_steps
    unfold Hold
    rename_i _ z hz1 F3 N3 lz
    have N4 : News g L hz1 ((z, listT [.str tz u8]) :: (ownE a' b' c' d' tx t1 t2 t3 ++ ledger I Y it lv c ps p2 (tl1 ++ tl))) := N3
    obtain ⟨sk, st, sl, s84⟩ := before_split F3 N4 lz S8
    refine spec_split ?pf59 ?pg59 (Nat.le_trans hxl (by decide)) hsg (.inl rfl) ?hy59 [(z, listT [.str tz u8]), (84, tabObj p2)] rfl (X.keeps sk) (T.keeps sk) st sl s84 ?hE59 ?hO59
    case pf59 => show dp < 800; omega
    case pg59 => show un < 400; omega
    case hy59 => rw [htz]
    case hO59 => intro e; cases e
    intro _ h9 tk9 ps2 rr pp q1 q2 c1 c2 v1 v2 v3 G9 hT9 hl9 hnew
    obtain ⟨F9, tl2, N9, S9, ho9⟩ := after_split F3 N4 (fun q hq => Ne.symm (Nat.ne_of_lt (allLt_mem (hown q hq) (84, tabObj p2) (.tail _ (.tail _ (.tail _ (.head _))))))) lz S8 hit ho8 rfl rfl G9 hT9 hl9
    clear N3 N4 F3 sk st sl G9 hT9 hl9
    dsimp only [ownE, ownO, ledger, List.cons_append, List.nil_append] at N9
    k_steps
    unfold Hold
    refine neE (hnew _ (.head _)).1 (hnew _ (.tail _ (.head _))).1 (hnew _ (.tail _ (.tail _ (.head _)))).1 (hnew _ (.tail _ (.tail _ (.tail _ (.head _))))).1 (N9 _ (.head _)).1 (N9 _ (.tail _ (.head _))).1 (N9 _ (.tail _ (.tail _ (.tail _ (.head _))))).1 (N9 _ (.tail _ (.tail _ (.head _)))).1 hsg ?uu59 ?_
    case uu59 => show un + 64 < cLine; have : cLine = 9900 := rfl; omega
    k_steps
    unfold Hold
    refine wpAny_mono (head_tail X T hd hu hi S9 hit (.inl ⟨by omega, rfl⟩) htz hzl ho9 F9 (news_sub N9 fun p hp => .tail _ (.tail _ (.tail _ (.tail _ hp))))) (fun f s' y => y) fun _ _ y => y
  · unfold Hold
    rename_i hpar c' hq5 lc b' hq4 lb d' hq3 ld b2 hq2 lb2 a' hq1 la hq0 F1 N1
    rw [Int.fmod_eq_emod_of_nonneg _ (by decide)] at hpar
    obtain ⟨t1, t2, t3, N2⟩ : ∃ t1 t2 t3, News g L hq0 (ownO a' b' b2 c' d' tx t1 t2 t3 ++ ledger I Y it lv c p1 p2 tl) := ⟨_, _, _, N1⟩
    have hown : ∀ q ∈ ownO a' b' b2 c' d' tx t1 t2 t3, AllLt q.1 (ledger I Y it lv c p1 p2 tl) := all_cons la.2.2.2.2 (all_cons lb2.2.2.2 (all_cons ld.2.2 (all_cons lb.2 (all_cons lc (List.forall_mem_nil _)))))
    obtain ⟨bk, bt, bl⟩ := before_join F1 N2 hown S
    refine spec_joinO ?pd44 ?pu44 (Nat.le_trans hxl (by decide)) hsg (ownO a' b' b2 c' d' tx t1 t2 t3 ++ [(101, tabObj p1)]) rfl (X.keeps bk) (T.keeps bk) bt bl lc.2.2.1 lb.1 ld.1 lb2.1 la.1 ?_
    case pd44 => show dp < 800; omega
    case pu44 => show un < 500; omega
    intro h8 tk8 u8 ps G8 hT8 hl8
    obtain ⟨F8, tl1, N8, S8, ho8⟩ := after_join F1 N2 hown S hit ho rfl rfl G8 hT8 hl8
    clear N1 N2 F1 bk bt bl G8 hT8 hl8
    obtain ⟨tz, htz⟩ : ∃ tz : Str, tz = ⟨(hdVal tx.cps.toList ++ [44, 32, 122]).toArray⟩ := ⟨_, rfl⟩
    have hzl : tz.length ≤ 20000 := by
      have := hdVal_len tx.cps.toList
      have h2 : tx.cps.toList.length ≤ 1542 := hxl
      rw [htz]
      show (hdVal tx.cps.toList ++ [44, 32, 122]).toArray.size ≤ _
      simp only [List.size_toArray, List.length_append, List.length_cons, List.length_nil]
      omega
    rw [← htz]
    dsimp only [ownE, ownO, ledger, List.cons_append, List.nil_append] at N8
    k_steps
    unfold Hold
    rename_i _ z hz1 F3 N3 lz
    have N4 : News g L hz1 ((z, listT [.str tz u8]) :: (ownO a' b' b2 c' d' tx t1 t2 t3 ++ ledger I Y it lv c ps p2 (tl1 ++ tl))) := N3
    obtain ⟨sk, st, sl, s84⟩ := before_split F3 N4 lz S8
    refine spec_split ?pf44 ?pg44 (Nat.le_trans hxl (by decide)) hsg (.inr rfl) ?hy44 [(z, listT [.str tz u8]), (84, tabObj p2)] rfl (X.keeps sk) (T.keeps sk) st sl s84 ?hE44 ?hO44
    case pf44 => show dp < 800; omega
    case pg44 => show un < 400; omega
    case hy44 => rw [htz]
    case hE44 => intro e; cases e
    intro _ h9 tk9 ps2 rr pp pp2 q1 q2 c1 c2 c3 v1 v2 v3 G9 hT9 hl9 hnew
    obtain ⟨F9, tl2, N9, S9, ho9⟩ := after_split F3 N4 (fun q hq => Ne.symm (Nat.ne_of_lt (allLt_mem (hown q hq) (84, tabObj p2) (.tail _ (.tail _ (.tail _ (.head _))))))) lz S8 hit ho8 rfl rfl G9 hT9 hl9
    clear N3 N4 F3 sk st sl G9 hT9 hl9
    dsimp only [ownE, ownO, ledger, List.cons_append, List.nil_append] at N9
    k_steps
    unfold Hold
    refine neO (hnew _ (.head _)).1 (hnew _ (.tail _ (.head _))).1 (hnew _ (.tail _ (.tail _ (.head _)))).1 (hnew _ (.tail _ (.tail _ (.tail _ (.head _))))).1 (hnew _ (.tail _ (.tail _ (.tail _ (.tail _ (.head _)))))).1 (N9 _ (.head _)).1 (N9 _ (.tail _ (.tail _ (.tail _ (.head _))))).1 (N9 _ (.tail _ (.head _))).1 (N9 _ (.tail _ (.tail _ (.tail _ (.tail _ (.head _)))))).1 (N9 _ (.tail _ (.tail _ (.head _)))).1 hsg ?uu44 ?_
    case uu44 => show un + 64 < cLine; have : cLine = 9900 := rfl; omega
    k_steps
    unfold Hold
    refine wpAny_mono (head_tail X T hd hu hi S9 hit (.inr ⟨by omega, rfl⟩) htz hzl ho9 F9 (news_sub N9 fun p hp => .tail _ (.tail _ (.tail _ (.tail _ (.tail _ hp)))))) (fun f s' y => y) fun _ _ y => y
end Mine
end
section
open PySem PySem.W PySem.W.X PyProof.Rows PySem.Spec PySem.Calls
set_option Elab.async false
set_option maxRecDepth 100000
set_option maxHeartbeats 0
namespace Mine
theorem off_Lu5 : True := by
  w_top off
  trivial
local macro_rules | `(tactic| walk_at "call ref") => `(tactic| with_reducible refine hold_in ?_)
local macro_rules | `(tactic| walk_at "ite") => `(tactic| with_reducible refine hold_in ?_)
local macro_rules | `(tactic| walk_at "exec If") => `(tactic| with_reducible refine hold_in ?_)
local macro_rules | `(tactic| walk_at "execs cons") => `(tactic| with_reducible refine wpAny_execs_cons ?_)
theorem turn_walk {w : World} {dp un : Nat} {fr : Option (List Env)} {gd : Option (List Code)} {s : Shared} {g : Heap} {L I Y D V fa : Addr} {cd : Value} {it : Obj} {K : Int} {tK t : Tok} {i : Nat} {m₁ : Str → Option Value} {nx : List (Addr × Obj)} {loose mean mg mb} {E : Value → Shared → Prop} {P : Flow → Shared → Prop}
    (X : (Mine.hd.heap_1 w.params).In g) (T : Top topProg loose mean mg mb g) (hd : dp < 500) (hu : un < 100) (hi : i < 4) (hJ : LawJ g Y D V K tK i m₁ nx) (hit : Mut it) (ho : ∀ p ∈ nx, @Ne Nat p.1 I)
    (F : Fr g L s.heap (fun y => if y = Str.ofString "turn" then some (Value.int (0 + (i : Int)) t) else m₁ y))
    (N : News g L s.heap ((I, it) :: nx))
    (h : ∀ s', TurnEnd g L I it (LawJ g Y D V K tK (i + 1)) s .next s' → P .next s') :
    wpAny (model PySem.Challenge.rw_re0054_01.row.prog w) (AA dp un fr gd) (execs turnBody (envOf "law" lawScope L fa cd)) P E s := by
  revert X; k_fill; intro X
  have e : turnBody = turnBody := rfl
  conv at e => rhs; whnf
  rw [e]; clear e
  have e : lawScope = lawScope := rfl
  conv at e => rhs; whnf
  rw [e]; clear e
  have hJ5 := hJ
  obtain ⟨⟨u1, u2, u3, u4, tx, tt, r, ys, lv, cc, ms, p1, p2, tl, rfl, rfl, S⟩⟩ := hJ
  have hi0 : 0 ≤ (i : Int) ∧ (i : Int) ≤ 3 := by omega
  have hxl : tx.length ≤ 1542 := Nat.le_trans S.txl (bnd_le hi)
  have F' := F
  unfold lawM at F'
  clear F
  k_unmd
  try k_fold
  k_steps
  unfold Hold
  refine cut_turn (by assumption) (by assumption) hJ5 ?_ ?_
  · refine wpAny_If ?_
    k_steps
    unfold Hold
    refine ite_two ?_ ?_
    · exact pat_walk X T hd hu hi S hit ho (by assumption) (by assumption)
    · exact head_walk X T hd hu hi S hit ho (by assumption) (by assumption)
  · rintro s' hT
    obtain ⟨_, h6, tk6, m6, nx6, rfl, F6, N6, ho6, hJ6⟩ := hT
    have hJ7 := hJ6
    obtain ⟨⟨u1', u2', u3', u4', tx', tt', r', ys', lv', cc', ms', p1', p2', tl', rfl, rfl, S'⟩⟩ := hJ6
    have hxl' : tx'.length ≤ 10803 := Nat.le_trans S'.txl (bnd_le4 _)
    have F6' := F6
    unfold lawM at F6'
    clear F6
    k_steps
    unfold Hold
    refine wpAny_If ?_
    k_steps
    unfold Hold
    have F7 := (by assumption : Fr _ _ _ _)
    have N7 := (by assumption : News _ _ _ _)
    obtain ⟨a, vs, ea, hl, hiv⟩ := S'.items.at F7 (fun q hq => (N7 q (.tail _ (.tail _ (.tail _ (.tail _ hq))))).1)
    cases ea
    refine spec_written (X.keeps F7.keep) (T.keeps F7.keep) ?qd ?qu hl hiv (Nat.le_trans S'.ysl (Nat.le_trans (bnd_le4 _) (by decide))) (News.isList N7 (.tail _ (.head _))) S'.lays ?q4 S'.short ?_
    case qd => show dp < 800; omega
    case qu => show un < 500; omega
    case q4 => have := S'.len; omega
    intro h8 tk8 u8 g8
    have e : Str.mk (writN (ms'.map (·.cps.toList)) ys').toArray = tx' := by
      apply Str.ext'
      apply Array.toList_inj.mp
      exact S'.text.symm
    rw [e]
    replace F7 := Fr.keeps F7 g8
    replace N7 := News.grown N7 g8
    k_steps
    unfold Hold
    rw [if_neg (by simp)]
    k_steps
    exact h _ ⟨rfl, h8, _, _, _, rfl, Fr.cast F7 rfl, N7, ho6, hJ7⟩
end Mine
end
section
open PySem PySem.W PySem.W.X PyProof.Rows PySem.Spec PySem.Calls
set_option Elab.async false
set_option maxRecDepth 100000
set_option maxHeartbeats 0
namespace Mine
theorem off_Lw6 : True := by
  w_top off
  trivial
local macro_rules | `(tactic| walk_at "eval ListComp") => `(tactic| with_reducible refine hold_in ?_)
local macro_rules | `(tactic| walk_at "call builtin:str.join") => `(tactic| with_reducible refine hold_in ?_)
local macro_rules | `(tactic| walk_at "call type:range") => `(tactic| ((refine' range1_K ?F ?N ?_; (case F => assumption); (case N => assumption)); intro rr hh tkr tr ur vr hR FR NR))
local macro_rules | `(tactic| walk_at "call ref") => `(tactic| with_reducible refine hold_in ?_)
local macro_rules | `(tactic| walk_at "ite") => `(tactic| with_reducible refine hold_in ?_)
local macro_rules | `(tactic| walk_at "call builtin:list.append") => `(tactic| with_reducible refine hold_in ?_)
local macro_rules | `(tactic| walk_at "execs cons") => `(tactic| with_reducible refine wpAny_execs_cons ?_)
local macro_rules | `(tactic| walk_at "callWith ref") => `(tactic| (k_here; k_dflt (refine' callWith_K ?k1 ?k2 ?_; (case k1 => k_asm); (case k2 => k_is); k_whole)))
local macro_rules | `(tactic| walk_at "exec Assign") => `(tactic| refine wpAny_Assign_Name ?_)
local macro_rules | `(tactic| walk_at "And") => `(tactic| ((with_reducible show Frag.In _ _ ∧ _); refine ⟨Frag.In.keeps (by with_reducible assumption) (Fr.keep (by with_reducible assumption)), ?_⟩; try dsimp only [List.nil_append, List.cons_append]))
local macro_rules | `(tactic| k_steps) => `(tactic| repeat' (first | (k_unfold; (try dsimp only)) | walk1 | ((fail_if_success with_reducible show Hold _); dsimp only; walk1) | fail "no step"))
local macro_rules | `(tactic| walk_at "exec If") => `(tactic| with_reducible refine hold_in ?_)
local macro_rules | `(tactic| walk_at "exec For Name Call cons nil") => `(tactic| ((rename Fr _ _ _ _ => lF'); (with_unfolding_all refine' For_invVF lF' ?k1 ?k2 ?_; (case k1 => exact rfl); (case k2 => exact rfl))))
local macro_rules | `(tactic| walk_at "pyIter ref") => `(tactic| with_reducible refine hold_in ?_)
local macro_rules | `(tactic| walk_at "exec Assign cons ListComp") => `(tactic| with_reducible refine hold_in ?_)
theorem law_holds : PySem.Challenge.rw_re0054_01.Holds := hd (And.intro look (by
  k_go0
  rename_i w s0 s1 mg mb G Yh fa o pm cd doc kV ho hcd hg X0 V0 T0 B0 TE TW nsI hs0 hlay0 hL1 hr1 hl2 w4 w3 w2 w1 w0 hL0 ra w1' r0 hI0 hr0 hc1 hc0 hD0 h1 Xa Ta Ka Fa cHd Na l0a
  all_goals try k_fold
  walk1
  have X' := (by assumption : (Mine.hd.heap_1 _).In (ghostOf _ _))
  have T' := (by assumption : Top topProg _ _ _ _ (ghostOf _ _))
  obtain ⟨loose, mean, T'⟩ : ∃ (loose : List Str) (mean : ExcName → Option Value), Top topProg loose mean mg mb (ghostOf s1.heap [(105, 101), (88, 84)]) := ⟨_, _, T'⟩
  refine cut_law (by assumption) ?_ ?_
  · k_steps
    unfold Hold
    split
    all_goals k_steps
    · have F1 := (by assumption : Fr _ _ _ _)
      have N1 := (by assumption : News _ _ _ _)
      have hI := (by assumption : IntsAre _ (List.take 3 _))
      refine ⟨rfl, _, _, _, _, _, _, rfl, Fr.cast F1 ?_, news_sub N1 (all_cons (.head _) (all_cons (by k_mem) (all_cons (by k_mem) (List.forall_mem_nil _)))), hI, ?_, by omega, by omega⟩
      · funext z
        by_cases e1 : z = Str.ofString "numbers"
        · simp only [if_pos e1]
        · rw [if_neg e1, if_neg e1]
          show List.lookup z [(Str.ofString "script", _)] = _
          by_cases e2 : z = Str.ofString "script"
          · subst e2; rfl
          · have e3 : (z == Str.ofString "script") = false := beq_eq_false_iff_ne.mpr e2
            simp only [List.lookup, e3, if_neg e2]
      · rw [hI.length, List.length_take]; omega
    · have F1 := (by assumption : Fr _ _ _ _)
      have N1 := (by assumption : News _ _ _ _)
      refine ⟨rfl, _, _, _, [_, _, _], [2, 3, 1], _, rfl, Fr.cast F1 ?_, news_sub N1 (all_cons (.head _) (all_cons (by k_mem) (all_cons (by k_mem) (List.forall_mem_nil _)))), .cons _ _ (.cons _ _ (.cons _ _ .nil)), Nat.le_refl _, by omega, by omega⟩
      funext z
      by_cases e1 : z = Str.ofString "numbers"
      · simp only [if_pos e1]
      · rw [if_neg e1, if_neg e1]
        show List.lookup z [(Str.ofString "script", _)] = _
        by_cases e2 : z = Str.ofString "script"
        · subst e2; rfl
        · have e3 : (z == Str.ofString "script") = false := beq_eq_false_iff_ne.mpr e2
          simp only [List.lookup, e3, if_neg e2]
  · rintro f s' ⟨rfl, h1, tk1, D, ws, ms, c, rfl, F1, N1, hws, hwl, lD1, lD2⟩
    k_steps
    unfold Hold
    refine' comp_vals (fun _ y => signV y) (by assumption) ?hh ?cl ?ce ?kd ?nm ?hx ?_
    case hh => rfl
    case cl => with_unfolding_all rfl
    case ce => decide
    case kd => rfl
    case nm => decide
    case hx => rfl
    k_steps
    refine ⟨D, ws, c, _, rfl, .head _, ?sz, by assumption, N1, ?elt, ?_⟩
    case sz => rw [sizeLine_eq]; omega
    case elt =>
      intro v hv C oC I oI D2 oD2 m₃ h2 tk2 Q' E' hoC hm F2 N2 hQ
      obtain ⟨k, t, rfl⟩ := ints_mem hws hv
      clear N1 F1
      k_steps
      exact hQ _ _ _ (slice_fmod k _) (by assumption) (by assumption)
    intro D1 us n1 h2 tk2 F2 N2 hne1 hR
    obtain ⟨zs, hzs, hzl, hzz⟩ := signs_of hR
    k_steps
    unfold Hold
    refine join_list (News.isList N2 (.head _)) hzs ?js ?_
    case js =>
      have := sum_le1 hzz
      have e : (Str.ofString "").length = 0 := rfl
      rw [e]; omega
    intro tt kk
    obtain ⟨tx, htx, htl, hts⟩ := join_tx hzz (by omega)
    rw [htx]
    k_steps
    unfold Hold
    refine' comp_vals (fun _ y => ∃ k t, y = Value.int k t) (by assumption) ?hh2 ?cl2 ?ce2 ?kd2 ?nm2 ?hx2 ?_
    case hh2 => rfl
    case cl2 => with_unfolding_all rfl
    case ce2 => decide
    case kd2 => rfl
    case nm2 => decide
    case hx2 => rfl
    k_steps
    have N3 := (by assumption : News _ _ _ _)
    refine ⟨D, ws, c, _, rfl, .tail _ (.head _), ?sz2, by assumption, N3, ?elt2, ?_⟩
    case sz2 => rw [sizeLine_eq]; omega
    case elt2 =>
      intro v hv C oC I oI D2 oD2 m₃ h2 tk2 Q' E' hoC hm F2 N2 hQ
      obtain ⟨k, t, rfl⟩ := ints_mem hws hv
      clear N3
      k_steps
      exact hQ _ _ _ ⟨_, _, rfl⟩ (by assumption) (by assumption)
    intro D2 ks' n2 h3 tk3 F3 N3' hne2 hR2
    obtain ⟨ks, hks, hkl⟩ := ints_of hR2
    k_steps
    unfold Hold
    refine' assign_comp_textK (k := 0) (by assumption) ?hh3 ?sw3 ?cl3 ?ce3 ?kd3 ?nm3 ?hx3 ?hy3 ?hp3 ?_
    case hh3 => rfl
    case sw3 => with_unfolding_all rfl
    case cl3 => with_unfolding_all rfl
    case ce3 => decide
    case kd3 => rfl
    case nm3 => decide
    case hx3 => rfl
    case hy3 => rfl
    case hp3 => rfl
    k_steps
    have N4 := (by assumption : News _ _ _ _)
    refine ⟨_, _, _, rfl, ?sz3, by assumption, N4, elt_const rfl rfl (by decide), ?_⟩
    case sz3 => rw [sizeLine_eq]; omega
    intro D3 vs3 n3 tl3 h4 tk4 F4 N4' hA3 ha1 ha2 ha3
    k_steps
    unfold Hold
    have hf3 : 0 ≤ ks.sum.fmod 3 ∧ ks.sum.fmod 3 < 3 := ⟨Int.fmod_nonneg_of_pos _ (by decide), Int.fmod_lt_of_pos _ (by decide)⟩
    rename_i Y _ _ _ lY _ _ _ rr hh tkr tr ur vr hRange FR NR
    have hYtl := allLt_mem lY.2
    refine iter_law (n := (2 + ks.sum.fmod 3).toNat) rfl hRange ?small ?rsz FR (news_sub NR (n' := (Y, W.listOf (List.toArray []) 0) :: (101, tabObj #[]) :: (84, tabObj #[]) :: ((D3, W.listOf vs3.toArray n3) :: tl3)) ?sub) ?init ?turn ?done
    case small => exact small_one (by decide) (by decide) (by omega) (by omega)
    case rsz => rw [rangeSize_nat]; omega
    case sub =>
      refine all_cons (.head _) (all_cons (.tail _ (.tail _ (List.mem_append_right _ ?_))) (all_cons (.tail _ (.tail _ (List.mem_append_right _ ?_))) (all_cons (.tail _ (.head _)) fun p hp => .tail _ (.tail _ (List.mem_append_left _ hp)))))
      · k_mem
      · k_mem
    case init =>
      refine' ⟨⟨none, none, none, none, tx, _, D3, _, [], 0, [], #[], #[], _, ?m0, rfl, start_law ⟨D3, vs3, _, n3, rfl, .inr (.head _), rfl, rfl, ?pa⟩ htl hts ?off⟩⟩
      case pa =>
        rw [← encP_map _ 0]
        refine hA3.mono fun v p hv => ?_
        obtain ⟨T, o, t, t', n, e, hm, r⟩ := hv
        exact ⟨T, o, t, t', n, e, .inr (.tail _ hm), r⟩
      case off =>
        refine all_cons ⟨Nat.ne_of_lt lY.1, Ne.symm (ha2 (101, tabObj #[]) (by k_mem)), Ne.symm (ha2 (84, tabObj #[]) (by k_mem))⟩ fun q hq => ⟨Nat.ne_of_lt (hYtl q (List.mem_append_left _ hq)), ha3 q hq (101, tabObj #[]) (by k_mem), ha3 q hq (84, tabObj #[]) (by k_mem)⟩
      case m0 =>
        funext z
        by_cases e1 : z = Str.ofString "layers"
        · subst e1; rfl
        · by_cases e2 : z = Str.ofString "items"
          · subst e2; rfl
          · by_cases e3 : z = Str.ofString "code"
            · subst e3; rfl
            · by_cases e4 : z = Str.ofString "text"
              · subst e4; rfl
              · by_cases e5 : z = Str.ofString "numbers"
                · subst e5; rfl
                · by_cases e6 : z = Str.ofString "script"
                  · subst e6; rfl
                  · by_cases e7 : z = Str.ofString "turn"
                    · subst e7; rfl
                    · by_cases e8 : z = Str.ofString "value"
                      · subst e8; rfl
                      · by_cases e9 : z = Str.ofString "lists"
                        · subst e9; rfl
                        · by_cases e10 : z = Str.ofString "bare"
                          · subst e10; rfl
                          · simp only [lawM, if_neg e1, if_neg e2, if_neg e3, if_neg e4, if_neg e5, if_neg e6, if_neg e7, if_neg e8, if_neg e9, if_neg e10]
    case turn =>
      rintro i t m₁ nx h5 tk5 I it hmut hi ho hJ F5 N5
      have hJ5 := hJ
      have hi4 : i < 4 := by omega
      exact turn_walk X' T' (by decide) (by decide) hi4 hJ5 hmut ho F5 N5 fun s' hT => hT
    case done =>
      intro m₁ nx h6 tk6 hJ6 F6 N6
      obtain ⟨⟨u1, u2, u3, u4, tx6, tt6, r6, ys6, lv6, cc6, ms6, p16, p26, tl6, rfl, rfl, S6⟩⟩ := hJ6
      try dsimp only
      repeat' (first | (k_unfold; (try dsimp only)) | (k_end; wrow_close) | walk1 | (dsimp only; walk1) | fail "no step")))
end Mine
end
end
theorem PySem.Challenge.cw_re0054_01_holds : PySem.Challenge.rw_re0054_01.Holds := by
  exact Mine.law_holds
