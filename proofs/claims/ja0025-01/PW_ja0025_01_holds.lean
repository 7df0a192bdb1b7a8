import PyProof.Rows.All
import Wide.All
import OpenK.AllK
import Wide.FinOn
import Lean
import PySem.Challenge.RW_ja0025_01
open PySem PySem.W PySem.Calls PyProof.Rows
set_option Elab.async false
set_option linter.unusedVariables false
set_option linter.unusedSimpArgs false
set_option maxRecDepth 100000
namespace Mine

/-- the top's run over a tree in place of an array -/
noncomputable def topRunT (tb : String → Option Builtin) (p : Program) (w : World) (n₀ : Nat) (ann : Option Value) : Nat → SharedT → Thread → Option SharedT
  | 0, _, _ => none
  | n + 1, s, t => match through t with
    | true => some s
    | false => match stepOk n₀ ann t with
      | false => none
      | true => match stepT (denote tb) p w s t with
        | some (s', t') => topRunT tb p w n₀ ann n s' t'
        | none => none

theorem topRunT_of {tb : String → Option Builtin} {p : Program} {w : World} {n₀ : Nat} {ann : Option Value} :
    ∀ {n : Nat} {s s' : SharedT} {t : Thread}, topRunT tb p w n₀ ann n s t = some s' → topRun tb p w n₀ ann n s.abs t = some s'.abs
  | 0, _, _, _, h => by cases h
  | n + 1, s, s', t, h => by
    unfold topRunT at h
    unfold topRun
    cases ht : through t with
    | true => rw [ht] at h; cases h; rfl
    | false =>
      rw [ht] at h
      cases hk : stepOk n₀ ann t with
      | false => rw [hk] at h; cases h
      | true =>
        rw [hk] at h
        cases hs : stepT (denote tb) p w s t with
        | none => rw [hs] at h; cases h
        | some r =>
          obtain ⟨s₂, t₂⟩ := r
          rw [hs] at h
          rw [stepT_spec hs]
          exact topRunT_of h

noncomputable def treeOf : List Obj → Nat → BT → BT
  | [], _, t => t
  | o :: r, n, t => treeOf r (n + 1) (t.ins n o)

noncomputable def sT (T : BT) (n : Nat) (life : Life) (os : OsState) : SharedT := ⟨T, n, life, Array.mk [], boot_drawn, boot_toks, os⟩

theorem left_tree {p q : Program} {loose : List Str} {Xt : Shared → Bool} {α : Type} {Yf : Shared → α} {Ya : World → α} {N : Nat}
    {T₀ : Params → BT} {n₀ : Nat} {life : Params → Life} {ann : Option Value}
    (e : opening p = plainProg p.main.scope.names) (hN : Nat.ble 600 N = true) (f : ∀ s, fenceModules? p s = some s)
    (b : ∀ P, boot_heap P = absHeap (T₀ P) n₀ (life P))
    (size : ∀ P, ((boot_heap P).isNs mainGlobals, (boot_heap P).objs.size, (boot_heap P).nsMap mainGlobals "__annotations__") = (true, n₀, ann))
    (h : ∀ (w : World) (os : OsState), (topRunT treeTable p w n₀ ann N (sT (T₀ w.params) n₀ (life w.params) os) (topStub p)).map (fun s =>
        ((staticsOk (importedModules p.main.body) (boot_heap w.params) s.abs.heap && namesBound p s.abs.heap && gensDone s.abs && laidKept (boot_heap w.params) s.abs.heap),
          openSeen q loose (importedModules p.main.body) Xt true s.abs, Yf s.abs)) = some (true, openGood q loose, Ya w)) : LeftO p q loose Xt Yf Ya N true := fun w => by
  obtain ⟨⟨hp, gs, d, k, os⟩, e1, e2⟩ := Option.map_eq_some_iff.mp (boot_open e hN f w)
  obtain ⟨rfl, rfl, rfl, rfl⟩ : hp = boot_heap w.params ∧ gs = Array.mk [] ∧ d = boot_drawn ∧ k = boot_toks := by simpa using e2
  obtain ⟨s, r, g⟩ := Option.map_eq_some_iff.mp (h w os)
  have z := size w.params
  simp only [Prod.mk.injEq] at z g
  obtain ⟨z1, z2, z3⟩ := z
  obtain ⟨g1, g2, g3⟩ := g
  have r' := topRunT_of r
  have e0 : (sT (T₀ w.params) n₀ (life w.params) os).abs = (⟨boot_heap w.params, Array.mk [], boot_drawn, boot_toks, os⟩ : Shared) := by
    unfold sT SharedT.abs
    rw [b]
  rw [e0] at r'
  unfold openEnds
  rw [e1]
  show (topFrom treeTable p w N _).map _ = _
  have t : topFrom treeTable p w N ⟨boot_heap w.params, Array.mk [], boot_drawn, boot_toks, os⟩ = some s.abs := by
    unfold topFrom
    dsimp only
    rw [z1, z2, z3, r']
    show (match staticsOk (importedModules p.main.body) (boot_heap w.params) s.abs.heap && namesBound p s.abs.heap && gensDone s.abs && laidKept (boot_heap w.params) s.abs.heap with | true => _ | false => _) = _
    rw [g1]
  rw [t]
  exact congrArg some (Prod.ext g2 g3)

noncomputable def T0 (P : Params) : BT := treeOf (boot_heap P).objs.toList 0 .nil
theorem T0_eq : ∀ P, boot_heap P = absHeap (T0 P) 11 (boot_heap P).life := fun _ => by kernel_rfl!
theorem e_open : opening PySem.Challenge.pw_ja0025_01 = plainProg PySem.Challenge.pw_ja0025_01.main.scope.names := by kernel_rfl!
theorem f_open : ∀ s, fenceModules? PySem.Challenge.pw_ja0025_01 s = some s := fun _ => by kernel_rfl!
theorem size0 : ∀ P, ((boot_heap P).isNs mainGlobals, (boot_heap P).objs.size, (boot_heap P).nsMap mainGlobals "__annotations__") = (true, 11, some (.ref 6)) := fun _ => by kernel_rfl!
set_option maxRecDepth 100000 in
set_option maxHeartbeats 8000000 in
noncomputable def fdOf (l : List Stmt) (i : Nat) : Option (Arguments × List Stmt × Scope) := match l[i]? with
  | some (.FunctionDef (args := a) (body := b) (scope := s) ..) => some (a, b, s)
  | _ => none
noncomputable def o2 : Obj := ⟨Value.none, none, Data.dict #[], #[]⟩
noncomputable def o3 (P : Params) : Obj := ⟨Value.type "dict", none, Data.dict #[{ hash := PyData.keyHash P (Str.ofString "__name__"), key := Value.str (Str.ofString "__name__") 165, val := Value.str (Str.ofString "law_ja0025_01") 772 }, { hash := PyData.keyHash P (Str.ofString "__doc__"), key := Value.str (Str.ofString "__doc__") 166, val := Value.none }, { hash := PyData.keyHash P (Str.ofString "__package__"), key := Value.str (Str.ofString "__package__") 167, val := Value.none }, { hash := PyData.keyHash P (Str.ofString "__loader__"), key := Value.str (Str.ofString "__loader__") 168, val := Value.builtin "__main__.__loader__#opaque" }, { hash := PyData.keyHash P (Str.ofString "__spec__"), key := Value.str (Str.ofString "__spec__") 169, val := Value.none }, { hash := PyData.keyHash P (Str.ofString "__annotations__"), key := Value.str (Str.ofString "__annotations__") 170, val := Value.ref 6 }, { hash := PyData.keyHash P (Str.ofString "__builtins__"), key := Value.str (Str.ofString "__builtins__") 171, val := Value.ref 4 }, { hash := PyData.keyHash P (Str.ofString "__file__"), key := Value.str (Str.ofString "__file__") 173, val := Value.str (Str.ofString "/claim/cut.py") 172 }, { hash := PyData.keyHash P (Str.ofString "__cached__"), key := Value.str (Str.ofString "__cached__") 174, val := Value.none }, { hash := PyData.keyHash P (Str.ofString "isleap"), key := Value.str (Str.ofString "isleap") 195, val := Value.ref 21 }, { hash := PyData.keyHash P (Str.ofString "trunc"), key := Value.str (Str.ofString "trunc") 204, val := Value.ref 28 }, { hash := PyData.keyHash P (Str.ofString "EPOCH_gregorian"), key := Value.str (Str.ofString "EPOCH_gregorian") 208, val := Value.int 1721426 207 }, { hash := PyData.keyHash P (Str.ofString "INTERCALATION_CYCLE_YEARS"), key := Value.str (Str.ofString "INTERCALATION_CYCLE_YEARS") 210, val := Value.int 400 209 }, { hash := PyData.keyHash P (Str.ofString "INTERCALATION_CYCLE_DAYS"), key := Value.str (Str.ofString "INTERCALATION_CYCLE_DAYS") 212, val := Value.int 146097 211 }, { hash := PyData.keyHash P (Str.ofString "LEAP_SUPPRESSION_YEARS"), key := Value.str (Str.ofString "LEAP_SUPPRESSION_YEARS") 214, val := Value.int 100 213 }, { hash := PyData.keyHash P (Str.ofString "LEAP_SUPPRESSION_DAYS"), key := Value.str (Str.ofString "LEAP_SUPPRESSION_DAYS") 216, val := Value.int 36524 215 }, { hash := PyData.keyHash P (Str.ofString "LEAP_CYCLE_YEARS"), key := Value.str (Str.ofString "LEAP_CYCLE_YEARS") 218, val := Value.int 4 217 }, { hash := PyData.keyHash P (Str.ofString "LEAP_CYCLE_DAYS"), key := Value.str (Str.ofString "LEAP_CYCLE_DAYS") 220, val := Value.int 1461 219 }, { hash := PyData.keyHash P (Str.ofString "YEAR_DAYS"), key := Value.str (Str.ofString "YEAR_DAYS") 222, val := Value.int 365 221 }, { hash := PyData.keyHash P (Str.ofString "HAVE_30_DAYS_gregorian"), key := Value.str (Str.ofString "HAVE_30_DAYS_gregorian") 227, val := Value.ref 29 }, { hash := PyData.keyHash P (Str.ofString "legal_date"), key := Value.str (Str.ofString "legal_date") 237, val := Value.ref 310 }, { hash := PyData.keyHash P (Str.ofString "legal_date_gregorian"), key := Value.str (Str.ofString "legal_date_gregorian") 238, val := Value.ref 36 }, { hash := PyData.keyHash P (Str.ofString "to_jd"), key := Value.str (Str.ofString "to_jd") 248, val := Value.ref 317 }, { hash := PyData.keyHash P (Str.ofString "to_jd_gregorian"), key := Value.str (Str.ofString "to_jd_gregorian") 249, val := Value.ref 43 }, { hash := PyData.keyHash P (Str.ofString "from_jd"), key := Value.str (Str.ofString "from_jd") 271, val := Value.ref 324 }, { hash := PyData.keyHash P (Str.ofString "from_jd_gregorian"), key := Value.str (Str.ofString "from_jd_gregorian") 272, val := Value.ref 50 }, { hash := PyData.keyHash P (Str.ofString "HAVE_30_DAYS_julian"), key := Value.str (Str.ofString "HAVE_30_DAYS_julian") 279, val := Value.ref 51 }, { hash := PyData.keyHash P (Str.ofString "leap"), key := Value.str (Str.ofString "leap") 286, val := Value.ref 115 }, { hash := PyData.keyHash P (Str.ofString "leap_julian"), key := Value.str (Str.ofString "leap_julian") 287, val := Value.ref 58 }, { hash := PyData.keyHash P (Str.ofString "month_length"), key := Value.str (Str.ofString "month_length") 296, val := Value.ref 65 }, { hash := PyData.keyHash P (Str.ofString "legal_date_julian"), key := Value.str (Str.ofString "legal_date_julian") 307, val := Value.ref 72 }, { hash := PyData.keyHash P (Str.ofString "from_jd_julian"), key := Value.str (Str.ofString "from_jd_julian") 323, val := Value.ref 79 }, { hash := PyData.keyHash P (Str.ofString "to_jd_julian"), key := Value.str (Str.ofString "to_jd_julian") 333, val := Value.ref 86 }, { hash := PyData.keyHash P (Str.ofString "from_gregorian"), key := Value.str (Str.ofString "from_gregorian") 342, val := Value.ref 331 }, { hash := PyData.keyHash P (Str.ofString "from_gregorian_julian"), key := Value.str (Str.ofString "from_gregorian_julian") 343, val := Value.ref 93 }, { hash := PyData.keyHash P (Str.ofString "to_gregorian"), key := Value.str (Str.ofString "to_gregorian") 352, val := Value.ref 338 }, { hash := PyData.keyHash P (Str.ofString "to_gregorian_julian"), key := Value.str (Str.ofString "to_gregorian_julian") 353, val := Value.ref 100 }, { hash := PyData.keyHash P (Str.ofString "EPOCH_armenian"), key := Value.str (Str.ofString "EPOCH_armenian") 357, val := Value.int 1922502 356 }, { hash := PyData.keyHash P (Str.ofString "EPOCH_SARKAWAG"), key := Value.str (Str.ofString "EPOCH_SARKAWAG") 359, val := Value.int 2117211 358 }, { hash := PyData.keyHash P (Str.ofString "_valid_date"), key := Value.str (Str.ofString "_valid_date") 373, val := Value.ref 108 }, { hash := PyData.keyHash P (Str.ofString "leap_armenian"), key := Value.str (Str.ofString "leap_armenian") 381, val := Value.ref 115 }, { hash := PyData.keyHash P (Str.ofString "to_jd_armenian"), key := Value.str (Str.ofString "to_jd_armenian") 395, val := Value.ref 123 }, { hash := PyData.keyHash P (Str.ofString "from_jd_armenian"), key := Value.str (Str.ofString "from_jd_armenian") 409, val := Value.ref 131 }, { hash := PyData.keyHash P (Str.ofString "to_julian"), key := Value.str (Str.ofString "to_julian") 419, val := Value.ref 139 }, { hash := PyData.keyHash P (Str.ofString "from_julian"), key := Value.str (Str.ofString "from_julian") 429, val := Value.ref 147 }, { hash := PyData.keyHash P (Str.ofString "to_gregorian_armenian"), key := Value.str (Str.ofString "to_gregorian_armenian") 440, val := Value.ref 155 }, { hash := PyData.keyHash P (Str.ofString "from_gregorian_armenian"), key := Value.str (Str.ofString "from_gregorian_armenian") 451, val := Value.ref 163 }, { hash := PyData.keyHash P (Str.ofString "EPOCH_coptic"), key := Value.str (Str.ofString "EPOCH_coptic") 455, val := Value.int 1825030 454 }, { hash := PyData.keyHash P (Str.ofString "to_jd_coptic"), key := Value.str (Str.ofString "to_jd_coptic") 465, val := Value.ref 170 }, { hash := PyData.keyHash P (Str.ofString "from_jd_coptic"), key := Value.str (Str.ofString "from_jd_coptic") 477, val := Value.ref 177 }, { hash := PyData.keyHash P (Str.ofString "to_gregorian_coptic"), key := Value.str (Str.ofString "to_gregorian_coptic") 487, val := Value.ref 184 }, { hash := PyData.keyHash P (Str.ofString "from_gregorian_coptic"), key := Value.str (Str.ofString "from_gregorian_coptic") 497, val := Value.ref 191 }, { hash := PyData.keyHash P (Str.ofString "SAKA_EPOCH"), key := Value.str (Str.ofString "SAKA_EPOCH") 501, val := Value.int 78 500 }, { hash := PyData.keyHash P (Str.ofString "to_jd_indian_civil"), key := Value.str (Str.ofString "to_jd_indian_civil") 517, val := Value.ref 198 }, { hash := PyData.keyHash P (Str.ofString "from_jd_indian_civil"), key := Value.str (Str.ofString "from_jd_indian_civil") 536, val := Value.ref 205 }, { hash := PyData.keyHash P (Str.ofString "from_gregorian_indian_civil"), key := Value.str (Str.ofString "from_gregorian_indian_civil") 546, val := Value.ref 212 }, { hash := PyData.keyHash P (Str.ofString "to_gregorian_indian_civil"), key := Value.str (Str.ofString "to_gregorian_indian_civil") 556, val := Value.ref 219 }, { hash := PyData.keyHash P (Str.ofString "EPOCH_islamic"), key := Value.str (Str.ofString "EPOCH_islamic") 560, val := Value.int 1948440 559 }, { hash := PyData.keyHash P (Str.ofString "to_jd_islamic"), key := Value.str (Str.ofString "to_jd_islamic") 570, val := Value.ref 226 }, { hash := PyData.keyHash P (Str.ofString "from_jd_islamic"), key := Value.str (Str.ofString "from_jd_islamic") 581, val := Value.ref 233 }, { hash := PyData.keyHash P (Str.ofString "from_gregorian_islamic"), key := Value.str (Str.ofString "from_gregorian_islamic") 591, val := Value.ref 240 }, { hash := PyData.keyHash P (Str.ofString "to_gregorian_islamic"), key := Value.str (Str.ofString "to_gregorian_islamic") 601, val := Value.ref 247 }, { hash := PyData.keyHash P (Str.ofString "EPOCH_mayan"), key := Value.str (Str.ofString "EPOCH_mayan") 605, val := Value.int 584283 604 }, { hash := PyData.keyHash P (Str.ofString "to_jd_mayan"), key := Value.str (Str.ofString "to_jd_mayan") 617, val := Value.ref 254 }, { hash := PyData.keyHash P (Str.ofString "from_jd_mayan"), key := Value.str (Str.ofString "from_jd_mayan") 631, val := Value.ref 261 }, { hash := PyData.keyHash P (Str.ofString "to_gregorian_mayan"), key := Value.str (Str.ofString "to_gregorian_mayan") 644, val := Value.ref 268 }, { hash := PyData.keyHash P (Str.ofString "from_gregorian_mayan"), key := Value.str (Str.ofString "from_gregorian_mayan") 655, val := Value.ref 275 }, { hash := PyData.keyHash P (Str.ofString "to_jd_ordinal"), key := Value.str (Str.ofString "to_jd_ordinal") 666, val := Value.ref 282 }, { hash := PyData.keyHash P (Str.ofString "from_jd_ordinal"), key := Value.str (Str.ofString "from_jd_ordinal") 677, val := Value.ref 289 }, { hash := PyData.keyHash P (Str.ofString "from_gregorian_ordinal"), key := Value.str (Str.ofString "from_gregorian_ordinal") 690, val := Value.ref 296 }, { hash := PyData.keyHash P (Str.ofString "to_gregorian_ordinal"), key := Value.str (Str.ofString "to_gregorian_ordinal") 703, val := Value.ref 303 }, { hash := PyData.keyHash P (Str.ofString "EPOCH_positivist"), key := Value.str (Str.ofString "EPOCH_positivist") 707, val := Value.int 2374480 706 }, { hash := PyData.keyHash P (Str.ofString "YEAR_EPOCH"), key := Value.str (Str.ofString "YEAR_EPOCH") 709, val := Value.int 1789 708 }, { hash := PyData.keyHash P (Str.ofString "legal_date_positivist"), key := Value.str (Str.ofString "legal_date_positivist") 720, val := Value.ref 310 }, { hash := PyData.keyHash P (Str.ofString "to_jd_positivist"), key := Value.str (Str.ofString "to_jd_positivist") 731, val := Value.ref 317 }, { hash := PyData.keyHash P (Str.ofString "from_jd_positivist"), key := Value.str (Str.ofString "from_jd_positivist") 751, val := Value.ref 324 }, { hash := PyData.keyHash P (Str.ofString "from_gregorian_positivist"), key := Value.str (Str.ofString "from_gregorian_positivist") 761, val := Value.ref 331 }, { hash := PyData.keyHash P (Str.ofString "to_gregorian_positivist"), key := Value.str (Str.ofString "to_gregorian_positivist") 771, val := Value.ref 338 }, { hash := PyData.keyHash P (Str.ofString "_law_cell"), key := Value.str (Str.ofString "_law_cell") 781, val := Value.ref 345 }, { hash := PyData.keyHash P (Str.ofString "_law_year"), key := Value.str (Str.ofString "_law_year") 788, val := Value.ref 352 }, { hash := PyData.keyHash P (Str.ofString "_law_gregorian"), key := Value.str (Str.ofString "_law_gregorian") 801, val := Value.ref 359 }, { hash := PyData.keyHash P (Str.ofString "_law_long"), key := Value.str (Str.ofString "_law_long") 808, val := Value.ref 366 }, { hash := PyData.keyHash P (Str.ofString "_law_sizes"), key := Value.str (Str.ofString "_law_sizes") 815, val := Value.ref 373 }, { hash := PyData.keyHash P (Str.ofString "_law_january"), key := Value.str (Str.ofString "_law_january") 824, val := Value.ref 380 }, { hash := PyData.keyHash P (Str.ofString "_law_julian"), key := Value.str (Str.ofString "_law_julian") 837, val := Value.ref 387 }, { hash := PyData.keyHash P (Str.ofString "_law_islamic"), key := Value.str (Str.ofString "_law_islamic") 850, val := Value.ref 394 }, { hash := PyData.keyHash P (Str.ofString "_law_thirties"), key := Value.str (Str.ofString "_law_thirties") 858, val := Value.ref 401 }, { hash := PyData.keyHash P (Str.ofString "_law_fours"), key := Value.str (Str.ofString "_law_fours") 871, val := Value.ref 408 }, { hash := PyData.keyHash P (Str.ofString "_law_indian"), key := Value.str (Str.ofString "_law_indian") 882, val := Value.ref 415 }, { hash := PyData.keyHash P (Str.ofString "_law_longcount"), key := Value.str (Str.ofString "_law_longcount") 892, val := Value.ref 422 }, { hash := PyData.keyHash P (Str.ofString "_law_refused"), key := Value.str (Str.ofString "_law_refused") 900, val := Value.ref 429 }, { hash := PyData.keyHash P (Str.ofString "_law_first_five"), key := Value.str (Str.ofString "_law_first_five") 912, val := Value.ref 436 }, { hash := PyData.keyHash P (Str.ofString "_law_armenians"), key := Value.str (Str.ofString "_law_armenians") 926, val := Value.ref 443 }, { hash := PyData.keyHash P (Str.ofString "_law_last_two"), key := Value.str (Str.ofString "_law_last_two") 938, val := Value.ref 450 }, { hash := PyData.keyHash P (Str.ofString "law"), key := Value.str (Str.ofString "law") 952, val := Value.ref 457 }] 95, #[]⟩
noncomputable def o20 : Obj := ⟨Value.type "code", none, Data.fields #[Value.str (Str.ofString "isleap") 189, Value.str (Str.ofString "isleap") 190, Value.str (Str.ofString "/claim/cut.py") 191, Value.int 2 0, Value.int 1 0, Value.int 0 0, Value.int 0 0, Value.int 3 0, Value.ref 15, Value.bool true, Value.int 181 0, Value.ref 16, Value.none, Value.ref 17, Value.ref 18, Value.ref 19, Value.int 193 0, Value.int 2 0, Value.str (Str.ofString "/claim/cut.py") 194], #[]⟩
noncomputable def o21 : {o : Obj // (fdOf PySem.Challenge.pw_ja0025_01.main.body 1).map (fun x => (⟨Value.type "function", none, .func ⟨Str.ofString "isleap", Str.ofString "isleap", x.1, .stmts x.2.1, x.2.2, 3, [], Value.none, Value.none, Value.none, Value.str (Str.ofString "convertdate.utils") 187, none, Value.ref 20, Value.none, 0⟩, #[]⟩ : Obj)) = some o} := ⟨⟨_, _, .func ⟨_, _, _, _, _, _, _, _, _, _, _, _, _, _, _⟩, _⟩, rfl⟩
noncomputable def o27 : Obj := ⟨Value.type "code", none, Data.fields #[Value.str (Str.ofString "trunc") 196, Value.str (Str.ofString "trunc") 197, Value.str (Str.ofString "/claim/cut.py") 198, Value.int 4 0, Value.int 2 0, Value.int 0 0, Value.int 0 0, Value.int 3 0, Value.ref 22, Value.bool true, Value.int 181 0, Value.ref 23, Value.none, Value.ref 24, Value.ref 25, Value.ref 26, Value.int 202 0, Value.int 4 0, Value.str (Str.ofString "/claim/cut.py") 203], #[]⟩
noncomputable def o28 : {o : Obj // (fdOf PySem.Challenge.pw_ja0025_01.main.body 2).map (fun x => (⟨Value.type "function", none, .func ⟨Str.ofString "trunc", Str.ofString "trunc", x.1, .stmts x.2.1, x.2.2, 3, [], Value.none, Value.none, Value.none, Value.str (Str.ofString "convertdate.utils") 187, none, Value.ref 27, Value.none, 0⟩, #[]⟩ : Obj)) = some o} := ⟨⟨_, _, .func ⟨_, _, _, _, _, _, _, _, _, _, _, _, _, _, _⟩, _⟩, rfl⟩
noncomputable def o29 : Obj := ⟨Value.type "tuple", none, Data.seq #[Value.int 4 223, Value.int 6 224, Value.int 9 225, Value.int 11 226], #[]⟩
noncomputable def o35 : Obj := ⟨Value.type "code", none, Data.fields #[Value.str (Str.ofString "legal_date") 228, Value.str (Str.ofString "legal_date") 229, Value.str (Str.ofString "/claim/cut.py") 230, Value.int 17 0, Value.int 3 0, Value.int 0 0, Value.int 0 0, Value.int 3 0, Value.ref 30, Value.bool true, Value.int 181 0, Value.ref 31, Value.none, Value.ref 32, Value.ref 33, Value.ref 34, Value.int 235 0, Value.int 17 0, Value.str (Str.ofString "/claim/cut.py") 236], #[]⟩
noncomputable def o36 : {o : Obj // (fdOf PySem.Challenge.pw_ja0025_01.main.body 13).map (fun x => (⟨Value.type "function", none, .func ⟨Str.ofString "legal_date", Str.ofString "legal_date", x.1, .stmts x.2.1, x.2.2, 3, [], Value.none, Value.none, Value.none, Value.str (Str.ofString "convertdate.gregorian") 205, none, Value.ref 35, Value.none, 0⟩, #[]⟩ : Obj)) = some o} := ⟨⟨_, _, .func ⟨_, _, _, _, _, _, _, _, _, _, _, _, _, _, _⟩, _⟩, rfl⟩
noncomputable def o42 : Obj := ⟨Value.type "code", none, Data.fields #[Value.str (Str.ofString "to_jd") 239, Value.str (Str.ofString "to_jd") 240, Value.str (Str.ofString "/claim/cut.py") 241, Value.int 26 0, Value.int 3 0, Value.int 0 0, Value.int 0 0, Value.int 3 0, Value.ref 37, Value.bool true, Value.int 181 0, Value.ref 38, Value.none, Value.ref 39, Value.ref 40, Value.ref 41, Value.int 246 0, Value.int 26 0, Value.str (Str.ofString "/claim/cut.py") 247], #[]⟩
noncomputable def o43 : {o : Obj // (fdOf PySem.Challenge.pw_ja0025_01.main.body 15).map (fun x => (⟨Value.type "function", none, .func ⟨Str.ofString "to_jd", Str.ofString "to_jd", x.1, .stmts x.2.1, x.2.2, 3, [], Value.none, Value.none, Value.none, Value.str (Str.ofString "convertdate.gregorian") 205, none, Value.ref 42, Value.none, 0⟩, #[]⟩ : Obj)) = some o} := ⟨⟨_, _, .func ⟨_, _, _, _, _, _, _, _, _, _, _, _, _, _, _⟩, _⟩, rfl⟩
noncomputable def o49 : Obj := ⟨Value.type "code", none, Data.fields #[Value.str (Str.ofString "from_jd") 250, Value.str (Str.ofString "from_jd") 251, Value.str (Str.ofString "/claim/cut.py") 252, Value.int 36 0, Value.int 1 0, Value.int 0 0, Value.int 0 0, Value.int 3 0, Value.ref 44, Value.bool true, Value.int 181 0, Value.ref 45, Value.none, Value.ref 46, Value.ref 47, Value.ref 48, Value.int 269 0, Value.int 36 0, Value.str (Str.ofString "/claim/cut.py") 270], #[]⟩
noncomputable def o50 : {o : Obj // (fdOf PySem.Challenge.pw_ja0025_01.main.body 17).map (fun x => (⟨Value.type "function", none, .func ⟨Str.ofString "from_jd", Str.ofString "from_jd", x.1, .stmts x.2.1, x.2.2, 3, [], Value.none, Value.none, Value.none, Value.str (Str.ofString "convertdate.gregorian") 205, none, Value.ref 49, Value.none, 0⟩, #[]⟩ : Obj)) = some o} := ⟨⟨_, _, .func ⟨_, _, _, _, _, _, _, _, _, _, _, _, _, _, _⟩, _⟩, rfl⟩
noncomputable def o51 : Obj := ⟨Value.type "tuple", none, Data.seq #[Value.int 4 275, Value.int 6 276, Value.int 9 277, Value.int 11 278], #[]⟩
noncomputable def o57 : Obj := ⟨Value.type "code", none, Data.fields #[Value.str (Str.ofString "leap") 280, Value.str (Str.ofString "leap") 281, Value.str (Str.ofString "/claim/cut.py") 282, Value.int 63 0, Value.int 1 0, Value.int 0 0, Value.int 0 0, Value.int 3 0, Value.ref 52, Value.bool true, Value.int 181 0, Value.ref 53, Value.none, Value.ref 54, Value.ref 55, Value.ref 56, Value.int 284 0, Value.int 63 0, Value.str (Str.ofString "/claim/cut.py") 285], #[]⟩
noncomputable def o58 : {o : Obj // (fdOf PySem.Challenge.pw_ja0025_01.main.body 21).map (fun x => (⟨Value.type "function", none, .func ⟨Str.ofString "leap", Str.ofString "leap", x.1, .stmts x.2.1, x.2.2, 3, [], Value.none, Value.none, Value.none, Value.str (Str.ofString "convertdate.julian") 273, none, Value.ref 57, Value.none, 0⟩, #[]⟩ : Obj)) = some o} := ⟨⟨_, _, .func ⟨_, _, _, _, _, _, _, _, _, _, _, _, _, _, _⟩, _⟩, rfl⟩
noncomputable def o64 : Obj := ⟨Value.type "code", none, Data.fields #[Value.str (Str.ofString "month_length") 288, Value.str (Str.ofString "month_length") 289, Value.str (Str.ofString "/claim/cut.py") 290, Value.int 66 0, Value.int 2 0, Value.int 0 0, Value.int 0 0, Value.int 3 0, Value.ref 59, Value.bool true, Value.int 181 0, Value.ref 60, Value.none, Value.ref 61, Value.ref 62, Value.ref 63, Value.int 294 0, Value.int 66 0, Value.str (Str.ofString "/claim/cut.py") 295], #[]⟩
noncomputable def o65 : {o : Obj // (fdOf PySem.Challenge.pw_ja0025_01.main.body 23).map (fun x => (⟨Value.type "function", none, .func ⟨Str.ofString "month_length", Str.ofString "month_length", x.1, .stmts x.2.1, x.2.2, 3, [], Value.none, Value.none, Value.none, Value.str (Str.ofString "convertdate.julian") 273, none, Value.ref 64, Value.none, 0⟩, #[]⟩ : Obj)) = some o} := ⟨⟨_, _, .func ⟨_, _, _, _, _, _, _, _, _, _, _, _, _, _, _⟩, _⟩, rfl⟩
noncomputable def o71 : Obj := ⟨Value.type "code", none, Data.fields #[Value.str (Str.ofString "legal_date") 297, Value.str (Str.ofString "legal_date") 298, Value.str (Str.ofString "/claim/cut.py") 299, Value.int 72 0, Value.int 3 0, Value.int 0 0, Value.int 0 0, Value.int 3 0, Value.ref 66, Value.bool true, Value.int 181 0, Value.ref 67, Value.none, Value.ref 68, Value.ref 69, Value.ref 70, Value.int 304 0, Value.int 72 0, Value.str (Str.ofString "/claim/cut.py") 305], #[]⟩
noncomputable def o72 : {o : Obj // (fdOf PySem.Challenge.pw_ja0025_01.main.body 24).map (fun x => (⟨Value.type "function", none, .func ⟨Str.ofString "legal_date", Str.ofString "legal_date", x.1, .stmts x.2.1, x.2.2, 3, [], Value.none, Value.none, Value.none, Value.str (Str.ofString "convertdate.julian") 273, none, Value.ref 71, Value.none, 0⟩, #[]⟩ : Obj)) = some o} := ⟨⟨_, _, .func ⟨_, _, _, _, _, _, _, _, _, _, _, _, _, _, _⟩, _⟩, rfl⟩
noncomputable def o78 : Obj := ⟨Value.type "code", none, Data.fields #[Value.str (Str.ofString "from_jd") 308, Value.str (Str.ofString "from_jd") 309, Value.str (Str.ofString "/claim/cut.py") 310, Value.int 78 0, Value.int 1 0, Value.int 0 0, Value.int 0 0, Value.int 3 0, Value.ref 73, Value.bool true, Value.int 181 0, Value.ref 74, Value.none, Value.ref 75, Value.ref 76, Value.ref 77, Value.int 320 0, Value.int 78 0, Value.str (Str.ofString "/claim/cut.py") 321], #[]⟩
noncomputable def o79 : {o : Obj // (fdOf PySem.Challenge.pw_ja0025_01.main.body 26).map (fun x => (⟨Value.type "function", none, .func ⟨Str.ofString "from_jd", Str.ofString "from_jd", x.1, .stmts x.2.1, x.2.2, 3, [], Value.none, Value.none, Value.none, Value.str (Str.ofString "convertdate.julian") 273, none, Value.ref 78, Value.none, 0⟩, #[]⟩ : Obj)) = some o} := ⟨⟨_, _, .func ⟨_, _, _, _, _, _, _, _, _, _, _, _, _, _, _⟩, _⟩, rfl⟩
noncomputable def o85 : Obj := ⟨Value.type "code", none, Data.fields #[Value.str (Str.ofString "to_jd") 324, Value.str (Str.ofString "to_jd") 325, Value.str (Str.ofString "/claim/cut.py") 326, Value.int 95 0, Value.int 3 0, Value.int 0 0, Value.int 0 0, Value.int 3 0, Value.ref 80, Value.bool true, Value.int 181 0, Value.ref 81, Value.none, Value.ref 82, Value.ref 83, Value.ref 84, Value.int 330 0, Value.int 95 0, Value.str (Str.ofString "/claim/cut.py") 331], #[]⟩
noncomputable def o86 : {o : Obj // (fdOf PySem.Challenge.pw_ja0025_01.main.body 28).map (fun x => (⟨Value.type "function", none, .func ⟨Str.ofString "to_jd", Str.ofString "to_jd", x.1, .stmts x.2.1, x.2.2, 3, [], Value.none, Value.none, Value.none, Value.str (Str.ofString "convertdate.julian") 273, none, Value.ref 85, Value.none, 0⟩, #[]⟩ : Obj)) = some o} := ⟨⟨_, _, .func ⟨_, _, _, _, _, _, _, _, _, _, _, _, _, _, _⟩, _⟩, rfl⟩
noncomputable def o92 : Obj := ⟨Value.type "code", none, Data.fields #[Value.str (Str.ofString "from_gregorian") 334, Value.str (Str.ofString "from_gregorian") 335, Value.str (Str.ofString "/claim/cut.py") 336, Value.int 102 0, Value.int 3 0, Value.int 0 0, Value.int 0 0, Value.int 3 0, Value.ref 87, Value.bool true, Value.int 181 0, Value.ref 88, Value.none, Value.ref 89, Value.ref 90, Value.ref 91, Value.int 340 0, Value.int 102 0, Value.str (Str.ofString "/claim/cut.py") 341], #[]⟩
noncomputable def o93 : {o : Obj // (fdOf PySem.Challenge.pw_ja0025_01.main.body 30).map (fun x => (⟨Value.type "function", none, .func ⟨Str.ofString "from_gregorian", Str.ofString "from_gregorian", x.1, .stmts x.2.1, x.2.2, 3, [], Value.none, Value.none, Value.none, Value.str (Str.ofString "convertdate.julian") 273, none, Value.ref 92, Value.none, 0⟩, #[]⟩ : Obj)) = some o} := ⟨⟨_, _, .func ⟨_, _, _, _, _, _, _, _, _, _, _, _, _, _, _⟩, _⟩, rfl⟩
noncomputable def o99 : Obj := ⟨Value.type "code", none, Data.fields #[Value.str (Str.ofString "to_gregorian") 344, Value.str (Str.ofString "to_gregorian") 345, Value.str (Str.ofString "/claim/cut.py") 346, Value.int 105 0, Value.int 3 0, Value.int 0 0, Value.int 0 0, Value.int 3 0, Value.ref 94, Value.bool true, Value.int 181 0, Value.ref 95, Value.none, Value.ref 96, Value.ref 97, Value.ref 98, Value.int 350 0, Value.int 105 0, Value.str (Str.ofString "/claim/cut.py") 351], #[]⟩
noncomputable def o100 : {o : Obj // (fdOf PySem.Challenge.pw_ja0025_01.main.body 32).map (fun x => (⟨Value.type "function", none, .func ⟨Str.ofString "to_gregorian", Str.ofString "to_gregorian", x.1, .stmts x.2.1, x.2.2, 3, [], Value.none, Value.none, Value.none, Value.str (Str.ofString "convertdate.julian") 273, none, Value.ref 99, Value.none, 0⟩, #[]⟩ : Obj)) = some o} := ⟨⟨_, _, .func ⟨_, _, _, _, _, _, _, _, _, _, _, _, _, _, _⟩, _⟩, rfl⟩
noncomputable def o101 : Obj := ⟨Value.type "tuple", none, Data.seq #[Value.none], #[]⟩
noncomputable def o107 : Obj := ⟨Value.type "code", none, Data.fields #[Value.str (Str.ofString "_valid_date") 360, Value.str (Str.ofString "_valid_date") 361, Value.str (Str.ofString "/claim/cut.py") 362, Value.int 111 0, Value.int 4 0, Value.int 0 0, Value.int 0 0, Value.int 3 0, Value.ref 102, Value.bool true, Value.int 181 0, Value.ref 103, Value.none, Value.ref 104, Value.ref 105, Value.ref 106, Value.int 371 0, Value.int 111 0, Value.str (Str.ofString "/claim/cut.py") 372], #[]⟩
noncomputable def o108 : {o : Obj // (fdOf PySem.Challenge.pw_ja0025_01.main.body 37).map (fun x => (⟨Value.type "function", none, .func ⟨Str.ofString "_valid_date", Str.ofString "_valid_date", x.1, .stmts x.2.1, x.2.2, 3, [], Value.ref 101, Value.none, Value.none, Value.str (Str.ofString "convertdate.armenian") 354, none, Value.ref 107, Value.none, 0⟩, #[]⟩ : Obj)) = some o} := ⟨⟨_, _, .func ⟨_, _, _, _, _, _, _, _, _, _, _, _, _, _, _⟩, _⟩, rfl⟩
noncomputable def o114 : Obj := ⟨Value.type "code", none, Data.fields #[Value.str (Str.ofString "leap") 374, Value.str (Str.ofString "leap") 375, Value.str (Str.ofString "/claim/cut.py") 376, Value.int 135 0, Value.int 1 0, Value.int 0 0, Value.int 0 0, Value.int 3 0, Value.ref 109, Value.bool true, Value.int 181 0, Value.ref 110, Value.none, Value.ref 111, Value.ref 112, Value.ref 113, Value.int 378 0, Value.int 135 0, Value.str (Str.ofString "/claim/cut.py") 379], #[]⟩
noncomputable def o115 : {o : Obj // (fdOf PySem.Challenge.pw_ja0025_01.main.body 38).map (fun x => (⟨Value.type "function", none, .func ⟨Str.ofString "leap", Str.ofString "leap", x.1, .stmts x.2.1, x.2.2, 3, [], Value.none, Value.none, Value.none, Value.str (Str.ofString "convertdate.armenian") 354, none, Value.ref 114, Value.none, 0⟩, #[]⟩ : Obj)) = some o} := ⟨⟨_, _, .func ⟨_, _, _, _, _, _, _, _, _, _, _, _, _, _, _⟩, _⟩, rfl⟩
noncomputable def o116 : Obj := ⟨Value.type "tuple", none, Data.seq #[Value.none], #[]⟩
noncomputable def o122 : Obj := ⟨Value.type "code", none, Data.fields #[Value.str (Str.ofString "to_jd") 382, Value.str (Str.ofString "to_jd") 383, Value.str (Str.ofString "/claim/cut.py") 384, Value.int 140 0, Value.int 4 0, Value.int 0 0, Value.int 0 0, Value.int 3 0, Value.ref 117, Value.bool true, Value.int 181 0, Value.ref 118, Value.none, Value.ref 119, Value.ref 120, Value.ref 121, Value.int 392 0, Value.int 140 0, Value.str (Str.ofString "/claim/cut.py") 393], #[]⟩
noncomputable def o123 : {o : Obj // (fdOf PySem.Challenge.pw_ja0025_01.main.body 40).map (fun x => (⟨Value.type "function", none, .func ⟨Str.ofString "to_jd", Str.ofString "to_jd", x.1, .stmts x.2.1, x.2.2, 3, [], Value.ref 116, Value.none, Value.none, Value.str (Str.ofString "convertdate.armenian") 354, none, Value.ref 122, Value.none, 0⟩, #[]⟩ : Obj)) = some o} := ⟨⟨_, _, .func ⟨_, _, _, _, _, _, _, _, _, _, _, _, _, _, _⟩, _⟩, rfl⟩
noncomputable def o124 : Obj := ⟨Value.type "tuple", none, Data.seq #[Value.none], #[]⟩
noncomputable def o130 : Obj := ⟨Value.type "code", none, Data.fields #[Value.str (Str.ofString "from_jd") 396, Value.str (Str.ofString "from_jd") 397, Value.str (Str.ofString "/claim/cut.py") 398, Value.int 149 0, Value.int 2 0, Value.int 0 0, Value.int 0 0, Value.int 3 0, Value.ref 125, Value.bool true, Value.int 181 0, Value.ref 126, Value.none, Value.ref 127, Value.ref 128, Value.ref 129, Value.int 406 0, Value.int 149 0, Value.str (Str.ofString "/claim/cut.py") 407], #[]⟩
noncomputable def o131 : {o : Obj // (fdOf PySem.Challenge.pw_ja0025_01.main.body 42).map (fun x => (⟨Value.type "function", none, .func ⟨Str.ofString "from_jd", Str.ofString "from_jd", x.1, .stmts x.2.1, x.2.2, 3, [], Value.ref 124, Value.none, Value.none, Value.str (Str.ofString "convertdate.armenian") 354, none, Value.ref 130, Value.none, 0⟩, #[]⟩ : Obj)) = some o} := ⟨⟨_, _, .func ⟨_, _, _, _, _, _, _, _, _, _, _, _, _, _, _⟩, _⟩, rfl⟩
noncomputable def o132 : Obj := ⟨Value.type "tuple", none, Data.seq #[Value.none], #[]⟩
noncomputable def o138 : Obj := ⟨Value.type "code", none, Data.fields #[Value.str (Str.ofString "to_julian") 410, Value.str (Str.ofString "to_julian") 411, Value.str (Str.ofString "/claim/cut.py") 412, Value.int 170 0, Value.int 4 0, Value.int 0 0, Value.int 0 0, Value.int 3 0, Value.ref 133, Value.bool true, Value.int 181 0, Value.ref 134, Value.none, Value.ref 135, Value.ref 136, Value.ref 137, Value.int 417 0, Value.int 170 0, Value.str (Str.ofString "/claim/cut.py") 418], #[]⟩
noncomputable def o139 : {o : Obj // (fdOf PySem.Challenge.pw_ja0025_01.main.body 44).map (fun x => (⟨Value.type "function", none, .func ⟨Str.ofString "to_julian", Str.ofString "to_julian", x.1, .stmts x.2.1, x.2.2, 3, [], Value.ref 132, Value.none, Value.none, Value.str (Str.ofString "convertdate.armenian") 354, none, Value.ref 138, Value.none, 0⟩, #[]⟩ : Obj)) = some o} := ⟨⟨_, _, .func ⟨_, _, _, _, _, _, _, _, _, _, _, _, _, _, _⟩, _⟩, rfl⟩
noncomputable def o140 : Obj := ⟨Value.type "tuple", none, Data.seq #[Value.none], #[]⟩
noncomputable def o146 : Obj := ⟨Value.type "code", none, Data.fields #[Value.str (Str.ofString "from_julian") 420, Value.str (Str.ofString "from_julian") 421, Value.str (Str.ofString "/claim/cut.py") 422, Value.int 172 0, Value.int 4 0, Value.int 0 0, Value.int 0 0, Value.int 3 0, Value.ref 141, Value.bool true, Value.int 181 0, Value.ref 142, Value.none, Value.ref 143, Value.ref 144, Value.ref 145, Value.int 427 0, Value.int 172 0, Value.str (Str.ofString "/claim/cut.py") 428], #[]⟩
noncomputable def o147 : {o : Obj // (fdOf PySem.Challenge.pw_ja0025_01.main.body 45).map (fun x => (⟨Value.type "function", none, .func ⟨Str.ofString "from_julian", Str.ofString "from_julian", x.1, .stmts x.2.1, x.2.2, 3, [], Value.ref 140, Value.none, Value.none, Value.str (Str.ofString "convertdate.armenian") 354, none, Value.ref 146, Value.none, 0⟩, #[]⟩ : Obj)) = some o} := ⟨⟨_, _, .func ⟨_, _, _, _, _, _, _, _, _, _, _, _, _, _, _⟩, _⟩, rfl⟩
noncomputable def o148 : Obj := ⟨Value.type "tuple", none, Data.seq #[Value.none], #[]⟩
noncomputable def o154 : Obj := ⟨Value.type "code", none, Data.fields #[Value.str (Str.ofString "to_gregorian") 430, Value.str (Str.ofString "to_gregorian") 431, Value.str (Str.ofString "/claim/cut.py") 432, Value.int 174 0, Value.int 4 0, Value.int 0 0, Value.int 0 0, Value.int 3 0, Value.ref 149, Value.bool true, Value.int 181 0, Value.ref 150, Value.none, Value.ref 151, Value.ref 152, Value.ref 153, Value.int 437 0, Value.int 174 0, Value.str (Str.ofString "/claim/cut.py") 438], #[]⟩
noncomputable def o155 : {o : Obj // (fdOf PySem.Challenge.pw_ja0025_01.main.body 46).map (fun x => (⟨Value.type "function", none, .func ⟨Str.ofString "to_gregorian", Str.ofString "to_gregorian", x.1, .stmts x.2.1, x.2.2, 3, [], Value.ref 148, Value.none, Value.none, Value.str (Str.ofString "convertdate.armenian") 354, none, Value.ref 154, Value.none, 0⟩, #[]⟩ : Obj)) = some o} := ⟨⟨_, _, .func ⟨_, _, _, _, _, _, _, _, _, _, _, _, _, _, _⟩, _⟩, rfl⟩
noncomputable def o156 : Obj := ⟨Value.type "tuple", none, Data.seq #[Value.none], #[]⟩
noncomputable def o162 : Obj := ⟨Value.type "code", none, Data.fields #[Value.str (Str.ofString "from_gregorian") 441, Value.str (Str.ofString "from_gregorian") 442, Value.str (Str.ofString "/claim/cut.py") 443, Value.int 177 0, Value.int 4 0, Value.int 0 0, Value.int 0 0, Value.int 3 0, Value.ref 157, Value.bool true, Value.int 181 0, Value.ref 158, Value.none, Value.ref 159, Value.ref 160, Value.ref 161, Value.int 448 0, Value.int 177 0, Value.str (Str.ofString "/claim/cut.py") 449], #[]⟩
noncomputable def o163 : {o : Obj // (fdOf PySem.Challenge.pw_ja0025_01.main.body 48).map (fun x => (⟨Value.type "function", none, .func ⟨Str.ofString "from_gregorian", Str.ofString "from_gregorian", x.1, .stmts x.2.1, x.2.2, 3, [], Value.ref 156, Value.none, Value.none, Value.str (Str.ofString "convertdate.armenian") 354, none, Value.ref 162, Value.none, 0⟩, #[]⟩ : Obj)) = some o} := ⟨⟨_, _, .func ⟨_, _, _, _, _, _, _, _, _, _, _, _, _, _, _⟩, _⟩, rfl⟩
noncomputable def o169 : Obj := ⟨Value.type "code", none, Data.fields #[Value.str (Str.ofString "to_jd") 456, Value.str (Str.ofString "to_jd") 457, Value.str (Str.ofString "/claim/cut.py") 458, Value.int 182 0, Value.int 3 0, Value.int 0 0, Value.int 0 0, Value.int 3 0, Value.ref 164, Value.bool true, Value.int 181 0, Value.ref 165, Value.none, Value.ref 166, Value.ref 167, Value.ref 168, Value.int 462 0, Value.int 182 0, Value.str (Str.ofString "/claim/cut.py") 463], #[]⟩
noncomputable def o170 : {o : Obj // (fdOf PySem.Challenge.pw_ja0025_01.main.body 52).map (fun x => (⟨Value.type "function", none, .func ⟨Str.ofString "to_jd", Str.ofString "to_jd", x.1, .stmts x.2.1, x.2.2, 3, [], Value.none, Value.none, Value.none, Value.str (Str.ofString "convertdate.coptic") 452, none, Value.ref 169, Value.none, 0⟩, #[]⟩ : Obj)) = some o} := ⟨⟨_, _, .func ⟨_, _, _, _, _, _, _, _, _, _, _, _, _, _, _⟩, _⟩, rfl⟩
noncomputable def o176 : Obj := ⟨Value.type "code", none, Data.fields #[Value.str (Str.ofString "from_jd") 466, Value.str (Str.ofString "from_jd") 467, Value.str (Str.ofString "/claim/cut.py") 468, Value.int 185 0, Value.int 1 0, Value.int 0 0, Value.int 0 0, Value.int 3 0, Value.ref 171, Value.bool true, Value.int 181 0, Value.ref 172, Value.none, Value.ref 173, Value.ref 174, Value.ref 175, Value.int 474 0, Value.int 185 0, Value.str (Str.ofString "/claim/cut.py") 475], #[]⟩
noncomputable def o177 : {o : Obj // (fdOf PySem.Challenge.pw_ja0025_01.main.body 54).map (fun x => (⟨Value.type "function", none, .func ⟨Str.ofString "from_jd", Str.ofString "from_jd", x.1, .stmts x.2.1, x.2.2, 3, [], Value.none, Value.none, Value.none, Value.str (Str.ofString "convertdate.coptic") 452, none, Value.ref 176, Value.none, 0⟩, #[]⟩ : Obj)) = some o} := ⟨⟨_, _, .func ⟨_, _, _, _, _, _, _, _, _, _, _, _, _, _, _⟩, _⟩, rfl⟩
noncomputable def o183 : Obj := ⟨Value.type "code", none, Data.fields #[Value.str (Str.ofString "to_gregorian") 478, Value.str (Str.ofString "to_gregorian") 479, Value.str (Str.ofString "/claim/cut.py") 480, Value.int 192 0, Value.int 3 0, Value.int 0 0, Value.int 0 0, Value.int 3 0, Value.ref 178, Value.bool true, Value.int 181 0, Value.ref 179, Value.none, Value.ref 180, Value.ref 181, Value.ref 182, Value.int 484 0, Value.int 192 0, Value.str (Str.ofString "/claim/cut.py") 485], #[]⟩
noncomputable def o184 : {o : Obj // (fdOf PySem.Challenge.pw_ja0025_01.main.body 56).map (fun x => (⟨Value.type "function", none, .func ⟨Str.ofString "to_gregorian", Str.ofString "to_gregorian", x.1, .stmts x.2.1, x.2.2, 3, [], Value.none, Value.none, Value.none, Value.str (Str.ofString "convertdate.coptic") 452, none, Value.ref 183, Value.none, 0⟩, #[]⟩ : Obj)) = some o} := ⟨⟨_, _, .func ⟨_, _, _, _, _, _, _, _, _, _, _, _, _, _, _⟩, _⟩, rfl⟩
noncomputable def o190 : Obj := ⟨Value.type "code", none, Data.fields #[Value.str (Str.ofString "from_gregorian") 488, Value.str (Str.ofString "from_gregorian") 489, Value.str (Str.ofString "/claim/cut.py") 490, Value.int 195 0, Value.int 3 0, Value.int 0 0, Value.int 0 0, Value.int 3 0, Value.ref 185, Value.bool true, Value.int 181 0, Value.ref 186, Value.none, Value.ref 187, Value.ref 188, Value.ref 189, Value.int 494 0, Value.int 195 0, Value.str (Str.ofString "/claim/cut.py") 495], #[]⟩
noncomputable def o191 : {o : Obj // (fdOf PySem.Challenge.pw_ja0025_01.main.body 58).map (fun x => (⟨Value.type "function", none, .func ⟨Str.ofString "from_gregorian", Str.ofString "from_gregorian", x.1, .stmts x.2.1, x.2.2, 3, [], Value.none, Value.none, Value.none, Value.str (Str.ofString "convertdate.coptic") 452, none, Value.ref 190, Value.none, 0⟩, #[]⟩ : Obj)) = some o} := ⟨⟨_, _, .func ⟨_, _, _, _, _, _, _, _, _, _, _, _, _, _, _⟩, _⟩, rfl⟩
noncomputable def o197 : Obj := ⟨Value.type "code", none, Data.fields #[Value.str (Str.ofString "to_jd") 502, Value.str (Str.ofString "to_jd") 503, Value.str (Str.ofString "/claim/cut.py") 504, Value.int 200 0, Value.int 3 0, Value.int 0 0, Value.int 0 0, Value.int 3 0, Value.ref 192, Value.bool true, Value.int 181 0, Value.ref 193, Value.none, Value.ref 194, Value.ref 195, Value.ref 196, Value.int 514 0, Value.int 200 0, Value.str (Str.ofString "/claim/cut.py") 515], #[]⟩
noncomputable def o198 : {o : Obj // (fdOf PySem.Challenge.pw_ja0025_01.main.body 62).map (fun x => (⟨Value.type "function", none, .func ⟨Str.ofString "to_jd", Str.ofString "to_jd", x.1, .stmts x.2.1, x.2.2, 3, [], Value.none, Value.none, Value.none, Value.str (Str.ofString "convertdate.indian_civil") 498, none, Value.ref 197, Value.none, 0⟩, #[]⟩ : Obj)) = some o} := ⟨⟨_, _, .func ⟨_, _, _, _, _, _, _, _, _, _, _, _, _, _, _⟩, _⟩, rfl⟩
noncomputable def o204 : Obj := ⟨Value.type "code", none, Data.fields #[Value.str (Str.ofString "from_jd") 518, Value.str (Str.ofString "from_jd") 519, Value.str (Str.ofString "/claim/cut.py") 520, Value.int 221 0, Value.int 1 0, Value.int 0 0, Value.int 0 0, Value.int 3 0, Value.ref 199, Value.bool true, Value.int 181 0, Value.ref 200, Value.none, Value.ref 201, Value.ref 202, Value.ref 203, Value.int 533 0, Value.int 221 0, Value.str (Str.ofString "/claim/cut.py") 534], #[]⟩
noncomputable def o205 : {o : Obj // (fdOf PySem.Challenge.pw_ja0025_01.main.body 64).map (fun x => (⟨Value.type "function", none, .func ⟨Str.ofString "from_jd", Str.ofString "from_jd", x.1, .stmts x.2.1, x.2.2, 3, [], Value.none, Value.none, Value.none, Value.str (Str.ofString "convertdate.indian_civil") 498, none, Value.ref 204, Value.none, 0⟩, #[]⟩ : Obj)) = some o} := ⟨⟨_, _, .func ⟨_, _, _, _, _, _, _, _, _, _, _, _, _, _, _⟩, _⟩, rfl⟩
noncomputable def o211 : Obj := ⟨Value.type "code", none, Data.fields #[Value.str (Str.ofString "from_gregorian") 537, Value.str (Str.ofString "from_gregorian") 538, Value.str (Str.ofString "/claim/cut.py") 539, Value.int 250 0, Value.int 3 0, Value.int 0 0, Value.int 0 0, Value.int 3 0, Value.ref 206, Value.bool true, Value.int 181 0, Value.ref 207, Value.none, Value.ref 208, Value.ref 209, Value.ref 210, Value.int 543 0, Value.int 250 0, Value.str (Str.ofString "/claim/cut.py") 544], #[]⟩
noncomputable def o212 : {o : Obj // (fdOf PySem.Challenge.pw_ja0025_01.main.body 66).map (fun x => (⟨Value.type "function", none, .func ⟨Str.ofString "from_gregorian", Str.ofString "from_gregorian", x.1, .stmts x.2.1, x.2.2, 3, [], Value.none, Value.none, Value.none, Value.str (Str.ofString "convertdate.indian_civil") 498, none, Value.ref 211, Value.none, 0⟩, #[]⟩ : Obj)) = some o} := ⟨⟨_, _, .func ⟨_, _, _, _, _, _, _, _, _, _, _, _, _, _, _⟩, _⟩, rfl⟩
noncomputable def o218 : Obj := ⟨Value.type "code", none, Data.fields #[Value.str (Str.ofString "to_gregorian") 547, Value.str (Str.ofString "to_gregorian") 548, Value.str (Str.ofString "/claim/cut.py") 549, Value.int 253 0, Value.int 3 0, Value.int 0 0, Value.int 0 0, Value.int 3 0, Value.ref 213, Value.bool true, Value.int 181 0, Value.ref 214, Value.none, Value.ref 215, Value.ref 216, Value.ref 217, Value.int 553 0, Value.int 253 0, Value.str (Str.ofString "/claim/cut.py") 554], #[]⟩
noncomputable def o219 : {o : Obj // (fdOf PySem.Challenge.pw_ja0025_01.main.body 68).map (fun x => (⟨Value.type "function", none, .func ⟨Str.ofString "to_gregorian", Str.ofString "to_gregorian", x.1, .stmts x.2.1, x.2.2, 3, [], Value.none, Value.none, Value.none, Value.str (Str.ofString "convertdate.indian_civil") 498, none, Value.ref 218, Value.none, 0⟩, #[]⟩ : Obj)) = some o} := ⟨⟨_, _, .func ⟨_, _, _, _, _, _, _, _, _, _, _, _, _, _, _⟩, _⟩, rfl⟩
noncomputable def o225 : Obj := ⟨Value.type "code", none, Data.fields #[Value.str (Str.ofString "to_jd") 561, Value.str (Str.ofString "to_jd") 562, Value.str (Str.ofString "/claim/cut.py") 563, Value.int 258 0, Value.int 3 0, Value.int 0 0, Value.int 0 0, Value.int 3 0, Value.ref 220, Value.bool true, Value.int 181 0, Value.ref 221, Value.none, Value.ref 222, Value.ref 223, Value.ref 224, Value.int 567 0, Value.int 258 0, Value.str (Str.ofString "/claim/cut.py") 568], #[]⟩
noncomputable def o226 : {o : Obj // (fdOf PySem.Challenge.pw_ja0025_01.main.body 72).map (fun x => (⟨Value.type "function", none, .func ⟨Str.ofString "to_jd", Str.ofString "to_jd", x.1, .stmts x.2.1, x.2.2, 3, [], Value.none, Value.none, Value.none, Value.str (Str.ofString "convertdate.islamic") 557, none, Value.ref 225, Value.none, 0⟩, #[]⟩ : Obj)) = some o} := ⟨⟨_, _, .func ⟨_, _, _, _, _, _, _, _, _, _, _, _, _, _, _⟩, _⟩, rfl⟩
noncomputable def o232 : Obj := ⟨Value.type "code", none, Data.fields #[Value.str (Str.ofString "from_jd") 571, Value.str (Str.ofString "from_jd") 572, Value.str (Str.ofString "/claim/cut.py") 573, Value.int 261 0, Value.int 1 0, Value.int 0 0, Value.int 0 0, Value.int 3 0, Value.ref 227, Value.bool true, Value.int 181 0, Value.ref 228, Value.none, Value.ref 229, Value.ref 230, Value.ref 231, Value.int 578 0, Value.int 261 0, Value.str (Str.ofString "/claim/cut.py") 579], #[]⟩
noncomputable def o233 : {o : Obj // (fdOf PySem.Challenge.pw_ja0025_01.main.body 74).map (fun x => (⟨Value.type "function", none, .func ⟨Str.ofString "from_jd", Str.ofString "from_jd", x.1, .stmts x.2.1, x.2.2, 3, [], Value.none, Value.none, Value.none, Value.str (Str.ofString "convertdate.islamic") 557, none, Value.ref 232, Value.none, 0⟩, #[]⟩ : Obj)) = some o} := ⟨⟨_, _, .func ⟨_, _, _, _, _, _, _, _, _, _, _, _, _, _, _⟩, _⟩, rfl⟩
noncomputable def o239 : Obj := ⟨Value.type "code", none, Data.fields #[Value.str (Str.ofString "from_gregorian") 582, Value.str (Str.ofString "from_gregorian") 583, Value.str (Str.ofString "/claim/cut.py") 584, Value.int 267 0, Value.int 3 0, Value.int 0 0, Value.int 0 0, Value.int 3 0, Value.ref 234, Value.bool true, Value.int 181 0, Value.ref 235, Value.none, Value.ref 236, Value.ref 237, Value.ref 238, Value.int 588 0, Value.int 267 0, Value.str (Str.ofString "/claim/cut.py") 589], #[]⟩
noncomputable def o240 : {o : Obj // (fdOf PySem.Challenge.pw_ja0025_01.main.body 76).map (fun x => (⟨Value.type "function", none, .func ⟨Str.ofString "from_gregorian", Str.ofString "from_gregorian", x.1, .stmts x.2.1, x.2.2, 3, [], Value.none, Value.none, Value.none, Value.str (Str.ofString "convertdate.islamic") 557, none, Value.ref 239, Value.none, 0⟩, #[]⟩ : Obj)) = some o} := ⟨⟨_, _, .func ⟨_, _, _, _, _, _, _, _, _, _, _, _, _, _, _⟩, _⟩, rfl⟩
noncomputable def o246 : Obj := ⟨Value.type "code", none, Data.fields #[Value.str (Str.ofString "to_gregorian") 592, Value.str (Str.ofString "to_gregorian") 593, Value.str (Str.ofString "/claim/cut.py") 594, Value.int 270 0, Value.int 3 0, Value.int 0 0, Value.int 0 0, Value.int 3 0, Value.ref 241, Value.bool true, Value.int 181 0, Value.ref 242, Value.none, Value.ref 243, Value.ref 244, Value.ref 245, Value.int 598 0, Value.int 270 0, Value.str (Str.ofString "/claim/cut.py") 599], #[]⟩
noncomputable def o247 : {o : Obj // (fdOf PySem.Challenge.pw_ja0025_01.main.body 78).map (fun x => (⟨Value.type "function", none, .func ⟨Str.ofString "to_gregorian", Str.ofString "to_gregorian", x.1, .stmts x.2.1, x.2.2, 3, [], Value.none, Value.none, Value.none, Value.str (Str.ofString "convertdate.islamic") 557, none, Value.ref 246, Value.none, 0⟩, #[]⟩ : Obj)) = some o} := ⟨⟨_, _, .func ⟨_, _, _, _, _, _, _, _, _, _, _, _, _, _, _⟩, _⟩, rfl⟩
noncomputable def o253 : Obj := ⟨Value.type "code", none, Data.fields #[Value.str (Str.ofString "to_jd") 606, Value.str (Str.ofString "to_jd") 607, Value.str (Str.ofString "/claim/cut.py") 608, Value.int 275 0, Value.int 5 0, Value.int 0 0, Value.int 0 0, Value.int 3 0, Value.ref 248, Value.bool true, Value.int 181 0, Value.ref 249, Value.none, Value.ref 250, Value.ref 251, Value.ref 252, Value.int 614 0, Value.int 275 0, Value.str (Str.ofString "/claim/cut.py") 615], #[]⟩
noncomputable def o254 : {o : Obj // (fdOf PySem.Challenge.pw_ja0025_01.main.body 82).map (fun x => (⟨Value.type "function", none, .func ⟨Str.ofString "to_jd", Str.ofString "to_jd", x.1, .stmts x.2.1, x.2.2, 3, [], Value.none, Value.none, Value.none, Value.str (Str.ofString "convertdate.mayan") 602, none, Value.ref 253, Value.none, 0⟩, #[]⟩ : Obj)) = some o} := ⟨⟨_, _, .func ⟨_, _, _, _, _, _, _, _, _, _, _, _, _, _, _⟩, _⟩, rfl⟩
noncomputable def o260 : Obj := ⟨Value.type "code", none, Data.fields #[Value.str (Str.ofString "from_jd") 618, Value.str (Str.ofString "from_jd") 619, Value.str (Str.ofString "/claim/cut.py") 620, Value.int 278 0, Value.int 1 0, Value.int 0 0, Value.int 0 0, Value.int 3 0, Value.ref 255, Value.bool true, Value.int 181 0, Value.ref 256, Value.none, Value.ref 257, Value.ref 258, Value.ref 259, Value.int 628 0, Value.int 278 0, Value.str (Str.ofString "/claim/cut.py") 629], #[]⟩
noncomputable def o261 : {o : Obj // (fdOf PySem.Challenge.pw_ja0025_01.main.body 84).map (fun x => (⟨Value.type "function", none, .func ⟨Str.ofString "from_jd", Str.ofString "from_jd", x.1, .stmts x.2.1, x.2.2, 3, [], Value.none, Value.none, Value.none, Value.str (Str.ofString "convertdate.mayan") 602, none, Value.ref 260, Value.none, 0⟩, #[]⟩ : Obj)) = some o} := ⟨⟨_, _, .func ⟨_, _, _, _, _, _, _, _, _, _, _, _, _, _, _⟩, _⟩, rfl⟩
noncomputable def o267 : Obj := ⟨Value.type "code", none, Data.fields #[Value.str (Str.ofString "to_gregorian") 632, Value.str (Str.ofString "to_gregorian") 633, Value.str (Str.ofString "/claim/cut.py") 634, Value.int 292 0, Value.int 5 0, Value.int 0 0, Value.int 0 0, Value.int 3 0, Value.ref 262, Value.bool true, Value.int 181 0, Value.ref 263, Value.none, Value.ref 264, Value.ref 265, Value.ref 266, Value.int 641 0, Value.int 292 0, Value.str (Str.ofString "/claim/cut.py") 642], #[]⟩
noncomputable def o268 : {o : Obj // (fdOf PySem.Challenge.pw_ja0025_01.main.body 86).map (fun x => (⟨Value.type "function", none, .func ⟨Str.ofString "to_gregorian", Str.ofString "to_gregorian", x.1, .stmts x.2.1, x.2.2, 3, [], Value.none, Value.none, Value.none, Value.str (Str.ofString "convertdate.mayan") 602, none, Value.ref 267, Value.none, 0⟩, #[]⟩ : Obj)) = some o} := ⟨⟨_, _, .func ⟨_, _, _, _, _, _, _, _, _, _, _, _, _, _, _⟩, _⟩, rfl⟩
noncomputable def o274 : Obj := ⟨Value.type "code", none, Data.fields #[Value.str (Str.ofString "from_gregorian") 645, Value.str (Str.ofString "from_gregorian") 646, Value.str (Str.ofString "/claim/cut.py") 647, Value.int 296 0, Value.int 3 0, Value.int 0 0, Value.int 0 0, Value.int 3 0, Value.ref 269, Value.bool true, Value.int 181 0, Value.ref 270, Value.none, Value.ref 271, Value.ref 272, Value.ref 273, Value.int 652 0, Value.int 296 0, Value.str (Str.ofString "/claim/cut.py") 653], #[]⟩
noncomputable def o275 : {o : Obj // (fdOf PySem.Challenge.pw_ja0025_01.main.body 88).map (fun x => (⟨Value.type "function", none, .func ⟨Str.ofString "from_gregorian", Str.ofString "from_gregorian", x.1, .stmts x.2.1, x.2.2, 3, [], Value.none, Value.none, Value.none, Value.str (Str.ofString "convertdate.mayan") 602, none, Value.ref 274, Value.none, 0⟩, #[]⟩ : Obj)) = some o} := ⟨⟨_, _, .func ⟨_, _, _, _, _, _, _, _, _, _, _, _, _, _, _⟩, _⟩, rfl⟩
noncomputable def o281 : Obj := ⟨Value.type "code", none, Data.fields #[Value.str (Str.ofString "to_jd") 658, Value.str (Str.ofString "to_jd") 659, Value.str (Str.ofString "/claim/cut.py") 660, Value.int 301 0, Value.int 2 0, Value.int 0 0, Value.int 0 0, Value.int 3 0, Value.ref 276, Value.bool true, Value.int 181 0, Value.ref 277, Value.none, Value.ref 278, Value.ref 279, Value.ref 280, Value.int 663 0, Value.int 301 0, Value.str (Str.ofString "/claim/cut.py") 664], #[]⟩
noncomputable def o282 : {o : Obj // (fdOf PySem.Challenge.pw_ja0025_01.main.body 91).map (fun x => (⟨Value.type "function", none, .func ⟨Str.ofString "to_jd", Str.ofString "to_jd", x.1, .stmts x.2.1, x.2.2, 3, [], Value.none, Value.none, Value.none, Value.str (Str.ofString "convertdate.ordinal") 656, none, Value.ref 281, Value.none, 0⟩, #[]⟩ : Obj)) = some o} := ⟨⟨_, _, .func ⟨_, _, _, _, _, _, _, _, _, _, _, _, _, _, _⟩, _⟩, rfl⟩
noncomputable def o288 : Obj := ⟨Value.type "code", none, Data.fields #[Value.str (Str.ofString "from_jd") 667, Value.str (Str.ofString "from_jd") 668, Value.str (Str.ofString "/claim/cut.py") 669, Value.int 304 0, Value.int 1 0, Value.int 0 0, Value.int 0 0, Value.int 3 0, Value.ref 283, Value.bool true, Value.int 181 0, Value.ref 284, Value.none, Value.ref 285, Value.ref 286, Value.ref 287, Value.int 674 0, Value.int 304 0, Value.str (Str.ofString "/claim/cut.py") 675], #[]⟩
noncomputable def o289 : {o : Obj // (fdOf PySem.Challenge.pw_ja0025_01.main.body 93).map (fun x => (⟨Value.type "function", none, .func ⟨Str.ofString "from_jd", Str.ofString "from_jd", x.1, .stmts x.2.1, x.2.2, 3, [], Value.none, Value.none, Value.none, Value.str (Str.ofString "convertdate.ordinal") 656, none, Value.ref 288, Value.none, 0⟩, #[]⟩ : Obj)) = some o} := ⟨⟨_, _, .func ⟨_, _, _, _, _, _, _, _, _, _, _, _, _, _, _⟩, _⟩, rfl⟩
noncomputable def o295 : Obj := ⟨Value.type "code", none, Data.fields #[Value.str (Str.ofString "from_gregorian") 678, Value.str (Str.ofString "from_gregorian") 679, Value.str (Str.ofString "/claim/cut.py") 680, Value.int 308 0, Value.int 3 0, Value.int 0 0, Value.int 0 0, Value.int 3 0, Value.ref 290, Value.bool true, Value.int 181 0, Value.ref 291, Value.none, Value.ref 292, Value.ref 293, Value.ref 294, Value.int 687 0, Value.int 308 0, Value.str (Str.ofString "/claim/cut.py") 688], #[]⟩
noncomputable def o296 : {o : Obj // (fdOf PySem.Challenge.pw_ja0025_01.main.body 95).map (fun x => (⟨Value.type "function", none, .func ⟨Str.ofString "from_gregorian", Str.ofString "from_gregorian", x.1, .stmts x.2.1, x.2.2, 3, [], Value.none, Value.none, Value.none, Value.str (Str.ofString "convertdate.ordinal") 656, none, Value.ref 295, Value.none, 0⟩, #[]⟩ : Obj)) = some o} := ⟨⟨_, _, .func ⟨_, _, _, _, _, _, _, _, _, _, _, _, _, _, _⟩, _⟩, rfl⟩
noncomputable def o302 : Obj := ⟨Value.type "code", none, Data.fields #[Value.str (Str.ofString "to_gregorian") 691, Value.str (Str.ofString "to_gregorian") 692, Value.str (Str.ofString "/claim/cut.py") 693, Value.int 318 0, Value.int 2 0, Value.int 0 0, Value.int 0 0, Value.int 3 0, Value.ref 297, Value.bool true, Value.int 181 0, Value.ref 298, Value.none, Value.ref 299, Value.ref 300, Value.ref 301, Value.int 700 0, Value.int 318 0, Value.str (Str.ofString "/claim/cut.py") 701], #[]⟩
noncomputable def o303 : {o : Obj // (fdOf PySem.Challenge.pw_ja0025_01.main.body 97).map (fun x => (⟨Value.type "function", none, .func ⟨Str.ofString "to_gregorian", Str.ofString "to_gregorian", x.1, .stmts x.2.1, x.2.2, 3, [], Value.none, Value.none, Value.none, Value.str (Str.ofString "convertdate.ordinal") 656, none, Value.ref 302, Value.none, 0⟩, #[]⟩ : Obj)) = some o} := ⟨⟨_, _, .func ⟨_, _, _, _, _, _, _, _, _, _, _, _, _, _, _⟩, _⟩, rfl⟩
noncomputable def o309 : Obj := ⟨Value.type "code", none, Data.fields #[Value.str (Str.ofString "legal_date") 710, Value.str (Str.ofString "legal_date") 711, Value.str (Str.ofString "/claim/cut.py") 712, Value.int 333 0, Value.int 3 0, Value.int 0 0, Value.int 0 0, Value.int 3 0, Value.ref 304, Value.bool true, Value.int 181 0, Value.ref 305, Value.none, Value.ref 306, Value.ref 307, Value.ref 308, Value.int 717 0, Value.int 333 0, Value.str (Str.ofString "/claim/cut.py") 718], #[]⟩
noncomputable def o310 : {o : Obj // (fdOf PySem.Challenge.pw_ja0025_01.main.body 102).map (fun x => (⟨Value.type "function", none, .func ⟨Str.ofString "legal_date", Str.ofString "legal_date", x.1, .stmts x.2.1, x.2.2, 3, [], Value.none, Value.none, Value.none, Value.str (Str.ofString "convertdate.positivist") 704, none, Value.ref 309, Value.none, 0⟩, #[]⟩ : Obj)) = some o} := ⟨⟨_, _, .func ⟨_, _, _, _, _, _, _, _, _, _, _, _, _, _, _⟩, _⟩, rfl⟩
noncomputable def o316 : Obj := ⟨Value.type "code", none, Data.fields #[Value.str (Str.ofString "to_jd") 721, Value.str (Str.ofString "to_jd") 722, Value.str (Str.ofString "/claim/cut.py") 723, Value.int 347 0, Value.int 3 0, Value.int 0 0, Value.int 0 0, Value.int 3 0, Value.ref 311, Value.bool true, Value.int 181 0, Value.ref 312, Value.none, Value.ref 313, Value.ref 314, Value.ref 315, Value.int 728 0, Value.int 347 0, Value.str (Str.ofString "/claim/cut.py") 729], #[]⟩
noncomputable def o317 : {o : Obj // (fdOf PySem.Challenge.pw_ja0025_01.main.body 104).map (fun x => (⟨Value.type "function", none, .func ⟨Str.ofString "to_jd", Str.ofString "to_jd", x.1, .stmts x.2.1, x.2.2, 3, [], Value.none, Value.none, Value.none, Value.str (Str.ofString "convertdate.positivist") 704, none, Value.ref 316, Value.none, 0⟩, #[]⟩ : Obj)) = some o} := ⟨⟨_, _, .func ⟨_, _, _, _, _, _, _, _, _, _, _, _, _, _, _⟩, _⟩, rfl⟩
noncomputable def o323 : Obj := ⟨Value.type "code", none, Data.fields #[Value.str (Str.ofString "from_jd") 732, Value.str (Str.ofString "from_jd") 733, Value.str (Str.ofString "/claim/cut.py") 734, Value.int 352 0, Value.int 1 0, Value.int 0 0, Value.int 0 0, Value.int 3 0, Value.ref 318, Value.bool true, Value.int 181 0, Value.ref 319, Value.none, Value.ref 320, Value.ref 321, Value.ref 322, Value.int 748 0, Value.int 352 0, Value.str (Str.ofString "/claim/cut.py") 749], #[]⟩
noncomputable def o324 : {o : Obj // (fdOf PySem.Challenge.pw_ja0025_01.main.body 106).map (fun x => (⟨Value.type "function", none, .func ⟨Str.ofString "from_jd", Str.ofString "from_jd", x.1, .stmts x.2.1, x.2.2, 3, [], Value.none, Value.none, Value.none, Value.str (Str.ofString "convertdate.positivist") 704, none, Value.ref 323, Value.none, 0⟩, #[]⟩ : Obj)) = some o} := ⟨⟨_, _, .func ⟨_, _, _, _, _, _, _, _, _, _, _, _, _, _, _⟩, _⟩, rfl⟩
noncomputable def o330 : Obj := ⟨Value.type "code", none, Data.fields #[Value.str (Str.ofString "from_gregorian") 752, Value.str (Str.ofString "from_gregorian") 753, Value.str (Str.ofString "/claim/cut.py") 754, Value.int 374 0, Value.int 3 0, Value.int 0 0, Value.int 0 0, Value.int 3 0, Value.ref 325, Value.bool true, Value.int 181 0, Value.ref 326, Value.none, Value.ref 327, Value.ref 328, Value.ref 329, Value.int 758 0, Value.int 374 0, Value.str (Str.ofString "/claim/cut.py") 759], #[]⟩
noncomputable def o331 : {o : Obj // (fdOf PySem.Challenge.pw_ja0025_01.main.body 108).map (fun x => (⟨Value.type "function", none, .func ⟨Str.ofString "from_gregorian", Str.ofString "from_gregorian", x.1, .stmts x.2.1, x.2.2, 3, [], Value.none, Value.none, Value.none, Value.str (Str.ofString "convertdate.positivist") 704, none, Value.ref 330, Value.none, 0⟩, #[]⟩ : Obj)) = some o} := ⟨⟨_, _, .func ⟨_, _, _, _, _, _, _, _, _, _, _, _, _, _, _⟩, _⟩, rfl⟩
noncomputable def o337 : Obj := ⟨Value.type "code", none, Data.fields #[Value.str (Str.ofString "to_gregorian") 762, Value.str (Str.ofString "to_gregorian") 763, Value.str (Str.ofString "/claim/cut.py") 764, Value.int 377 0, Value.int 3 0, Value.int 0 0, Value.int 0 0, Value.int 3 0, Value.ref 332, Value.bool true, Value.int 181 0, Value.ref 333, Value.none, Value.ref 334, Value.ref 335, Value.ref 336, Value.int 768 0, Value.int 377 0, Value.str (Str.ofString "/claim/cut.py") 769], #[]⟩
noncomputable def o338 : {o : Obj // (fdOf PySem.Challenge.pw_ja0025_01.main.body 110).map (fun x => (⟨Value.type "function", none, .func ⟨Str.ofString "to_gregorian", Str.ofString "to_gregorian", x.1, .stmts x.2.1, x.2.2, 3, [], Value.none, Value.none, Value.none, Value.str (Str.ofString "convertdate.positivist") 704, none, Value.ref 337, Value.none, 0⟩, #[]⟩ : Obj)) = some o} := ⟨⟨_, _, .func ⟨_, _, _, _, _, _, _, _, _, _, _, _, _, _, _⟩, _⟩, rfl⟩
noncomputable def o344 : Obj := ⟨Value.type "code", none, Data.fields #[Value.str (Str.ofString "_law_cell") 774, Value.str (Str.ofString "_law_cell") 775, Value.str (Str.ofString "/claim/cut.py") 776, Value.int 381 0, Value.int 2 0, Value.int 0 0, Value.int 0 0, Value.int 3 0, Value.ref 339, Value.bool true, Value.int 181 0, Value.ref 340, Value.none, Value.ref 341, Value.ref 342, Value.ref 343, Value.int 779 0, Value.int 381 0, Value.str (Str.ofString "/claim/cut.py") 780], #[]⟩
noncomputable def o345 : {o : Obj // (fdOf PySem.Challenge.pw_ja0025_01.main.body 113).map (fun x => (⟨Value.type "function", none, .func ⟨Str.ofString "_law_cell", Str.ofString "_law_cell", x.1, .stmts x.2.1, x.2.2, 3, [], Value.none, Value.none, Value.none, Value.str (Str.ofString "law_ja0025_01") 772, none, Value.ref 344, Value.none, 0⟩, #[]⟩ : Obj)) = some o} := ⟨⟨_, _, .func ⟨_, _, _, _, _, _, _, _, _, _, _, _, _, _, _⟩, _⟩, rfl⟩
noncomputable def o351 : Obj := ⟨Value.type "code", none, Data.fields #[Value.str (Str.ofString "_law_year") 782, Value.str (Str.ofString "_law_year") 783, Value.str (Str.ofString "/claim/cut.py") 784, Value.int 383 0, Value.int 1 0, Value.int 0 0, Value.int 0 0, Value.int 3 0, Value.ref 346, Value.bool true, Value.int 181 0, Value.ref 347, Value.none, Value.ref 348, Value.ref 349, Value.ref 350, Value.int 786 0, Value.int 383 0, Value.str (Str.ofString "/claim/cut.py") 787], #[]⟩
noncomputable def o352 : {o : Obj // (fdOf PySem.Challenge.pw_ja0025_01.main.body 114).map (fun x => (⟨Value.type "function", none, .func ⟨Str.ofString "_law_year", Str.ofString "_law_year", x.1, .stmts x.2.1, x.2.2, 3, [], Value.none, Value.none, Value.none, Value.str (Str.ofString "law_ja0025_01") 772, none, Value.ref 351, Value.none, 0⟩, #[]⟩ : Obj)) = some o} := ⟨⟨_, _, .func ⟨_, _, _, _, _, _, _, _, _, _, _, _, _, _, _⟩, _⟩, rfl⟩
noncomputable def o358 : Obj := ⟨Value.type "code", none, Data.fields #[Value.str (Str.ofString "_law_gregorian") 789, Value.str (Str.ofString "_law_gregorian") 790, Value.str (Str.ofString "/claim/cut.py") 791, Value.int 387 0, Value.int 1 0, Value.int 0 0, Value.int 0 0, Value.int 3 0, Value.ref 353, Value.bool true, Value.int 181 0, Value.ref 354, Value.none, Value.ref 355, Value.ref 356, Value.ref 357, Value.int 799 0, Value.int 387 0, Value.str (Str.ofString "/claim/cut.py") 800], #[]⟩
noncomputable def o359 : {o : Obj // (fdOf PySem.Challenge.pw_ja0025_01.main.body 115).map (fun x => (⟨Value.type "function", none, .func ⟨Str.ofString "_law_gregorian", Str.ofString "_law_gregorian", x.1, .stmts x.2.1, x.2.2, 3, [], Value.none, Value.none, Value.none, Value.str (Str.ofString "law_ja0025_01") 772, none, Value.ref 358, Value.none, 0⟩, #[]⟩ : Obj)) = some o} := ⟨⟨_, _, .func ⟨_, _, _, _, _, _, _, _, _, _, _, _, _, _, _⟩, _⟩, rfl⟩
noncomputable def o365 : Obj := ⟨Value.type "code", none, Data.fields #[Value.str (Str.ofString "_law_long") 802, Value.str (Str.ofString "_law_long") 803, Value.str (Str.ofString "/claim/cut.py") 804, Value.int 409 0, Value.int 1 0, Value.int 0 0, Value.int 0 0, Value.int 3 0, Value.ref 360, Value.bool true, Value.int 181 0, Value.ref 361, Value.none, Value.ref 362, Value.ref 363, Value.ref 364, Value.int 806 0, Value.int 409 0, Value.str (Str.ofString "/claim/cut.py") 807], #[]⟩
noncomputable def o366 : {o : Obj // (fdOf PySem.Challenge.pw_ja0025_01.main.body 116).map (fun x => (⟨Value.type "function", none, .func ⟨Str.ofString "_law_long", Str.ofString "_law_long", x.1, .stmts x.2.1, x.2.2, 3, [], Value.none, Value.none, Value.none, Value.str (Str.ofString "law_ja0025_01") 772, none, Value.ref 365, Value.none, 0⟩, #[]⟩ : Obj)) = some o} := ⟨⟨_, _, .func ⟨_, _, _, _, _, _, _, _, _, _, _, _, _, _, _⟩, _⟩, rfl⟩
noncomputable def o372 : Obj := ⟨Value.type "code", none, Data.fields #[Value.str (Str.ofString "_law_sizes") 809, Value.str (Str.ofString "_law_sizes") 810, Value.str (Str.ofString "/claim/cut.py") 811, Value.int 411 0, Value.int 1 0, Value.int 0 0, Value.int 0 0, Value.int 3 0, Value.ref 367, Value.bool true, Value.int 181 0, Value.ref 368, Value.none, Value.ref 369, Value.ref 370, Value.ref 371, Value.int 813 0, Value.int 411 0, Value.str (Str.ofString "/claim/cut.py") 814], #[]⟩
noncomputable def o373 : {o : Obj // (fdOf PySem.Challenge.pw_ja0025_01.main.body 117).map (fun x => (⟨Value.type "function", none, .func ⟨Str.ofString "_law_sizes", Str.ofString "_law_sizes", x.1, .stmts x.2.1, x.2.2, 3, [], Value.none, Value.none, Value.none, Value.str (Str.ofString "law_ja0025_01") 772, none, Value.ref 372, Value.none, 0⟩, #[]⟩ : Obj)) = some o} := ⟨⟨_, _, .func ⟨_, _, _, _, _, _, _, _, _, _, _, _, _, _, _⟩, _⟩, rfl⟩
noncomputable def o379 : Obj := ⟨Value.type "code", none, Data.fields #[Value.str (Str.ofString "_law_january") 816, Value.str (Str.ofString "_law_january") 817, Value.str (Str.ofString "/claim/cut.py") 818, Value.int 413 0, Value.int 1 0, Value.int 0 0, Value.int 0 0, Value.int 3 0, Value.ref 374, Value.bool true, Value.int 181 0, Value.ref 375, Value.none, Value.ref 376, Value.ref 377, Value.ref 378, Value.int 822 0, Value.int 413 0, Value.str (Str.ofString "/claim/cut.py") 823], #[]⟩
noncomputable def o380 : {o : Obj // (fdOf PySem.Challenge.pw_ja0025_01.main.body 118).map (fun x => (⟨Value.type "function", none, .func ⟨Str.ofString "_law_january", Str.ofString "_law_january", x.1, .stmts x.2.1, x.2.2, 3, [], Value.none, Value.none, Value.none, Value.str (Str.ofString "law_ja0025_01") 772, none, Value.ref 379, Value.none, 0⟩, #[]⟩ : Obj)) = some o} := ⟨⟨_, _, .func ⟨_, _, _, _, _, _, _, _, _, _, _, _, _, _, _⟩, _⟩, rfl⟩
noncomputable def o386 : Obj := ⟨Value.type "code", none, Data.fields #[Value.str (Str.ofString "_law_julian") 825, Value.str (Str.ofString "_law_julian") 826, Value.str (Str.ofString "/claim/cut.py") 827, Value.int 416 0, Value.int 1 0, Value.int 0 0, Value.int 0 0, Value.int 3 0, Value.ref 381, Value.bool true, Value.int 181 0, Value.ref 382, Value.none, Value.ref 383, Value.ref 384, Value.ref 385, Value.int 835 0, Value.int 416 0, Value.str (Str.ofString "/claim/cut.py") 836], #[]⟩
noncomputable def o387 : {o : Obj // (fdOf PySem.Challenge.pw_ja0025_01.main.body 119).map (fun x => (⟨Value.type "function", none, .func ⟨Str.ofString "_law_julian", Str.ofString "_law_julian", x.1, .stmts x.2.1, x.2.2, 3, [], Value.none, Value.none, Value.none, Value.str (Str.ofString "law_ja0025_01") 772, none, Value.ref 386, Value.none, 0⟩, #[]⟩ : Obj)) = some o} := ⟨⟨_, _, .func ⟨_, _, _, _, _, _, _, _, _, _, _, _, _, _, _⟩, _⟩, rfl⟩
noncomputable def o393 : Obj := ⟨Value.type "code", none, Data.fields #[Value.str (Str.ofString "_law_islamic") 838, Value.str (Str.ofString "_law_islamic") 839, Value.str (Str.ofString "/claim/cut.py") 840, Value.int 430 0, Value.int 1 0, Value.int 0 0, Value.int 0 0, Value.int 3 0, Value.ref 388, Value.bool true, Value.int 181 0, Value.ref 389, Value.none, Value.ref 390, Value.ref 391, Value.ref 392, Value.int 848 0, Value.int 430 0, Value.str (Str.ofString "/claim/cut.py") 849], #[]⟩
noncomputable def o394 : {o : Obj // (fdOf PySem.Challenge.pw_ja0025_01.main.body 120).map (fun x => (⟨Value.type "function", none, .func ⟨Str.ofString "_law_islamic", Str.ofString "_law_islamic", x.1, .stmts x.2.1, x.2.2, 3, [], Value.none, Value.none, Value.none, Value.str (Str.ofString "law_ja0025_01") 772, none, Value.ref 393, Value.none, 0⟩, #[]⟩ : Obj)) = some o} := ⟨⟨_, _, .func ⟨_, _, _, _, _, _, _, _, _, _, _, _, _, _, _⟩, _⟩, rfl⟩
noncomputable def o400 : Obj := ⟨Value.type "code", none, Data.fields #[Value.str (Str.ofString "_law_thirties") 851, Value.str (Str.ofString "_law_thirties") 852, Value.str (Str.ofString "/claim/cut.py") 853, Value.int 447 0, Value.int 2 0, Value.int 0 0, Value.int 0 0, Value.int 3 0, Value.ref 395, Value.bool true, Value.int 181 0, Value.ref 396, Value.none, Value.ref 397, Value.ref 398, Value.ref 399, Value.int 856 0, Value.int 447 0, Value.str (Str.ofString "/claim/cut.py") 857], #[]⟩
noncomputable def o401 : {o : Obj // (fdOf PySem.Challenge.pw_ja0025_01.main.body 121).map (fun x => (⟨Value.type "function", none, .func ⟨Str.ofString "_law_thirties", Str.ofString "_law_thirties", x.1, .stmts x.2.1, x.2.2, 3, [], Value.none, Value.none, Value.none, Value.str (Str.ofString "law_ja0025_01") 772, none, Value.ref 400, Value.none, 0⟩, #[]⟩ : Obj)) = some o} := ⟨⟨_, _, .func ⟨_, _, _, _, _, _, _, _, _, _, _, _, _, _, _⟩, _⟩, rfl⟩
noncomputable def o407 : Obj := ⟨Value.type "code", none, Data.fields #[Value.str (Str.ofString "_law_fours") 859, Value.str (Str.ofString "_law_fours") 860, Value.str (Str.ofString "/claim/cut.py") 861, Value.int 449 0, Value.int 4 0, Value.int 0 0, Value.int 0 0, Value.int 3 0, Value.ref 402, Value.bool true, Value.int 181 0, Value.ref 403, Value.none, Value.ref 404, Value.ref 405, Value.ref 406, Value.int 869 0, Value.int 449 0, Value.str (Str.ofString "/claim/cut.py") 870], #[]⟩
noncomputable def o408 : {o : Obj // (fdOf PySem.Challenge.pw_ja0025_01.main.body 122).map (fun x => (⟨Value.type "function", none, .func ⟨Str.ofString "_law_fours", Str.ofString "_law_fours", x.1, .stmts x.2.1, x.2.2, 3, [], Value.none, Value.none, Value.none, Value.str (Str.ofString "law_ja0025_01") 772, none, Value.ref 407, Value.none, 0⟩, #[]⟩ : Obj)) = some o} := ⟨⟨_, _, .func ⟨_, _, _, _, _, _, _, _, _, _, _, _, _, _, _⟩, _⟩, rfl⟩
noncomputable def o414 : Obj := ⟨Value.type "code", none, Data.fields #[Value.str (Str.ofString "_law_indian") 872, Value.str (Str.ofString "_law_indian") 873, Value.str (Str.ofString "/claim/cut.py") 874, Value.int 458 0, Value.int 1 0, Value.int 0 0, Value.int 0 0, Value.int 3 0, Value.ref 409, Value.bool true, Value.int 181 0, Value.ref 410, Value.none, Value.ref 411, Value.ref 412, Value.ref 413, Value.int 880 0, Value.int 458 0, Value.str (Str.ofString "/claim/cut.py") 881], #[]⟩
noncomputable def o415 : {o : Obj // (fdOf PySem.Challenge.pw_ja0025_01.main.body 123).map (fun x => (⟨Value.type "function", none, .func ⟨Str.ofString "_law_indian", Str.ofString "_law_indian", x.1, .stmts x.2.1, x.2.2, 3, [], Value.none, Value.none, Value.none, Value.str (Str.ofString "law_ja0025_01") 772, none, Value.ref 414, Value.none, 0⟩, #[]⟩ : Obj)) = some o} := ⟨⟨_, _, .func ⟨_, _, _, _, _, _, _, _, _, _, _, _, _, _, _⟩, _⟩, rfl⟩
noncomputable def o421 : Obj := ⟨Value.type "code", none, Data.fields #[Value.str (Str.ofString "_law_longcount") 883, Value.str (Str.ofString "_law_longcount") 884, Value.str (Str.ofString "/claim/cut.py") 885, Value.int 470 0, Value.int 1 0, Value.int 0 0, Value.int 0 0, Value.int 3 0, Value.ref 416, Value.bool true, Value.int 181 0, Value.ref 417, Value.none, Value.ref 418, Value.ref 419, Value.ref 420, Value.int 890 0, Value.int 470 0, Value.str (Str.ofString "/claim/cut.py") 891], #[]⟩
noncomputable def o422 : {o : Obj // (fdOf PySem.Challenge.pw_ja0025_01.main.body 124).map (fun x => (⟨Value.type "function", none, .func ⟨Str.ofString "_law_longcount", Str.ofString "_law_longcount", x.1, .stmts x.2.1, x.2.2, 3, [], Value.none, Value.none, Value.none, Value.str (Str.ofString "law_ja0025_01") 772, none, Value.ref 421, Value.none, 0⟩, #[]⟩ : Obj)) = some o} := ⟨⟨_, _, .func ⟨_, _, _, _, _, _, _, _, _, _, _, _, _, _, _⟩, _⟩, rfl⟩
noncomputable def o428 : Obj := ⟨Value.type "code", none, Data.fields #[Value.str (Str.ofString "_law_refused") 893, Value.str (Str.ofString "_law_refused") 894, Value.str (Str.ofString "/claim/cut.py") 895, Value.int 477 0, Value.int 2 0, Value.int 0 0, Value.int 0 0, Value.int 3 0, Value.ref 423, Value.bool true, Value.int 181 0, Value.ref 424, Value.none, Value.ref 425, Value.ref 426, Value.ref 427, Value.int 898 0, Value.int 477 0, Value.str (Str.ofString "/claim/cut.py") 899], #[]⟩
noncomputable def o429 : {o : Obj // (fdOf PySem.Challenge.pw_ja0025_01.main.body 125).map (fun x => (⟨Value.type "function", none, .func ⟨Str.ofString "_law_refused", Str.ofString "_law_refused", x.1, .stmts x.2.1, x.2.2, 3, [], Value.none, Value.none, Value.none, Value.str (Str.ofString "law_ja0025_01") 772, none, Value.ref 428, Value.none, 0⟩, #[]⟩ : Obj)) = some o} := ⟨⟨_, _, .func ⟨_, _, _, _, _, _, _, _, _, _, _, _, _, _, _⟩, _⟩, rfl⟩
noncomputable def o435 : Obj := ⟨Value.type "code", none, Data.fields #[Value.str (Str.ofString "_law_first_five") 901, Value.str (Str.ofString "_law_first_five") 902, Value.str (Str.ofString "/claim/cut.py") 903, Value.int 490 0, Value.int 4 0, Value.int 0 0, Value.int 0 0, Value.int 3 0, Value.ref 430, Value.bool true, Value.int 181 0, Value.ref 431, Value.none, Value.ref 432, Value.ref 433, Value.ref 434, Value.int 910 0, Value.int 490 0, Value.str (Str.ofString "/claim/cut.py") 911], #[]⟩
noncomputable def o436 : {o : Obj // (fdOf PySem.Challenge.pw_ja0025_01.main.body 126).map (fun x => (⟨Value.type "function", none, .func ⟨Str.ofString "_law_first_five", Str.ofString "_law_first_five", x.1, .stmts x.2.1, x.2.2, 3, [], Value.none, Value.none, Value.none, Value.str (Str.ofString "law_ja0025_01") 772, none, Value.ref 435, Value.none, 0⟩, #[]⟩ : Obj)) = some o} := ⟨⟨_, _, .func ⟨_, _, _, _, _, _, _, _, _, _, _, _, _, _, _⟩, _⟩, rfl⟩
noncomputable def o442 : Obj := ⟨Value.type "code", none, Data.fields #[Value.str (Str.ofString "_law_armenians") 913, Value.str (Str.ofString "_law_armenians") 914, Value.str (Str.ofString "/claim/cut.py") 915, Value.int 515 0, Value.int 4 0, Value.int 0 0, Value.int 0 0, Value.int 3 0, Value.ref 437, Value.bool true, Value.int 181 0, Value.ref 438, Value.none, Value.ref 439, Value.ref 440, Value.ref 441, Value.int 924 0, Value.int 515 0, Value.str (Str.ofString "/claim/cut.py") 925], #[]⟩
noncomputable def o443 : {o : Obj // (fdOf PySem.Challenge.pw_ja0025_01.main.body 127).map (fun x => (⟨Value.type "function", none, .func ⟨Str.ofString "_law_armenians", Str.ofString "_law_armenians", x.1, .stmts x.2.1, x.2.2, 3, [], Value.none, Value.none, Value.none, Value.str (Str.ofString "law_ja0025_01") 772, none, Value.ref 442, Value.none, 0⟩, #[]⟩ : Obj)) = some o} := ⟨⟨_, _, .func ⟨_, _, _, _, _, _, _, _, _, _, _, _, _, _, _⟩, _⟩, rfl⟩
noncomputable def o449 : Obj := ⟨Value.type "code", none, Data.fields #[Value.str (Str.ofString "_law_last_two") 927, Value.str (Str.ofString "_law_last_two") 928, Value.str (Str.ofString "/claim/cut.py") 929, Value.int 544 0, Value.int 4 0, Value.int 0 0, Value.int 0 0, Value.int 3 0, Value.ref 444, Value.bool true, Value.int 181 0, Value.ref 445, Value.none, Value.ref 446, Value.ref 447, Value.ref 448, Value.int 936 0, Value.int 544 0, Value.str (Str.ofString "/claim/cut.py") 937], #[]⟩
noncomputable def o450 : {o : Obj // (fdOf PySem.Challenge.pw_ja0025_01.main.body 128).map (fun x => (⟨Value.type "function", none, .func ⟨Str.ofString "_law_last_two", Str.ofString "_law_last_two", x.1, .stmts x.2.1, x.2.2, 3, [], Value.none, Value.none, Value.none, Value.str (Str.ofString "law_ja0025_01") 772, none, Value.ref 449, Value.none, 0⟩, #[]⟩ : Obj)) = some o} := ⟨⟨_, _, .func ⟨_, _, _, _, _, _, _, _, _, _, _, _, _, _, _⟩, _⟩, rfl⟩
noncomputable def o456 : Obj := ⟨Value.type "code", none, Data.fields #[Value.str (Str.ofString "law") 939, Value.str (Str.ofString "law") 940, Value.str (Str.ofString "/claim/cut.py") 941, Value.int 564 0, Value.int 1 0, Value.int 0 0, Value.int 0 0, Value.int 3 0, Value.ref 451, Value.bool true, Value.int 181 0, Value.ref 452, Value.none, Value.ref 453, Value.ref 454, Value.ref 455, Value.int 950 0, Value.int 564 0, Value.str (Str.ofString "/claim/cut.py") 951], #[]⟩
noncomputable def o457 : {o : Obj // (fdOf PySem.Challenge.pw_ja0025_01.main.body 129).map (fun x => (⟨Value.type "function", none, .func ⟨Str.ofString "law", Str.ofString "law", x.1, .stmts x.2.1, x.2.2, 3, [], Value.none, Value.none, Value.none, Value.str (Str.ofString "law_ja0025_01") 772, none, Value.ref 456, Value.none, 0⟩, #[]⟩ : Obj)) = some o} := ⟨⟨_, _, .func ⟨_, _, _, _, _, _, _, _, _, _, _, _, _, _, _⟩, _⟩, rfl⟩
noncomputable def heapK : Params → Frag := fun P => (@List.cons (Nat × Obj) (@Prod.mk Nat Obj (nat_lit 2 : Nat) (o2)) (@List.cons (Nat × Obj) (@Prod.mk Nat Obj (nat_lit 3 : Nat) (o3 P)) (@List.cons (Nat × Obj) (@Prod.mk Nat Obj (nat_lit 20 : Nat) (o20)) (@List.cons (Nat × Obj) (@Prod.mk Nat Obj (nat_lit 21 : Nat) (o21.1)) (@List.cons (Nat × Obj) (@Prod.mk Nat Obj (nat_lit 27 : Nat) (o27)) (@List.cons (Nat × Obj) (@Prod.mk Nat Obj (nat_lit 28 : Nat) (o28.1)) (@List.cons (Nat × Obj) (@Prod.mk Nat Obj (nat_lit 29 : Nat) (o29)) (@List.cons (Nat × Obj) (@Prod.mk Nat Obj (nat_lit 35 : Nat) (o35)) (@List.cons (Nat × Obj) (@Prod.mk Nat Obj (nat_lit 36 : Nat) (o36.1)) (@List.cons (Nat × Obj) (@Prod.mk Nat Obj (nat_lit 42 : Nat) (o42)) (@List.cons (Nat × Obj) (@Prod.mk Nat Obj (nat_lit 43 : Nat) (o43.1)) (@List.cons (Nat × Obj) (@Prod.mk Nat Obj (nat_lit 49 : Nat) (o49)) (@List.cons (Nat × Obj) (@Prod.mk Nat Obj (nat_lit 50 : Nat) (o50.1)) (@List.cons (Nat × Obj) (@Prod.mk Nat Obj (nat_lit 51 : Nat) (o51)) (@List.cons (Nat × Obj) (@Prod.mk Nat Obj (nat_lit 57 : Nat) (o57)) (@List.cons (Nat × Obj) (@Prod.mk Nat Obj (nat_lit 58 : Nat) (o58.1)) (@List.cons (Nat × Obj) (@Prod.mk Nat Obj (nat_lit 64 : Nat) (o64)) (@List.cons (Nat × Obj) (@Prod.mk Nat Obj (nat_lit 65 : Nat) (o65.1)) (@List.cons (Nat × Obj) (@Prod.mk Nat Obj (nat_lit 71 : Nat) (o71)) (@List.cons (Nat × Obj) (@Prod.mk Nat Obj (nat_lit 72 : Nat) (o72.1)) (@List.cons (Nat × Obj) (@Prod.mk Nat Obj (nat_lit 78 : Nat) (o78)) (@List.cons (Nat × Obj) (@Prod.mk Nat Obj (nat_lit 79 : Nat) (o79.1)) (@List.cons (Nat × Obj) (@Prod.mk Nat Obj (nat_lit 85 : Nat) (o85)) (@List.cons (Nat × Obj) (@Prod.mk Nat Obj (nat_lit 86 : Nat) (o86.1)) (@List.cons (Nat × Obj) (@Prod.mk Nat Obj (nat_lit 92 : Nat) (o92)) (@List.cons (Nat × Obj) (@Prod.mk Nat Obj (nat_lit 93 : Nat) (o93.1)) (@List.cons (Nat × Obj) (@Prod.mk Nat Obj (nat_lit 99 : Nat) (o99)) (@List.cons (Nat × Obj) (@Prod.mk Nat Obj (nat_lit 100 : Nat) (o100.1)) (@List.cons (Nat × Obj) (@Prod.mk Nat Obj (nat_lit 101 : Nat) (o101)) (@List.cons (Nat × Obj) (@Prod.mk Nat Obj (nat_lit 107 : Nat) (o107)) (@List.cons (Nat × Obj) (@Prod.mk Nat Obj (nat_lit 108 : Nat) (o108.1)) (@List.cons (Nat × Obj) (@Prod.mk Nat Obj (nat_lit 114 : Nat) (o114)) (@List.cons (Nat × Obj) (@Prod.mk Nat Obj (nat_lit 115 : Nat) (o115.1)) (@List.cons (Nat × Obj) (@Prod.mk Nat Obj (nat_lit 116 : Nat) (o116)) (@List.cons (Nat × Obj) (@Prod.mk Nat Obj (nat_lit 122 : Nat) (o122)) (@List.cons (Nat × Obj) (@Prod.mk Nat Obj (nat_lit 123 : Nat) (o123.1)) (@List.cons (Nat × Obj) (@Prod.mk Nat Obj (nat_lit 124 : Nat) (o124)) (@List.cons (Nat × Obj) (@Prod.mk Nat Obj (nat_lit 130 : Nat) (o130)) (@List.cons (Nat × Obj) (@Prod.mk Nat Obj (nat_lit 131 : Nat) (o131.1)) (@List.cons (Nat × Obj) (@Prod.mk Nat Obj (nat_lit 132 : Nat) (o132)) (@List.cons (Nat × Obj) (@Prod.mk Nat Obj (nat_lit 138 : Nat) (o138)) (@List.cons (Nat × Obj) (@Prod.mk Nat Obj (nat_lit 139 : Nat) (o139.1)) (@List.cons (Nat × Obj) (@Prod.mk Nat Obj (nat_lit 140 : Nat) (o140)) (@List.cons (Nat × Obj) (@Prod.mk Nat Obj (nat_lit 146 : Nat) (o146)) (@List.cons (Nat × Obj) (@Prod.mk Nat Obj (nat_lit 147 : Nat) (o147.1)) (@List.cons (Nat × Obj) (@Prod.mk Nat Obj (nat_lit 148 : Nat) (o148)) (@List.cons (Nat × Obj) (@Prod.mk Nat Obj (nat_lit 154 : Nat) (o154)) (@List.cons (Nat × Obj) (@Prod.mk Nat Obj (nat_lit 155 : Nat) (o155.1)) (@List.cons (Nat × Obj) (@Prod.mk Nat Obj (nat_lit 156 : Nat) (o156)) (@List.cons (Nat × Obj) (@Prod.mk Nat Obj (nat_lit 162 : Nat) (o162)) (@List.cons (Nat × Obj) (@Prod.mk Nat Obj (nat_lit 163 : Nat) (o163.1)) (@List.cons (Nat × Obj) (@Prod.mk Nat Obj (nat_lit 169 : Nat) (o169)) (@List.cons (Nat × Obj) (@Prod.mk Nat Obj (nat_lit 170 : Nat) (o170.1)) (@List.cons (Nat × Obj) (@Prod.mk Nat Obj (nat_lit 176 : Nat) (o176)) (@List.cons (Nat × Obj) (@Prod.mk Nat Obj (nat_lit 177 : Nat) (o177.1)) (@List.cons (Nat × Obj) (@Prod.mk Nat Obj (nat_lit 183 : Nat) (o183)) (@List.cons (Nat × Obj) (@Prod.mk Nat Obj (nat_lit 184 : Nat) (o184.1)) (@List.cons (Nat × Obj) (@Prod.mk Nat Obj (nat_lit 190 : Nat) (o190)) (@List.cons (Nat × Obj) (@Prod.mk Nat Obj (nat_lit 191 : Nat) (o191.1)) (@List.cons (Nat × Obj) (@Prod.mk Nat Obj (nat_lit 197 : Nat) (o197)) (@List.cons (Nat × Obj) (@Prod.mk Nat Obj (nat_lit 198 : Nat) (o198.1)) (@List.cons (Nat × Obj) (@Prod.mk Nat Obj (nat_lit 204 : Nat) (o204)) (@List.cons (Nat × Obj) (@Prod.mk Nat Obj (nat_lit 205 : Nat) (o205.1)) (@List.cons (Nat × Obj) (@Prod.mk Nat Obj (nat_lit 211 : Nat) (o211)) (@List.cons (Nat × Obj) (@Prod.mk Nat Obj (nat_lit 212 : Nat) (o212.1)) (@List.cons (Nat × Obj) (@Prod.mk Nat Obj (nat_lit 218 : Nat) (o218)) (@List.cons (Nat × Obj) (@Prod.mk Nat Obj (nat_lit 219 : Nat) (o219.1)) (@List.cons (Nat × Obj) (@Prod.mk Nat Obj (nat_lit 225 : Nat) (o225)) (@List.cons (Nat × Obj) (@Prod.mk Nat Obj (nat_lit 226 : Nat) (o226.1)) (@List.cons (Nat × Obj) (@Prod.mk Nat Obj (nat_lit 232 : Nat) (o232)) (@List.cons (Nat × Obj) (@Prod.mk Nat Obj (nat_lit 233 : Nat) (o233.1)) (@List.cons (Nat × Obj) (@Prod.mk Nat Obj (nat_lit 239 : Nat) (o239)) (@List.cons (Nat × Obj) (@Prod.mk Nat Obj (nat_lit 240 : Nat) (o240.1)) (@List.cons (Nat × Obj) (@Prod.mk Nat Obj (nat_lit 246 : Nat) (o246)) (@List.cons (Nat × Obj) (@Prod.mk Nat Obj (nat_lit 247 : Nat) (o247.1)) (@List.cons (Nat × Obj) (@Prod.mk Nat Obj (nat_lit 253 : Nat) (o253)) (@List.cons (Nat × Obj) (@Prod.mk Nat Obj (nat_lit 254 : Nat) (o254.1)) (@List.cons (Nat × Obj) (@Prod.mk Nat Obj (nat_lit 260 : Nat) (o260)) (@List.cons (Nat × Obj) (@Prod.mk Nat Obj (nat_lit 261 : Nat) (o261.1)) (@List.cons (Nat × Obj) (@Prod.mk Nat Obj (nat_lit 267 : Nat) (o267)) (@List.cons (Nat × Obj) (@Prod.mk Nat Obj (nat_lit 268 : Nat) (o268.1)) (@List.cons (Nat × Obj) (@Prod.mk Nat Obj (nat_lit 274 : Nat) (o274)) (@List.cons (Nat × Obj) (@Prod.mk Nat Obj (nat_lit 275 : Nat) (o275.1)) (@List.cons (Nat × Obj) (@Prod.mk Nat Obj (nat_lit 281 : Nat) (o281)) (@List.cons (Nat × Obj) (@Prod.mk Nat Obj (nat_lit 282 : Nat) (o282.1)) (@List.cons (Nat × Obj) (@Prod.mk Nat Obj (nat_lit 288 : Nat) (o288)) (@List.cons (Nat × Obj) (@Prod.mk Nat Obj (nat_lit 289 : Nat) (o289.1)) (@List.cons (Nat × Obj) (@Prod.mk Nat Obj (nat_lit 295 : Nat) (o295)) (@List.cons (Nat × Obj) (@Prod.mk Nat Obj (nat_lit 296 : Nat) (o296.1)) (@List.cons (Nat × Obj) (@Prod.mk Nat Obj (nat_lit 302 : Nat) (o302)) (@List.cons (Nat × Obj) (@Prod.mk Nat Obj (nat_lit 303 : Nat) (o303.1)) (@List.cons (Nat × Obj) (@Prod.mk Nat Obj (nat_lit 309 : Nat) (o309)) (@List.cons (Nat × Obj) (@Prod.mk Nat Obj (nat_lit 310 : Nat) (o310.1)) (@List.cons (Nat × Obj) (@Prod.mk Nat Obj (nat_lit 316 : Nat) (o316)) (@List.cons (Nat × Obj) (@Prod.mk Nat Obj (nat_lit 317 : Nat) (o317.1)) (@List.cons (Nat × Obj) (@Prod.mk Nat Obj (nat_lit 323 : Nat) (o323)) (@List.cons (Nat × Obj) (@Prod.mk Nat Obj (nat_lit 324 : Nat) (o324.1)) (@List.cons (Nat × Obj) (@Prod.mk Nat Obj (nat_lit 330 : Nat) (o330)) (@List.cons (Nat × Obj) (@Prod.mk Nat Obj (nat_lit 331 : Nat) (o331.1)) (@List.cons (Nat × Obj) (@Prod.mk Nat Obj (nat_lit 337 : Nat) (o337)) (@List.cons (Nat × Obj) (@Prod.mk Nat Obj (nat_lit 338 : Nat) (o338.1)) (@List.cons (Nat × Obj) (@Prod.mk Nat Obj (nat_lit 344 : Nat) (o344)) (@List.cons (Nat × Obj) (@Prod.mk Nat Obj (nat_lit 345 : Nat) (o345.1)) (@List.cons (Nat × Obj) (@Prod.mk Nat Obj (nat_lit 351 : Nat) (o351)) (@List.cons (Nat × Obj) (@Prod.mk Nat Obj (nat_lit 352 : Nat) (o352.1)) (@List.cons (Nat × Obj) (@Prod.mk Nat Obj (nat_lit 358 : Nat) (o358)) (@List.cons (Nat × Obj) (@Prod.mk Nat Obj (nat_lit 359 : Nat) (o359.1)) (@List.cons (Nat × Obj) (@Prod.mk Nat Obj (nat_lit 365 : Nat) (o365)) (@List.cons (Nat × Obj) (@Prod.mk Nat Obj (nat_lit 366 : Nat) (o366.1)) (@List.cons (Nat × Obj) (@Prod.mk Nat Obj (nat_lit 372 : Nat) (o372)) (@List.cons (Nat × Obj) (@Prod.mk Nat Obj (nat_lit 373 : Nat) (o373.1)) (@List.cons (Nat × Obj) (@Prod.mk Nat Obj (nat_lit 379 : Nat) (o379)) (@List.cons (Nat × Obj) (@Prod.mk Nat Obj (nat_lit 380 : Nat) (o380.1)) (@List.cons (Nat × Obj) (@Prod.mk Nat Obj (nat_lit 386 : Nat) (o386)) (@List.cons (Nat × Obj) (@Prod.mk Nat Obj (nat_lit 387 : Nat) (o387.1)) (@List.cons (Nat × Obj) (@Prod.mk Nat Obj (nat_lit 393 : Nat) (o393)) (@List.cons (Nat × Obj) (@Prod.mk Nat Obj (nat_lit 394 : Nat) (o394.1)) (@List.cons (Nat × Obj) (@Prod.mk Nat Obj (nat_lit 400 : Nat) (o400)) (@List.cons (Nat × Obj) (@Prod.mk Nat Obj (nat_lit 401 : Nat) (o401.1)) (@List.cons (Nat × Obj) (@Prod.mk Nat Obj (nat_lit 407 : Nat) (o407)) (@List.cons (Nat × Obj) (@Prod.mk Nat Obj (nat_lit 408 : Nat) (o408.1)) (@List.cons (Nat × Obj) (@Prod.mk Nat Obj (nat_lit 414 : Nat) (o414)) (@List.cons (Nat × Obj) (@Prod.mk Nat Obj (nat_lit 415 : Nat) (o415.1)) (@List.cons (Nat × Obj) (@Prod.mk Nat Obj (nat_lit 421 : Nat) (o421)) (@List.cons (Nat × Obj) (@Prod.mk Nat Obj (nat_lit 422 : Nat) (o422.1)) (@List.cons (Nat × Obj) (@Prod.mk Nat Obj (nat_lit 428 : Nat) (o428)) (@List.cons (Nat × Obj) (@Prod.mk Nat Obj (nat_lit 429 : Nat) (o429.1)) (@List.cons (Nat × Obj) (@Prod.mk Nat Obj (nat_lit 435 : Nat) (o435)) (@List.cons (Nat × Obj) (@Prod.mk Nat Obj (nat_lit 436 : Nat) (o436.1)) (@List.cons (Nat × Obj) (@Prod.mk Nat Obj (nat_lit 442 : Nat) (o442)) (@List.cons (Nat × Obj) (@Prod.mk Nat Obj (nat_lit 443 : Nat) (o443.1)) (@List.cons (Nat × Obj) (@Prod.mk Nat Obj (nat_lit 449 : Nat) (o449)) (@List.cons (Nat × Obj) (@Prod.mk Nat Obj (nat_lit 450 : Nat) (o450.1)) (@List.cons (Nat × Obj) (@Prod.mk Nat Obj (nat_lit 456 : Nat) (o456)) (@List.cons (Nat × Obj) (@Prod.mk Nat Obj (nat_lit 457 : Nat) (o457.1)) (@List.nil (Nat × Obj)))))))))))))))))))))))))))))))))))))))))))))))))))))))))))))))))))))))))))))))))))))))))))))))))))))))))))))))))))))))))))))))))))))))))
noncomputable def as0 : List Nat := [2, 3, 20, 21, 27, 28, 29, 35, 36, 42, 43, 49, 50, 51, 57, 58, 64, 65, 71, 72, 78, 79, 85, 86, 92, 93, 99, 100, 101, 107, 108, 114, 115, 116, 122, 123, 124, 130, 131, 132, 138, 139, 140, 146, 147, 148, 154, 155, 156, 162, 163, 169, 170, 176, 177, 183, 184, 190, 191, 197, 198, 204, 205, 211, 212, 218, 219, 225, 226, 232, 233, 239, 240, 246, 247, 253, 254, 260, 261, 267, 268, 274, 275, 281, 282, 288, 289, 295, 296, 302, 303, 309, 310, 316, 317, 323, 324, 330, 331, 337, 338, 344, 345, 351, 352, 358, 359, 365, 366, 372, 373, 379, 380, 386, 387, 393, 394, 400, 401, 407, 408, 414, 415, 421, 422, 428, 429, 435, 436, 442, 443, 449, 450, 456, 457]
noncomputable def lawS : {s : Stmt // PySem.Challenge.pw_ja0025_01.main.body[129]? = some s} := ⟨.FunctionDef _ _ _ _ _ _ _ _ _ _, rfl⟩
noncomputable def q0 : Program := { PySem.Challenge.pw_ja0025_01 with main := { PySem.Challenge.pw_ja0025_01.main with body := [lawS.1] } }
noncomputable def loose0 : List Str := [Str.ofString "isleap", Str.ofString "trunc", Str.ofString "EPOCH_gregorian", Str.ofString "INTERCALATION_CYCLE_YEARS", Str.ofString "INTERCALATION_CYCLE_DAYS", Str.ofString "LEAP_SUPPRESSION_YEARS", Str.ofString "LEAP_SUPPRESSION_DAYS", Str.ofString "LEAP_CYCLE_YEARS", Str.ofString "LEAP_CYCLE_DAYS", Str.ofString "YEAR_DAYS", Str.ofString "HAVE_30_DAYS_gregorian", Str.ofString "legal_date", Str.ofString "legal_date_gregorian", Str.ofString "to_jd", Str.ofString "to_jd_gregorian", Str.ofString "from_jd", Str.ofString "from_jd_gregorian", Str.ofString "HAVE_30_DAYS_julian", Str.ofString "leap", Str.ofString "leap_julian", Str.ofString "month_length", Str.ofString "legal_date_julian", Str.ofString "from_jd_julian", Str.ofString "to_jd_julian", Str.ofString "from_gregorian", Str.ofString "from_gregorian_julian", Str.ofString "to_gregorian", Str.ofString "to_gregorian_julian", Str.ofString "EPOCH_armenian", Str.ofString "EPOCH_SARKAWAG", Str.ofString "_valid_date", Str.ofString "leap_armenian", Str.ofString "to_jd_armenian", Str.ofString "from_jd_armenian", Str.ofString "to_julian", Str.ofString "from_julian", Str.ofString "to_gregorian_armenian", Str.ofString "from_gregorian_armenian", Str.ofString "EPOCH_coptic", Str.ofString "to_jd_coptic", Str.ofString "from_jd_coptic", Str.ofString "to_gregorian_coptic", Str.ofString "from_gregorian_coptic", Str.ofString "SAKA_EPOCH", Str.ofString "to_jd_indian_civil", Str.ofString "from_jd_indian_civil", Str.ofString "from_gregorian_indian_civil", Str.ofString "to_gregorian_indian_civil", Str.ofString "EPOCH_islamic", Str.ofString "to_jd_islamic", Str.ofString "from_jd_islamic", Str.ofString "from_gregorian_islamic", Str.ofString "to_gregorian_islamic", Str.ofString "EPOCH_mayan", Str.ofString "to_jd_mayan", Str.ofString "from_jd_mayan", Str.ofString "to_gregorian_mayan", Str.ofString "from_gregorian_mayan", Str.ofString "to_jd_ordinal", Str.ofString "from_jd_ordinal", Str.ofString "from_gregorian_ordinal", Str.ofString "to_gregorian_ordinal", Str.ofString "EPOCH_positivist", Str.ofString "YEAR_EPOCH", Str.ofString "legal_date_positivist", Str.ofString "to_jd_positivist", Str.ofString "from_jd_positivist", Str.ofString "from_gregorian_positivist", Str.ofString "to_gregorian_positivist", Str.ofString "_law_cell", Str.ofString "_law_year", Str.ofString "_law_gregorian", Str.ofString "_law_long", Str.ofString "_law_sizes", Str.ofString "_law_january", Str.ofString "_law_julian", Str.ofString "_law_islamic", Str.ofString "_law_thirties", Str.ofString "_law_fours", Str.ofString "_law_indian", Str.ofString "_law_longcount", Str.ofString "_law_refused", Str.ofString "_law_first_five", Str.ofString "_law_armenians", Str.ofString "_law_last_two"]

theorem as0_eq : ∀ P, as0 = (heapK P).map (·.1) := fun _ => by kernel_rfl!
theorem hl1 : LeftO PySem.Challenge.pw_ja0025_01 q0 loose0 (fun s => xlAt q0 [] s && recOk [] s) (kHook heapK as0 as0_eq).obs (kHook heapK as0 as0_eq).val 5516 :=
  left_tree e_open (by kernel_rfl!) f_open T0_eq size0 (fun w os => by kernel_rfl!)
abbrev Led := List (Addr × Obj)
abbrev tup (vs : List Value) (n : Nat) : Obj := { cls := .type "tuple", data := .seq vs.toArray n }
abbrev Ret1 (R : Tok → Value) (h₀ : Heap) (L : Addr) (m : Str → Option Value) (news : Led) (s : Shared) (Q : Value → Shared → Prop) : Prop :=
  ∀ (t : Tok) (h' : Heap) (tk' : Nat), Fr h₀ L h' m → News h₀ L h' news → Q (R t) { s with heap := h', toks := tk' }
abbrev Ret3 (a b c : Int) (h₀ : Heap) (L : Addr) (m : Str → Option Value) (news : Led) (s : Shared) (Q : Value → Shared → Prop) : Prop :=
  ∀ (D : Addr) (t1 t2 t3 : Tok) (n : Nat) (h' : Heap) (tk' : Nat), Fr h₀ L h' m → News h₀ L h' ((D, tup [.int a t1, .int b t2, .int c t3] n) :: news) → Q (.ref D) { s with heap := h', toks := tk' }
abbrev Ret2 (a b : Int) (h₀ : Heap) (L : Addr) (m : Str → Option Value) (news : Led) (s : Shared) (Q : Value → Shared → Prop) : Prop :=
  ∀ (D : Addr) (t1 t2 : Tok) (n : Nat) (h' : Heap) (tk' : Nat), Fr h₀ L h' m → News h₀ L h' ((D, tup [.int a t1, .int b t2] n) :: news) → Q (.ref D) { s with heap := h', toks := tk' }
abbrev Ret5 (a b c d e : Int) (h₀ : Heap) (L : Addr) (m : Str → Option Value) (news : Led) (s : Shared) (Q : Value → Shared → Prop) : Prop :=
  ∀ (D : Addr) (t1 t2 t3 t4 t5 : Tok) (n : Nat) (h' : Heap) (tk' : Nat), Fr h₀ L h' m → News h₀ L h' ((D, tup [.int a t1, .int b t2, .int c t3, .int d t4, .int e t5] n) :: news) → Q (.ref D) { s with heap := h', toks := tk' }
abbrev Ctr (prog : Program) (w : World) (K : Frag) (p : Program) (loose : List Str) (mean : ExcName → Option Value) (mg mb : Str → Option Value) (f : Addr) (vs : List Value) (dep : Nat)
    (Ret : Heap → Addr → (Str → Option Value) → Led → Shared → (Value → Shared → Prop) → Prop) : Prop :=
  ∀ (dp un : Nat) (gd : Option (List Code)) (cn : Str) (cs : Scope) (a : Addr) (ccd : Value) (cl : List (Str × Addr)) (outer : List Env) (A₀ : Around) (base h₀ : Heap) (L : Addr) (m : Str → Option Value) (news : Led) (s : Shared) (Q E : Value → Shared → Prop),
    Below A₀ base outer h₀ → Fr h₀ L s.heap m → K.In h₀ → News h₀ L s.heap news → Top p loose mean mg mb h₀ → cs.kind = .function →
    dp + dep < recursionLimit → un + 8 * dep < cLine → Ret h₀ L m news s Q →
      wpAny (model prog w) (ktrTop dp un gd cn cs L a ccd cl outer) (call (.ref f) vs) Q E s
section
variable {prog : Program} {w : World} {K : Frag} {p : Program} {loose : List Str} {mean : ExcName → Option Value} {mg mb : Str → Option Value} {f : Addr} {vs : List Value} {dep : Nat}
  {Ret : Heap → Addr → (Str → Option Value) → Led → Shared → (Value → Shared → Prop) → Prop}
  {dp un : Nat} {gd : Option (List Code)} {cn : Str} {cs : Scope} {a : Addr} {ccd : Value} {cl : List (Str × Addr)} {outer : List Env} {A₀ : Around} {base h₀ : Heap} {L : Addr} {m : Str → Option Value} {news news' : Led} {s : Shared} {Q E : Value → Shared → Prop}
theorem use (C : Ctr prog w K p loose mean mg mb f vs dep Ret) (B : Below A₀ base outer h₀) (F : Fr h₀ L s.heap m) (X : K.In h₀) (N : News h₀ L s.heap news) (T : Top p loose mean mg mb h₀) (hk : cs.kind = .function)
    (hd : dp + dep < recursionLimit) (hu : un + 8 * dep < cLine) (h : Ret h₀ L m news s Q) :
    wpAny (model prog w) (ktrTop dp un gd cn cs L a ccd cl outer) (call (.ref f) vs) Q E s := C _ _ _ _ _ _ _ _ _ _ _ _ _ _ _ _ _ _ B F X N T hk hd hu h
variable {h' : Heap} {tk' : Nat} {t t1 t2 t3 t4 t5 : Tok} {D : Addr} {n : Nat}
theorem end1I {x y : Int} (hret : Ret1 (fun t => .int x t) h₀ L m news s Q) (F : Fr h₀ L h' m) (N : News h₀ L h' news') (hs : ∀ p ∈ news, p ∈ news') (e : y = x) : Q (.int y t) { s with heap := h', toks := tk' } := by
  subst e
  exact hret t h' tk' F (fun p hp => N p (hs p hp))
theorem end1B {x y : Bool} (hret : Ret1 (fun _ => .bool x) h₀ L m news s Q) (F : Fr h₀ L h' m) (N : News h₀ L h' news') (hs : ∀ p ∈ news, p ∈ news') (e : y = x) : Q (.bool y) { s with heap := h', toks := tk' } := by
  subst e
  exact hret 0 h' tk' F (fun p hp => N p (hs p hp))
theorem end3 {x1 x2 x3 y1 y2 y3 : Int} (hret : Ret3 x1 x2 x3 h₀ L m news s Q) (F : Fr h₀ L h' m) (N : News h₀ L h' news') (hm : (D, tup [.int y1 t1, .int y2 t2, .int y3 t3] n) ∈ news') (hs : ∀ p ∈ news, p ∈ news') (e : y1 = x1 ∧ y2 = x2 ∧ y3 = x3) : Q (.ref D) { s with heap := h', toks := tk' } := by
  obtain ⟨rfl, rfl, rfl⟩ := e
  refine hret D t1 t2 t3 n h' tk' F (fun p hp => ?_)
  rcases List.mem_cons.mp hp with rfl | hp
  · exact N _ hm
  · exact N p (hs p hp)
theorem end2 {x1 x2 y1 y2 : Int} (hret : Ret2 x1 x2 h₀ L m news s Q) (F : Fr h₀ L h' m) (N : News h₀ L h' news') (hm : (D, tup [.int y1 t1, .int y2 t2] n) ∈ news') (hs : ∀ p ∈ news, p ∈ news') (e : y1 = x1 ∧ y2 = x2) : Q (.ref D) { s with heap := h', toks := tk' } := by
  obtain ⟨rfl, rfl⟩ := e
  refine hret D t1 t2 n h' tk' F (fun p hp => ?_)
  rcases List.mem_cons.mp hp with rfl | hp
  · exact N _ hm
  · exact N p (hs p hp)
theorem end5 {x1 x2 x3 x4 x5 y1 y2 y3 y4 y5 : Int} (hret : Ret5 x1 x2 x3 x4 x5 h₀ L m news s Q) (F : Fr h₀ L h' m) (N : News h₀ L h' news') (hm : (D, tup [.int y1 t1, .int y2 t2, .int y3 t3, .int y4 t4, .int y5 t5] n) ∈ news') (hs : ∀ p ∈ news, p ∈ news') (e : y1 = x1 ∧ y2 = x2 ∧ y3 = x3 ∧ y4 = x4 ∧ y5 = x5) : Q (.ref D) { s with heap := h', toks := tk' } := by
  obtain ⟨rfl, rfl, rfl, rfl, rfl⟩ := e
  refine hret D t1 t2 t3 t4 t5 n h' tk' F (fun p hp => ?_)
  rcases List.mem_cons.mp hp with rfl | hp
  · exact N _ hm
  · exact N p (hs p hp)
end
def leapB (y : Int) : Bool := decide (y % 4 = 0 ∧ (y % 100 ≠ 0 ∨ y % 400 = 0))
/-- 1 in a leap year, else 0 -/
def lp (y : Int) : Int := if leapB y = true then 1 else 0
def jan1 (y : Int) : Int := 1721426 + 365 * (y - 1) + (y - 1) / 4 - (y - 1) / 100 + (y - 1) / 400
/-- days ahead of the month, in a year with `l` (0 or 1) leap days -/
def cum (l m : Int) : Int := (367 * m - 362) / 12 + (if m ≤ 2 then 0 else l - 2)
def mLen (l m : Int) : Int := if m = 2 then 28 + l else if m = 4 ∨ m = 6 ∨ m = 9 ∨ m = 11 then 30 else 31
/-- the month of a day (from 0) of the year -/
def mOf (l r : Int) : Int := ((r + (if r < 58 + l then 0 else 2 - l)) * 12 + 373) / 367
-- Gregorian
def gJd (y m d : Int) : Int := jan1 y - 1 + cum (lp y) m + d
def gLen (y m : Int) : Int := mLen (lp y) m
@[irreducible] def gY (n : Int) : Int :=
  let q := (n - 1721426) / 146097
  let dqc := (n - 1721426) % 146097
  let cent := dqc / 36524
  let quad := dqc % 36524 / 1461
  let yi := dqc % 36524 % 1461 / 365
  if cent = 4 ∨ yi = 4 then q * 400 + cent * 100 + quad * 4 + yi else q * 400 + cent * 100 + quad * 4 + yi + 1
@[irreducible] def gM (n : Int) : Int := mOf (lp (gY n)) (n - jan1 (gY n))
@[irreducible] def gD (n : Int) : Int := n - jan1 (gY n) - cum (lp (gY n)) (gM n) + 1
-- Julian
def jLp (y : Int) : Int := if y % 4 = 0 then 1 else 0
def jan1J (y : Int) : Int := 1721424 + 365 * (y - 1) + (y - 1) / 4
def jJd (y m d : Int) : Int := jan1J y - 1 + cum (jLp y) m + d
def jLen (y m : Int) : Int := mLen (jLp y) m
@[irreducible] def jY (n : Int) : Int := (4 * (n - 1721424) + 1464) / 1461
@[irreducible] def jM (n : Int) : Int := mOf (jLp (jY n)) (n - jan1J (jY n))
@[irreducible] def jD (n : Int) : Int := n - jan1J (jY n) - cum (jLp (jY n)) (jM n) + 1
-- Islamic
def iS (y : Int) : Int := (y - 1) * 354 + (3 + 11 * y) / 30 + 1948440
def iJd (y m d : Int) : Int := d + -((-59) * (m - 1) / 2) + (y - 1) * 354 + (3 + 11 * y) / 30 + 1948440 - 1
@[irreducible] def iY (n : Int) : Int := (30 * (n - 1948440) + 10646) / 10631
@[irreducible] def iM (n : Int) : Int := min 12 (-((-2) * (n - iS (iY n) - 29) / 59) + 1)
@[irreducible] def iD (n : Int) : Int := n - iJd (iY n) (iM n) 1 + 1
-- Coptic
def cS (y : Int) : Int := (y - 1) * 365 + y / 4 + 1825030
def cJd (y m d : Int) : Int := d + (m - 1) * 30 + (y - 1) * 365 + y / 4 + 1825030 - 1
@[irreducible] def cY (n : Int) : Int := (4 * (n - 1825030) + 1463) / 1461
@[irreducible] def cM (n : Int) : Int := (n - cS (cY n)) / 30 + 1
@[irreducible] def cD (n : Int) : Int := (n - cS (cY n)) % 30 + 1
-- Indian
@[irreducible] def nG (n : Int) : Int := if n < jan1 (gY n) + 80 then gY n - 1 else gY n
def nRest (n : Int) : Int := n - jan1 (nG n) - 80
@[irreducible] def nY (n : Int) : Int := nG n - 78
def nMo (l r : Int) : Int := if r < 30 + l then 1 else if r - (30 + l) < 155 then (r - (30 + l)) / 31 + 2 else (r - (30 + l) - 155) / 30 + 7
def nDo (l r : Int) : Int := if r < 30 + l then r + 1 else if r - (30 + l) < 155 then (r - (30 + l)) % 31 + 1 else (r - (30 + l) - 155) % 30 + 1
@[irreducible] def nM (n : Int) : Int := nMo (lp (nG n)) (nRest n)
@[irreducible] def nD (n : Int) : Int := nDo (lp (nG n)) (nRest n)
-- Armenian, moveable
def aY (n : Int) : Int := 1 + (n - 1922868) / 365
def aM (n : Int) : Int := (n - 1922868) % 365 / 30 + 1
def aD (n : Int) : Int := (n - 1922868) % 365 % 30 + 1
-- Armenian, sarkawag
def sS (y : Int) : Int := 2117212 + 365 * (y - 533) + (y - 533) / 4
@[irreducible] def sY (n : Int) : Int := 533 + (4 * (n - 2117212) + 3) / 1461
@[irreducible] def sM (n : Int) : Int := (n - sS (sY n)) / 30 + 1
@[irreducible] def sD (n : Int) : Int := (n - sS (sY n)) % 30 + 1
-- Mayan
@[irreducible] def m1 (n : Int) : Int := (n - 584283) / 144000
@[irreducible] def m2 (n : Int) : Int := (n - 584283) % 144000 / 7200
@[irreducible] def m3 (n : Int) : Int := (n - 584283) % 7200 / 360
@[irreducible] def m4 (n : Int) : Int := (n - 584283) % 360 / 20
@[irreducible] def m5 (n : Int) : Int := (n - 584283) % 20
-- Positivist
def pY (n : Int) : Int := gY n - 1788
def pM (n : Int) : Int := (n - jan1 (gY n)) / 28 + 1
def pD (n : Int) : Int := (n - jan1 (gY n)) % 28 + 1
-- ordinal
def oD (n : Int) : Int := n - jan1 (gY n) + 1
/-- the law's year -/
def lawYear (x : Int) : Int := if -1000000 < x ∧ x < 1000000 then 1970 + x else if x > 0 then x % 10 ^ 18 else -(-x % 10 ^ 18)
-- tables
theorem rng {P : Int → Prop} (N : Nat) (h : ∀ k : Fin N, P ((k.val : Nat) : Int)) {r : Int} (h0 : 0 ≤ r) (h1 : r < N) : P r := by
  obtain ⟨k, rfl⟩ := Int.eq_ofNat_of_zero_le h0
  exact h ⟨k, Int.ofNat_lt.mp h1⟩
theorem rng1 {P : Int → Prop} (N : Nat) (h : ∀ k : Fin N, P ((k.val : Nat) + 1 : Int)) {r : Int} (h0 : 1 ≤ r) (h1 : r ≤ N) : P r := by
  have := rng (P := fun r => P (r + 1)) N h (r := r - 1) (Int.sub_nonneg_of_le h0) (Int.sub_lt_iff.mpr (Int.lt_add_one_of_le h1))
  rwa [Int.sub_add_cancel] at this
/-- a quotient from its rest -/
theorem quo {a q k : Int} (hk : 0 < k) (h0 : k * q ≤ a) (h1 : a < k * q + k) : a / k = q :=
  Int.le_antisymm (Int.le_of_lt_add_one ((Int.ediv_lt_iff_lt_mul hk).mpr (by rw [Int.add_mul, Int.one_mul, Int.mul_comm q k]; exact h1))) ((Int.le_ediv_iff_mul_le hk).mpr (by rw [Int.mul_comm]; exact h0))
/-- the quotient and the rest -/
theorem dm (a : Int) {k : Int} (hk : 0 < k) : a = k * (a / k) + a % k ∧ 0 ≤ a % k ∧ a % k < k :=
  ⟨(Int.mul_ediv_add_emod a k).symm, Int.emod_nonneg _ (Int.ne_of_gt hk), Int.emod_lt_of_pos _ hk⟩
theorem lp_if (y : Int) : lp y = if y % 4 = 0 ∧ (y % 100 ≠ 0 ∨ y % 400 = 0) then 1 else 0 := by
  unfold lp leapB
  simp only [decide_eq_true_eq]
theorem lp_01 (y : Int) : lp y = 0 ∨ lp y = 1 := by
  rw [lp]; cases leapB y
  · exact .inl rfl
  · exact .inr rfl
/-- a year's place in the cycles of 400, 100 and 4 years -/
theorem g_jan {q c u i Y : Int} (hc : 0 ≤ c ∧ c ≤ 3) (hu : 0 ≤ u ∧ u ≤ 24) (hi : 0 ≤ i ∧ i ≤ 3) (hY : Y = 400 * q + 100 * c + 4 * u + i + 1) :
    jan1 Y = 1721426 + 146097 * q + 36524 * c + 1461 * u + 365 * i := by
  have e1 : (Y - 1) / 4 = 100 * q + 25 * c + u := quo (by decide) (by omega) (by omega)
  have e2 : (Y - 1) / 100 = 4 * q + c := quo (by decide) (by omega) (by omega)
  have e3 : (Y - 1) / 400 = q := quo (by decide) (by omega) (by omega)
  unfold jan1
  rw [e1, e2, e3]
  omega
theorem g_lp {q c u i Y : Int} (_ : 0 ≤ c ∧ c ≤ 3) (hu : 0 ≤ u ∧ u ≤ 24) (hY : Y = 400 * q + 100 * c + 4 * u + i + 1) (hi : i = 3) (h : u ≠ 24 ∨ c = 3) : lp Y = 1 := by
  rw [lp_if, if_pos]
  omega
theorem step {k : Int} (hk : 0 < k) (y : Int) : (y + 1 - 1) / k = (y - 1) / k + if y % k = 0 then 1 else 0 := by
  have a := dm y hk
  rw [Int.add_sub_cancel]
  split
  · have e : (y - 1) / k = y / k - 1 := quo hk (by rw [Int.mul_sub]; omega) (by rw [Int.mul_sub]; omega)
    rw [e, Int.sub_add_cancel]
  · have e : (y - 1) / k = y / k := quo hk (by omega) (by omega)
    rw [e, Int.add_zero]
theorem jan1_succ (y : Int) : jan1 (y + 1) = jan1 y + 365 + lp y := by
  rw [lp_if]; unfold jan1
  rw [step (by decide) y, step (by decide) y, step (by decide) y]
  generalize (y - 1) / 4 = a, (y - 1) / 100 = b, (y - 1) / 400 = c
  by_cases h4 : y % 400 = 0
  · have h3 : y % 100 = 0 := by omega
    have h2 : y % 4 = 0 := by omega
    rw [if_pos h4, if_pos h3, if_pos h2, if_pos ⟨h2, .inr h4⟩]
    omega
  · rw [if_neg h4]
    by_cases h3 : y % 100 = 0
    · have h2 : y % 4 = 0 := by omega
      rw [if_pos h3, if_pos h2, if_neg (fun q => q.2.elim (fun q => q h3) h4)]
      omega
    · rw [if_neg h3]
      by_cases h2 : y % 4 = 0
      · rw [if_pos h2, if_pos ⟨h2, .inl h3⟩]
        omega
      · rw [if_neg h2, if_neg (fun q => h2 q.1)]
        omega
theorem jan1_mono {a b : Int} (h : a < b) : jan1 (a + 1) ≤ jan1 b := by
  have x : (a + 1 - 1) / 4 ≤ (b - 1) / 4 := Int.ediv_le_ediv (by decide) (by omega)
  have z : (a + 1 - 1) / 400 ≤ (b - 1) / 400 := Int.ediv_le_ediv (by decide) (by omega)
  unfold jan1; omega
/-- a day from its place in the cycles -/
theorem g_core {n q c u i d Y : Int} (e : n - 1721426 = 146097 * q + 36524 * c + 1461 * u + 365 * i + d) (hc : 0 ≤ c ∧ c ≤ 3) (hu : 0 ≤ u ∧ u ≤ 24) (hi : 0 ≤ i ∧ i ≤ 3) (hd : 0 ≤ d ∧ d ≤ 365)
    (h : d = 365 → i = 3 ∧ (u ≠ 24 ∨ c = 3)) (hY : Y = 400 * q + 100 * c + 4 * u + i + 1) : (jan1 Y ≤ n ∧ n < jan1 (Y + 1)) ∧ n - jan1 Y = d := by
  rw [jan1_succ, g_jan hc hu hi hY]
  have l := lp_01 Y
  have : d = 365 → lp Y = 1 := fun x => g_lp hc hu hY (h x).1 (h x).2
  omega
/-- the project's year -/
theorem g_all (n : Int) : (jan1 (gY n) ≤ n ∧ n < jan1 (gY n + 1)) ∧ ((n - 1721426) % 146097 / 36524 = 4 → gY n % 400 = 0 ∧ n - jan1 (gY n) = 365) ∧ ((n - 1721426) % 146097 % 36524 % 1461 / 365 = 4 → n - jan1 (gY n) = 365) ∧
    ((n - 1721426) % 146097 / 36524 ≠ 4 → (n - 1721426) % 146097 % 36524 % 1461 / 365 ≠ 4 → n - jan1 (gY n) = (n - 1721426) % 146097 % 36524 % 1461 % 365) := by
  rw [gY]
  have a1 := dm (n - 1721426) (k := 146097) (by decide)
  generalize (n - 1721426) / 146097 = q at *
  generalize (n - 1721426) % 146097 = r1 at *
  have a2 := dm r1 (k := 36524) (by decide)
  generalize r1 / 36524 = c at *
  generalize r1 % 36524 = r2 at *
  have a3 := dm r2 (k := 1461) (by decide)
  generalize r2 / 1461 = u at *
  generalize r2 % 1461 = r3 at *
  have a4 := dm r3 (k := 365) (by decide)
  generalize r3 / 365 = i at *
  generalize r3 % 365 = d at *
  obtain ⟨a1, a11, a12⟩ := a1
  obtain ⟨rfl, a21, a22⟩ := a2
  obtain ⟨rfl, a31, a32⟩ := a3
  obtain ⟨rfl, a41, a42⟩ := a4
  by_cases h4 : c = 4
  · subst h4
    have x : u = 0 ∧ i = 0 ∧ d = 0 := by omega
    obtain ⟨rfl, rfl, rfl⟩ := x
    rw [if_pos (.inl rfl)]
    have z := g_core (n := n) (q := q) (c := 3) (u := 24) (i := 3) (d := 365) (by omega) (by decide) (by decide) (by decide) (by decide) (fun _ => by decide) rfl
    rw [show q * 400 + 4 * 100 + 0 * 4 + 0 = 400 * q + 100 * 3 + 4 * 24 + 3 + 1 from by omega]
    exact ⟨z.1, fun _ => ⟨by omega, z.2⟩, fun _ => z.2, fun h => absurd rfl h⟩
  · have c3 : 0 ≤ c ∧ c ≤ 3 := by omega
    have u24 : 0 ≤ u ∧ u ≤ 24 := by omega
    by_cases h5 : i = 4
    · subst h5
      have x : d = 0 := by omega
      subst x
      rw [if_pos (.inr rfl)]
      have z := g_core (n := n) (q := q) (c := c) (u := u) (i := 3) (d := 365) (by omega) c3 u24 (by decide) (by decide) (fun _ => by omega) rfl
      rw [show q * 400 + c * 100 + u * 4 + 4 = 400 * q + 100 * c + 4 * u + 3 + 1 from by omega]
      exact ⟨z.1, fun h => absurd h h4, fun _ => z.2, fun _ h => absurd rfl h⟩
    · rw [if_neg (fun h => h.elim h4 h5)]
      have z := g_core (n := n) (q := q) (c := c) (u := u) (i := i) (d := d) (by omega) c3 u24 (by omega) (by omega) (fun _ => by omega) rfl
      rw [show q * 400 + c * 100 + u * 4 + i + 1 = 400 * q + 100 * c + 4 * u + i + 1 from by omega]
      exact ⟨z.1, fun h => absurd h h4, fun h => absurd h h5, fun _ _ => z.2⟩
theorem gY_spec (n : Int) : jan1 (gY n) ≤ n ∧ n < jan1 (gY n + 1) := (g_all n).1
/-- a year is told by its days, where each year begins after the one before -/
theorem uniq_of {f : Int → Int} (mono : ∀ {a b}, a < b → f (a + 1) ≤ f b) {y z n : Int} (h : f y ≤ n) (h2 : n < f (y + 1)) (a : f z ≤ n ∧ n < f (z + 1)) : y = z := by
  rcases Int.lt_trichotomy y z with q | q | q
  · exact absurd (Int.le_trans (mono q) a.1) (Int.not_le.mpr h2)
  · exact q
  · exact absurd (Int.le_trans (mono q) h) (Int.not_le.mpr a.2)
theorem gY_uniq {y n : Int} (h : jan1 y ≤ n) (h2 : n < jan1 (y + 1)) : y = gY n := uniq_of jan1_mono h h2 (gY_spec n)
theorem months_tab : ∀ (l : Fin 2) (m : Fin 12) (d : Fin 31), (d.val : Int) + 1 ≤ mLen l.val (m.val + 1) → 0 ≤ cum l.val (m.val + 1) + (d.val + 1) - 1 ∧ cum l.val (m.val + 1) + (d.val + 1) - 1 < 365 + l.val ∧ (m.val : Int) + 1 = mOf l.val (cum l.val (m.val + 1) + (d.val + 1) - 1) := by
  decide +kernel
theorem mLen_31 {l m : Int} (hl : l = 0 ∨ l = 1) : 28 ≤ mLen l m ∧ mLen l m ≤ 31 := by
  unfold mLen; split
  · omega
  · split <;> decide
theorem months_all {l m d : Int} (hl : l = 0 ∨ l = 1) (hm : 1 ≤ m ∧ m ≤ 12) (hd : 1 ≤ d ∧ d ≤ mLen l m) : 0 ≤ cum l m + d - 1 ∧ cum l m + d - 1 < 365 + l ∧ m = mOf l (cum l m + d - 1) := by
  have t := months_tab
  have hd3 := Int.le_trans hd.2 (mLen_31 (m := m) hl).2
  have q := rng1 (P := fun m => ∀ d : Fin 31, (d.val : Int) + 1 ≤ mLen l m → 0 ≤ cum l m + (d.val + 1) - 1 ∧ cum l m + (d.val + 1) - 1 < 365 + l ∧ m = mOf l (cum l m + (d.val + 1) - 1)) 12 (fun m => by
    rcases hl with rfl | rfl
    · exact t 0 m
    · exact t 1 m) hm.1 hm.2
  exact rng1 (P := fun d => d ≤ mLen l m → 0 ≤ cum l m + d - 1 ∧ cum l m + d - 1 < 365 + l ∧ m = mOf l (cum l m + d - 1)) 31 q hd.1 hd3 hd.2
theorem mOf_tab : ∀ (l : Fin 2) (r : Fin 366), (r.val : Int) < 365 + l.val → 1 ≤ mOf l.val r.val ∧ mOf l.val r.val ≤ 12 ∧ 1 ≤ (r.val : Int) - cum l.val (mOf l.val r.val) + 1 ∧ (r.val : Int) - cum l.val (mOf l.val r.val) + 1 ≤ mLen l.val (mOf l.val r.val) := by
  decide +kernel
theorem mOf_spec {l r : Int} (hl : l = 0 ∨ l = 1) (h0 : 0 ≤ r) (h1 : r < 365 + l) : 1 ≤ mOf l r ∧ mOf l r ≤ 12 ∧ 1 ≤ r - cum l (mOf l r) + 1 ∧ r - cum l (mOf l r) + 1 ≤ mLen l (mOf l r) := by
  have t := mOf_tab
  exact rng (P := fun r => r < 365 + l → 1 ≤ mOf l r ∧ mOf l r ≤ 12 ∧ 1 ≤ r - cum l (mOf l r) + 1 ∧ r - cum l (mOf l r) + 1 ≤ mLen l (mOf l r)) 366 (fun r => by
    rcases hl with rfl | rfl
    · exact t 0 r
    · exact t 1 r) h0 (by omega) h1
theorem cum_bounds {l m d r : Int} (hl : l = 0 ∨ l = 1) (hm : 1 ≤ m) (hm2 : m ≤ 12) (hd : 1 ≤ d) (hd2 : d ≤ mLen l m) (hr : r = cum l m + d - 1) : 0 ≤ r ∧ r < 365 + l := by
  have q := months_all hl ⟨hm, hm2⟩ ⟨hd, hd2⟩
  rw [← hr] at q
  exact ⟨q.1, q.2.1⟩
/-- a date is told by its day: the year begins at `f`, its leap day is `l` -/
theorem date_uniq {f l : Int → Int} (hl : ∀ y, l y = 0 ∨ l y = 1) (hs : ∀ y, f (y + 1) = f y + 365 + l y) {Y : Int → Int} (hu : ∀ {y n}, f y ≤ n → n < f (y + 1) → y = Y n)
    {y m d n : Int} (hm : 1 ≤ m ∧ m ≤ 12) (hd : 1 ≤ d ∧ d ≤ mLen (l y) m) (h : f y - 1 + cum (l y) m + d = n) :
    y = Y n ∧ m = mOf (l (Y n)) (n - f (Y n)) ∧ d = n - f (Y n) - cum (l (Y n)) m + 1 := by
  have b := months_all (hl y) hm hd
  have e : n - f y = cum (l y) m + d - 1 := by omega
  rw [← e] at b
  have hy : y = Y n := hu (by omega) (by rw [hs]; omega)
  rw [← hy]
  exact ⟨rfl, b.2.2, by omega⟩
theorem date_spec {f l : Int → Int} (hl : ∀ y, l y = 0 ∨ l y = 1) (hs : ∀ y, f (y + 1) = f y + 365 + l y) {y m d n : Int} (a : f y ≤ n ∧ n < f (y + 1)) (hm : m = mOf (l y) (n - f y)) (hd : d = n - f y - cum (l y) m + 1) :
    (1 ≤ m ∧ m ≤ 12) ∧ (1 ≤ d ∧ d ≤ mLen (l y) m) ∧ f y - 1 + cum (l y) m + d = n := by
  rw [hs] at a
  have b := mOf_spec (hl y) (r := n - f y) (by omega) (by omega)
  rw [← hm, ← hd] at b
  exact ⟨⟨b.1, b.2.1⟩, b.2.2, by omega⟩
theorem gM_eq (n : Int) : gM n = mOf (lp (gY n)) (n - jan1 (gY n)) := by rw [gM]
theorem gD_eq (n : Int) : gD n = n - jan1 (gY n) - cum (lp (gY n)) (gM n) + 1 := by rw [gD]
theorem g_uniq {y m d n : Int} (hm : 1 ≤ m ∧ m ≤ 12) (hd : 1 ≤ d ∧ d ≤ gLen y m) (h : gJd y m d = n) : y = gY n ∧ m = gM n ∧ d = gD n := by
  have q := date_uniq lp_01 jan1_succ gY_uniq hm hd h
  rw [← gM_eq] at q
  refine ⟨q.1, q.2.1, ?_⟩
  rw [gD_eq, ← q.2.1]
  exact q.2.2
theorem g_spec (n : Int) : (1 ≤ gM n ∧ gM n ≤ 12) ∧ (1 ≤ gD n ∧ gD n ≤ gLen (gY n) (gM n)) ∧ gJd (gY n) (gM n) (gD n) = n :=
  date_spec lp_01 jan1_succ (gY_spec n) (gM_eq n) (gD_eq n)
theorem gLen_pos (y m : Int) : 1 ≤ gLen y m := Int.le_trans (by decide) (mLen_31 (lp_01 y)).1
theorem gJd_11 (y : Int) : gJd y 1 1 = jan1 y := by unfold gJd cum; simp
/-- a month's days in a list -/
theorem cut {L pre post : List Int} {k : Int} (h : L = pre ++ k :: post) : pre.length < L.length ∧ pre = L.take pre.length ∧ k = L.getD pre.length 0 := by
  subst h
  refine ⟨?_, ?_, ?_⟩
  · rw [List.length_append, List.length_cons]; exact Nat.lt_add_of_pos_right (Nat.succ_pos _)
  · rw [List.take_left]
  · rw [List.getD_eq_getElem?_getD, List.getElem?_append_right (Nat.le_refl _), Nat.sub_self]; rfl
-- Julian
theorem jLp_01 (y : Int) : jLp y = 0 ∨ jLp y = 1 := by
  unfold jLp; split
  · exact .inr rfl
  · exact .inl rfl
theorem jLp_div (y : Int) : y / 4 = (y - 1) / 4 + jLp y := by
  have := step (k := 4) (by decide) y
  rwa [Int.add_sub_cancel] at this
theorem jan1J_succ (y : Int) : jan1J (y + 1) = jan1J y + 365 + jLp y := by
  unfold jan1J
  rw [Int.add_sub_cancel, jLp_div]
  generalize (y - 1) / 4 = a, jLp y = b
  omega
theorem jan1J_mono {a b : Int} (h : a < b) : jan1J (a + 1) ≤ jan1J b := by
  have x : (a + 1 - 1) / 4 ≤ (b - 1) / 4 := Int.ediv_le_ediv (by decide) (by omega)
  unfold jan1J; omega
/-- years of 365 days, and one day more every four years -/
theorem four_spec {z s y : Int} (hy : y = (4 * z + 3 - s) / 1461) : 365 * y + (y + s) / 4 ≤ z ∧ z < 365 * (y + 1) + (y + 1 + s) / 4 := by
  have a := dm (4 * z + 3 - s) (k := 1461) (by decide)
  rw [← hy] at a
  have b := dm (y + s) (k := 4) (by decide)
  have c := dm (y + 1 + s) (k := 4) (by decide)
  generalize (y + s) / 4 = v at *
  generalize (y + 1 + s) / 4 = w at *
  clear hy
  omega
theorem jY_spec (n : Int) : jan1J (jY n) ≤ n ∧ n < jan1J (jY n + 1) := by
  have h := four_spec (z := n - 1721424) (s := 0) (y := jY n - 1) (by rw [jY]; omega)
  simp only [Int.add_zero] at h
  unfold jan1J
  rw [show jY n + 1 - 1 = jY n - 1 + 1 from by omega]
  omega
theorem jY_uniq {y n : Int} (h : jan1J y ≤ n) (h2 : n < jan1J (y + 1)) : y = jY n := uniq_of jan1J_mono h h2 (jY_spec n)
theorem jM_eq (n : Int) : jM n = mOf (jLp (jY n)) (n - jan1J (jY n)) := by rw [jM]
theorem jD_eq (n : Int) : jD n = n - jan1J (jY n) - cum (jLp (jY n)) (jM n) + 1 := by rw [jD]
theorem j_uniq {y m d n : Int} (hm : 1 ≤ m ∧ m ≤ 12) (hd : 1 ≤ d ∧ d ≤ jLen y m) (h : jJd y m d = n) : y = jY n ∧ m = jM n ∧ d = jD n := by
  have q := date_uniq jLp_01 jan1J_succ jY_uniq hm hd h
  rw [← jM_eq] at q
  refine ⟨q.1, q.2.1, ?_⟩
  rw [jD_eq, ← q.2.1]
  exact q.2.2
theorem j_spec (n : Int) : (1 ≤ jM n ∧ jM n ≤ 12) ∧ (1 ≤ jD n ∧ jD n ≤ jLen (jY n) (jM n)) ∧ jJd (jY n) (jM n) (jD n) = n :=
  date_spec jLp_01 jan1J_succ (jY_spec n) (jM_eq n) (jD_eq n)
/-- the month's days in the two rules of thumb -/
theorem thumb_tab : ∀ m : Fin 12, ((m.val : Int) + 1 ≤ 2 → (∀ l : Fin 2, cum l.val (m.val + 1) = cum 0 (m.val + 1)) ∧ 306 * ((m.val : Int) + 1 + 12 + 1) / 10 = cum 0 (m.val + 1) + 428 ∧ 306001 * ((m.val : Int) + 1 + 12 + 1) / 10000 = cum 0 (m.val + 1) + 428) ∧
    (¬ (m.val : Int) + 1 ≤ 2 → (∀ l : Fin 2, cum l.val (m.val + 1) = cum 0 (m.val + 1) + l.val) ∧ 306 * ((m.val : Int) + 1 + 1) / 10 = cum 0 (m.val + 1) + 63 ∧ 306001 * ((m.val : Int) + 1 + 1) / 10000 = cum 0 (m.val + 1) + 63) := by
  decide +kernel
theorem thumb {m l : Int} (hm : 1 ≤ m ∧ m ≤ 12) (hl : l = 0 ∨ l = 1) : (m ≤ 2 → cum l m = cum 0 m ∧ 306 * (m + 12 + 1) / 10 = cum 0 m + 428 ∧ 306001 * (m + 12 + 1) / 10000 = cum 0 m + 428) ∧
    (¬ m ≤ 2 → cum l m = cum 0 m + l ∧ 306 * (m + 1) / 10 = cum 0 m + 63 ∧ 306001 * (m + 1) / 10000 = cum 0 m + 63) :=
  rng1 (P := fun m => (m ≤ 2 → cum l m = cum 0 m ∧ 306 * (m + 12 + 1) / 10 = cum 0 m + 428 ∧ 306001 * (m + 12 + 1) / 10000 = cum 0 m + 428) ∧
    (¬ m ≤ 2 → cum l m = cum 0 m + l ∧ 306 * (m + 1) / 10 = cum 0 m + 63 ∧ 306001 * (m + 1) / 10000 = cum 0 m + 63)) 12 (fun m => by
    have t := thumb_tab m
    rcases hl with rfl | rfl
    · exact ⟨fun h => ⟨(t.1 h).1 0, (t.1 h).2⟩, fun h => ⟨(t.2 h).1 0, (t.2 h).2⟩⟩
    · exact ⟨fun h => ⟨(t.1 h).1 1, (t.1 h).2⟩, fun h => ⟨(t.2 h).1 1, (t.2 h).2⟩⟩) hm.1 hm.2
theorem q1461 (x : Int) : 1461 * x / 4 = 365 * x + x / 4 := by
  rw [show 1461 * x = x + 365 * x * 4 from by omega, Int.add_mul_ediv_right _ _ (by decide), Int.add_comm]
/-- the project's closed form of a Julian date -/
theorem jJd_form {y m d : Int} (hm : 1 ≤ m ∧ m ≤ 12) : jJd y m d = if m ≤ 2 then 1461 * (y - 1 + 4716) / 4 + 306001 * (m + 12 + 1) / 10000 + d - 1524 else 1461 * (y + 4716) / 4 + 306001 * (m + 1) / 10000 + d - 1524 := by
  have t := thumb hm (jLp_01 y)
  unfold jJd jan1J
  split
  · rename_i h
    obtain ⟨a, _, b⟩ := t.1 h
    rw [a, b, q1461, show y - 1 + 4716 = y - 1 + 1179 * 4 from rfl, Int.add_mul_ediv_right _ _ (by decide)]
    generalize (y - 1) / 4 = v
    omega
  · rename_i h
    obtain ⟨a, _, b⟩ := t.2 h
    rw [a, b, q1461, show y + 4716 = y + 1179 * 4 from rfl, Int.add_mul_ediv_right _ _ (by decide), jLp_div y]
    generalize (y - 1) / 4 = v, jLp y = w
    omega
/-- the project's table of the days of a year from March -/
theorem from_tab : ∀ (z : Fin 366), let e : Int := ((z.val : Int) + 123) * 10000 / 306001; let m : Int := if e < 14 then e - 1 else e - 13; let d : Int := (z.val : Int) + 123 - 306001 * e / 10000
    (1 ≤ m ∧ m ≤ 12) ∧ 1 ≤ d ∧ (d ≤ mLen 0 m ∨ ((z.val : Int) + 123 = 488 ∧ m = 2 ∧ d = 29)) ∧ (m ≤ 2 → e = m + 12 + 1) ∧ (¬ m ≤ 2 → e = m + 1) := by
  decide +kernel
theorem from_rows {z e m d : Int} (hz : 123 ≤ z ∧ z ≤ 488) (he : e = z * 10000 / 306001) (hm : m = if e < 14 then e - 1 else e - 13) (hd : d = z - 306001 * e / 10000) :
    (1 ≤ m ∧ m ≤ 12) ∧ 1 ≤ d ∧ (d ≤ mLen 0 m ∨ (z = 488 ∧ m = 2 ∧ d = 29)) ∧ (m ≤ 2 → e = m + 12 + 1) ∧ (¬ m ≤ 2 → e = m + 1) := by
  subst hm hd he
  have t := rng (P := fun z => let e : Int := (z + 123) * 10000 / 306001; let m : Int := if e < 14 then e - 1 else e - 13; let d : Int := z + 123 - 306001 * e / 10000
    (1 ≤ m ∧ m ≤ 12) ∧ 1 ≤ d ∧ (d ≤ mLen 0 m ∨ (z + 123 = 488 ∧ m = 2 ∧ d = 29)) ∧ (m ≤ 2 → e = m + 12 + 1) ∧ (¬ m ≤ 2 → e = m + 1)) 366 from_tab (r := z - 123) (by omega) (by omega)
  rw [Int.sub_add_cancel] at t
  exact t
theorem mLen_0 {l m : Int} (hl : l = 0 ∨ l = 1) : mLen 0 m ≤ mLen l m := by
  unfold mLen; split
  · omega
  · exact Int.le_refl _
/-- the project's way from a day to a Julian date -/
theorem j_from {n c d e : Int} (hc : c = (20 * (n + 1524) - 2442) / 7305) (hd : d = 1461 * c / 4) (he : e = (n + 1524 - d) * 10000 / 306001) {m y dd : Int}
    (hm : m = if e < 14 then e - 1 else e - 13) (hy : y = if m > 2 then c - 4716 else c - 4715) (hdd : dd = n + 1524 - d - 306001 * e / 10000) : y = jY n ∧ m = jM n ∧ dd = jD n := by
  have a := dm (20 * (n + 1524) - 2442) (k := 7305) (by decide)
  rw [← hc] at a
  have b := dm c (k := 4) (by decide)
  have hd2 := hd
  rw [q1461] at hd2
  have hb : (123 ≤ n + 1524 - d ∧ n + 1524 - d ≤ 488) ∧ (n + 1524 - d = 488 → c % 4 = 3) := by
    generalize c / 4 = v at *
    generalize c % 4 = w at *
    clear hc hd he hm hy hdd
    omega
  have r := from_rows hb.1 he hm hdd
  refine j_uniq r.1 ⟨r.2.1, ?_⟩ ?_
  · rcases r.2.2.1 with h | ⟨h1, h2, h3⟩
    · exact Int.le_trans h (mLen_0 (jLp_01 y))
    · have := hb.2 h1
      rw [h2, if_neg (by decide)] at hy
      have l : jLp y = 1 := by unfold jLp; rw [if_pos]; clear a b hd2 he hm hdd hb r; omega
      rw [h3, h2, jLen, l]; decide
  · rw [jJd_form r.1]
    split
    · rename_i h
      rw [← r.2.2.2.1 h]
      rw [if_neg (Int.not_lt.mpr h)] at hy
      rw [show y - 1 + 4716 = c from by rw [hy]; omega, ← hd, hdd]
      omega
    · rename_i h
      rw [← r.2.2.2.2 h]
      rw [if_pos (Int.not_le.mp h)] at hy
      rw [show y + 4716 = c from by rw [hy]; omega, ← hd, hdd]
      omega
-- Islamic
def iLp (y : Int) : Int := if 19 ≤ (3 + 11 * y) % 30 then 1 else 0
def iCum (m : Int) : Int := -((-59) * (m - 1) / 2)
def iLen (y m : Int) : Int := if m = 12 then 29 + iLp y else if m % 2 = 1 then 30 else 29
theorem iLp_01 (y : Int) : iLp y = 0 ∨ iLp y = 1 := by
  unfold iLp; split
  · exact .inr rfl
  · exact .inl rfl
theorem iS_succ (y : Int) : iS (y + 1) = iS y + 354 + iLp y := by unfold iS iLp; split <;> omega
theorem iS_mono {a b : Int} (h : a < b) : iS (a + 1) ≤ iS b := by
  have x : (3 + 11 * (a + 1)) / 30 ≤ (3 + 11 * b) / 30 := Int.ediv_le_ediv (by decide) (by omega)
  unfold iS; omega
theorem iY_spec (n : Int) : iS (iY n) ≤ n ∧ n < iS (iY n + 1) := by
  have h : 10631 * iY n ≤ 30 * (n - 1948440) + 10646 ∧ 30 * (n - 1948440) + 10646 < 10631 * iY n + 10631 := by unfold iY; omega
  unfold iS
  omega
theorem iY_uniq {y n : Int} (h : iS y ≤ n) (h2 : n < iS (y + 1)) : y = iY n := uniq_of iS_mono h h2 (iY_spec n)
theorem iJd_eq (y m d : Int) : iJd y m d = iS y + iCum m + d - 1 := by unfold iJd iS iCum; omega
theorem iM_eq (n : Int) : iM n = min 12 (-((-2) * (n - iS (iY n) - 29) / 59) + 1) := by rw [iM]
theorem iD_eq (n : Int) : iD n = n - iJd (iY n) (iM n) 1 + 1 := by rw [iD]
theorem i_tab : ∀ (l : Fin 2) (m : Fin 12) (d : Fin 30), (d.val : Int) + 1 ≤ (if (m.val : Int) + 1 = 12 then 29 + (l.val : Int) else if ((m.val : Int) + 1) % 2 = 1 then 30 else 29) → 0 ≤ iCum (m.val + 1) + (d.val + 1) - 1 ∧ iCum (m.val + 1) + (d.val + 1) - 1 < 354 + l.val ∧ (m.val : Int) + 1 = min 12 (-((-2) * (iCum (m.val + 1) + (d.val + 1) - 1 - 29) / 59) + 1) := by
  decide +kernel
theorem i_all {y m d : Int} (hm : 1 ≤ m ∧ m ≤ 12) (hd : 1 ≤ d ∧ d ≤ iLen y m) : 0 ≤ iCum m + d - 1 ∧ iCum m + d - 1 < 354 + iLp y ∧ m = min 12 (-((-2) * (iCum m + d - 1 - 29) / 59) + 1) := by
  have t := i_tab
  have l := iLp_01 y
  have hd3 : d ≤ 30 := Int.le_trans hd.2 (by unfold iLen; split <;> (try split) <;> omega)
  have hd2 := hd.2
  unfold iLen at hd2
  have q := rng1 (P := fun m => ∀ d : Fin 30, (d.val : Int) + 1 ≤ (if m = 12 then 29 + iLp y else if m % 2 = 1 then 30 else 29) → 0 ≤ iCum m + (d.val + 1) - 1 ∧ iCum m + (d.val + 1) - 1 < 354 + iLp y ∧ m = min 12 (-((-2) * (iCum m + (d.val + 1) - 1 - 29) / 59) + 1)) 12 (fun m => by
    rcases l with l | l
    · rw [l]; exact t 0 m
    · rw [l]; exact t 1 m) hm.1 hm.2
  exact rng1 (P := fun d => d ≤ (if m = 12 then 29 + iLp y else if m % 2 = 1 then 30 else 29) → 0 ≤ iCum m + d - 1 ∧ iCum m + d - 1 < 354 + iLp y ∧ m = min 12 (-((-2) * (iCum m + d - 1 - 29) / 59) + 1)) 30 q hd.1 hd3 hd2
theorem i_uniq {y m d n : Int} (hm : 1 ≤ m ∧ m ≤ 12) (hd : 1 ≤ d ∧ d ≤ iLen y m) (h : iJd y m d = n) : y = iY n ∧ m = iM n ∧ d = iD n := by
  rw [iJd_eq] at h
  have b := i_all hm hd
  have e : iCum m + d - 1 = n - iS y := by omega
  rw [e] at b
  have hy : y = iY n := iY_uniq (by omega) (by rw [iS_succ]; omega)
  have hmm : m = iM n := by rw [iM_eq, ← hy]; exact b.2.2
  refine ⟨hy, hmm, ?_⟩
  rw [iD_eq, ← hmm, ← hy, iJd_eq]
  omega
theorem i_spec (n : Int) : iJd (iY n) (iM n) (iD n) = n := by
  rw [iD_eq, iJd_eq, iJd_eq]; omega
-- Coptic
theorem cS_mono {a b : Int} (h : a < b) : cS (a + 1) ≤ cS b := by
  have x : (a + 1) / 4 ≤ b / 4 := Int.ediv_le_ediv (by decide) (by omega)
  unfold cS; omega
theorem cY_spec (n : Int) : cS (cY n) ≤ n ∧ n < cS (cY n + 1) := by
  have h := four_spec (z := n - 1825030) (s := 1) (y := cY n - 1) (by rw [cY]; omega)
  rw [Int.sub_add_cancel] at h
  unfold cS
  omega
theorem cY_uniq {y n : Int} (h : cS y ≤ n) (h2 : n < cS (y + 1)) : y = cY n := uniq_of cS_mono h h2 (cY_spec n)
theorem cM_eq (n : Int) : cM n = (n - cS (cY n)) / 30 + 1 := by rw [cM]
theorem cD_eq (n : Int) : cD n = (n - cS (cY n)) % 30 + 1 := by rw [cD]
theorem cJd_11 (y : Int) : cJd y 1 1 = cS y := by unfold cJd cS; omega
theorem c_spec (n : Int) : cJd (cY n) (cM n) (cD n) = n := by
  rw [cM_eq, cD_eq]
  have := cJd_11 (cY n)
  unfold cJd at *
  omega
/-- from rows of four years -/
theorem c_fours {n y r : Int} (hr : n - cS y = r) (h0 : 0 ≤ r) (h1 : n < cS (y + 1)) : y = cY n ∧ r / 30 + 1 = cM n ∧ r % 30 + 1 = cD n := by
  have hy : y = cY n := cY_uniq (by omega) h1
  rw [cM_eq, cD_eq, ← hy, hr]
  exact ⟨rfl, rfl, rfl⟩
-- Indian
theorem nG_eq (n : Int) : nG n = if n < jan1 (gY n) + 80 then gY n - 1 else gY n := by rw [nG]
theorem nM_eq (n : Int) : nM n = nMo (lp (nG n)) (nRest n) := by rw [nM]
theorem nD_eq (n : Int) : nD n = nDo (lp (nG n)) (nRest n) := by rw [nD]
theorem nY_eq (n : Int) : nY n = nG n - 78 := by rw [nY]
theorem nRest_bounds (n : Int) : 0 ≤ nRest n ∧ nRest n < 365 + lp (nG n) := by
  have a := gY_spec n
  have b := jan1_succ (gY n - 1)
  have c := jan1_succ (gY n)
  rw [show gY n - 1 + 1 = gY n from by omega] at b
  have d := lp_01 (gY n - 1)
  have e := lp_01 (gY n)
  unfold nRest
  rw [nG_eq]
  split <;> omega
-- Armenian
theorem aY_eq (n : Int) : aY n = 1 + (n - 1922868) / 365 := rfl
theorem aM_eq (n : Int) : aM n = (n - 1922868) % 365 / 30 + 1 := rfl
theorem aD_eq (n : Int) : aD n = (n - 1922868) % 365 % 30 + 1 := rfl
theorem sS_mono {a b : Int} (h : a < b) : sS (a + 1) ≤ sS b := by
  have x : (a + 1 - 533) / 4 ≤ (b - 533) / 4 := Int.ediv_le_ediv (by decide) (by omega)
  unfold sS; omega
theorem sY_spec (n : Int) : sS (sY n) ≤ n ∧ n < sS (sY n + 1) := by
  have h := four_spec (z := n - 2117212) (s := 0) (y := sY n - 533) (by rw [sY]; omega)
  rw [Int.add_zero, Int.add_zero, show sY n - 533 + 1 = sY n + 1 - 533 from by omega] at h
  unfold sS
  omega
theorem sY_uniq {y n : Int} (h : sS y ≤ n) (h2 : n < sS (y + 1)) : y = sY n := uniq_of sS_mono h h2 (sY_spec n)
theorem sM_eq (n : Int) : sM n = (n - sS (sY n)) / 30 + 1 := by rw [sM]
theorem sD_eq (n : Int) : sD n = (n - sS (sY n)) % 30 + 1 := by rw [sD]
theorem s_fours {n y r : Int} (hr : n - sS y = r) (h0 : 0 ≤ r) (h1 : n < sS (y + 1)) : y = sY n ∧ r / 30 + 1 = sM n ∧ r % 30 + 1 = sD n := by
  have hy : y = sY n := sY_uniq (by omega) h1
  rw [sM_eq, sD_eq, ← hy, hr]
  exact ⟨rfl, rfl, rfl⟩
theorem s_pre {n : Int} (h : 2117212 ≤ n) : (1 ≤ sM n ∧ sM n ≤ 13) ∧ 533 ≤ sY n ∧ 1 ≤ sD n ∧ sD n ≤ 30 ∧ (sM n = 13 → sY n % 4 = 0 → sD n ≤ 6) ∧ (sM n = 13 → sY n % 4 ≠ 0 → sD n ≤ 5) := by
  have a := sY_spec n
  have hy : 533 ≤ sY n := by rw [sY]; omega
  rw [sM_eq, sD_eq]
  unfold sS at *
  refine ⟨?_, hy, ?_, ?_, ?_, ?_⟩ <;> omega
theorem s_jd {n : Int} : 2117211 + 365 * (sY n - 533) + (sY n - 533) / 4 + ((sM n - 1) * 30 + sD n) = n := by
  rw [sM_eq, sD_eq]; unfold sS; omega
/-- the project's way from a day to the sarkawag date -/
theorem s_from {n k z : Int} (h : 2117212 ≤ n) (hk : k = 4 * (n - 2117211) / 1461) (hz : z = n - 2117211 - (365 * k + k / 4)) :
    (z = 0 → k % 4 = 0 → k - 1 + 533 = sY n ∧ 366 - 1 = n - sS (sY n)) ∧ (z = 0 → k % 4 ≠ 0 → k - 1 + 533 = sY n ∧ 365 - 1 = n - sS (sY n)) ∧ (z ≠ 0 → k + 533 = sY n ∧ z - 1 = n - sS (sY n) ∧ 0 ≤ z - 1) := by
  have f : 365 * k + k / 4 ≤ n - 2117211 ∧ n - 2117211 ≤ 365 * (k + 1) + (k + 1) / 4 := by
    have a := dm (4 * (n - 2117211)) (k := 1461) (by decide)
    rw [← hk] at a
    have b := dm k (k := 4) (by decide)
    have c := dm (k + 1) (k := 4) (by decide)
    generalize k / 4 = v at *
    generalize (k + 1) / 4 = w at *
    clear hk hz
    omega
  have e (i : Int) : sS (i + 533) = 2117212 + (365 * i + i / 4) := by rw [sS, Int.add_sub_cancel]; omega
  have hy (i : Int) (h1 : 2117212 + (365 * i + i / 4) ≤ n) (h2 : n < 2117212 + (365 * (i + 1) + (i + 1) / 4)) : i + 533 = sY n := by
    refine sY_uniq (by rw [e]; exact h1) ?_
    rw [show i + 533 + 1 = i + 1 + 533 from by omega, e]; exact h2
  have j := jLp_div k
  clear hk
  have last : z = 0 → k - 1 + 533 = sY n ∧ 364 + jLp k = n - sS (sY n) := fun q => by
    have l := jLp_01 k
    have y := hy (k - 1) (by omega) (by rw [Int.sub_add_cancel]; omega)
    refine ⟨y, ?_⟩
    rw [← y, e]; omega
  refine ⟨fun q d => ?_, fun q d => ?_, fun q => ?_⟩
  · have l : jLp k = 1 := by unfold jLp; rw [if_pos d]
    have := last q
    rw [l] at this; exact this
  · have l : jLp k = 0 := by unfold jLp; rw [if_neg d]
    have := last q
    rw [l] at this; exact this
  · have y := hy k (by omega) (by omega)
    refine ⟨y, ?_, by omega⟩
    rw [← y, e]; omega
-- Mayan
theorem m_eqs (n : Int) : m1 n = (n - 584283) / 144000 ∧ m2 n = (n - 584283) % 144000 / 7200 ∧ m3 n = (n - 584283) % 7200 / 360 ∧ m4 n = (n - 584283) % 360 / 20 ∧ m5 n = (n - 584283) % 20 := by
  rw [m1, m2, m3, m4, m5]; exact ⟨rfl, rfl, rfl, rfl, rfl⟩
theorem m_jd (n : Int) : 584283 + m1 n * 144000 + m2 n * 7200 + m3 n * 360 + m4 n * 20 + m5 n = n := by
  obtain ⟨h1, h2, h3, h4, h5⟩ := m_eqs n
  omega
-- Positivist
theorem pY_eq (n : Int) : pY n = gY n - 1788 := rfl
theorem pM_eq (n : Int) : pM n = (n - jan1 (gY n)) / 28 + 1 := rfl
theorem pD_eq (n : Int) : pD n = (n - jan1 (gY n)) % 28 + 1 := rfl
theorem gY_late {n : Int} (h : 2374480 ≤ n) : 1789 ≤ gY n := by
  have a := gY_spec n
  rcases Int.lt_or_le (gY n) 1789 with q | q
  · have := jan1_mono q
    have e : jan1 1789 = 2374480 := by decide
    omega
  · exact q
theorem p_pre {n : Int} (h : 2374480 ≤ n) : 1 ≤ pY n ∧ (1 ≤ pM n ∧ pM n ≤ 14) ∧ (1 ≤ pD n ∧ pD n ≤ 28) ∧ (pM n = 14 → pD n ≤ 1 + lp (pY n + 1789 - 1)) := by
  have a := gY_spec n
  rw [jan1_succ] at a
  have b := gY_late h
  have e := lp_01 (gY n)
  rw [pY_eq, pM_eq, pD_eq, show gY n - 1788 + 1789 - 1 = gY n from by omega]
  refine ⟨?_, ?_, ?_, ?_⟩ <;> omega
theorem p_jd (n : Int) : jan1 (pY n + 1789 - 1) - 1 + (pM n - 1) * 28 + pD n = n := by
  rw [pY_eq, pM_eq, pD_eq, show gY n - 1788 + 1789 - 1 = gY n from by omega]; omega
-- ordinal
theorem oD_eq (n : Int) : oD n = n - jan1 (gY n) + 1 := rfl
theorem o_at (n : Int) : cum (lp (gY n)) (gM n) + gD n = oD n := by rw [oD_eq, gD_eq]; omega
/-- the ordinal's own reckoning -/
theorem o_form {l m d t : Int} (hl : l = 0 ∨ l = 1) (hm : 1 ≤ m ∧ m ≤ 12) (hd : 1 ≤ d ∧ d ≤ mLen l m) (ht : t = (if m ≤ 2 then 306 * (m + 1 + 12) / 10 else 306 * (m + 1) / 10) + d - 122 + 59 + l) :
    (if 365 + l < t then t - 365 - l else t) = cum l m + d := by
  have b := months_all hl hm hd
  have q := thumb hm hl
  split at ht
  · rename_i h
    have q := q.1 h
    rw [show m + 1 + 12 = m + 12 + 1 from by omega, q.2.1, ← q.1] at ht
    rw [if_pos (by omega)]
    omega
  · rename_i h
    have q := q.2 h
    rw [q.2.1] at ht
    rw [if_neg (by omega)]
    omega
theorem oD_bounds (n : Int) : 1 ≤ oD n ∧ oD n ≤ 365 + lp (gY n) := by
  have a := gY_spec n
  rw [jan1_succ] at a
  rw [oD_eq]; omega
-- the ways that raise
theorem gLen_no1 {y m d : Int} (h : 1 ≤ d ∧ d ≤ gLen y m) (hm : m = 2) (hl : leapB y = true) : d ≤ 29 := by
  unfold gLen mLen lp at h; simp [hm, hl] at h; omega
theorem gLen_no2 {y m d : Int} (h : 1 ≤ d ∧ d ≤ gLen y m) (hm : m = 2) (hl : leapB y = false) : d ≤ 28 := by
  unfold gLen mLen lp at h; simp [hm, hl] at h; omega
theorem any_iff (m : Int) : ([4, 6, 9, 11].any (fun x => x == m)) = true ↔ m = 4 ∨ m = 6 ∨ m = 9 ∨ m = 11 := by
  simp only [List.any_cons, List.any_nil, Bool.or_false, Bool.or_eq_true, beq_iff_eq]
  exact or_congr eq_comm (or_congr eq_comm (or_congr eq_comm eq_comm))
theorem gLen_no3 {y m d : Int} (h : 1 ≤ d ∧ d ≤ gLen y m) (hm : m ≠ 2) (hl : ([4, 6, 9, 11].any (fun x => x == m)) = true) : d ≤ 30 := by
  have := (any_iff m).mp hl
  unfold gLen mLen at h; rw [if_neg hm, if_pos this] at h; omega
theorem gLen_no4 {y m d : Int} (h : 1 ≤ d ∧ d ≤ gLen y m) (hm : m ≠ 2) : d ≤ 31 := by
  unfold gLen mLen at h; rw [if_neg hm] at h; split at h <;> omega
theorem jLen_1 {y m : Int} (hm : m = 2) (hl : y % 4 = 0) : 29 = jLen y m := by
  unfold jLen mLen jLp; simp [hm, hl]
theorem jLen_2 {y m : Int} (hm : m = 2) (hl : ¬ y % 4 = 0) : 28 = jLen y m := by
  unfold jLen mLen jLp; simp [hm, hl]
theorem jLen_3 {y m : Int} (hm : m ≠ 2) (hl : ([4, 6, 9, 11].any (fun x => x == m)) = true) : 30 = jLen y m := by
  have := (any_iff m).mp hl
  unfold jLen mLen; rw [if_neg hm, if_pos this]
theorem jLen_4 {y m : Int} (hm : m ≠ 2) (hl : ([4, 6, 9, 11].any (fun x => x == m)) = false) : 31 = jLen y m := by
  have : ¬ (m = 4 ∨ m = 6 ∨ m = 9 ∨ m = 11) := fun q => by rw [(any_iff m).mpr q] at hl; cases hl
  unfold jLen mLen; rw [if_neg hm, if_neg this]
/-- the month and the day, as the project reckons them from a year -/
theorem g_from {n Y r m : Int} (hY : Y = gY n) (hr : r = n - gJd Y 1 1) (hm : m = ((r + if r < 58 + lp Y then 0 else 2 - lp Y) * 12 + 373) / 367) : Y = gY n ∧ m = gM n ∧ n - gJd Y m 1 + 1 = gD n := by
  subst hY
  rw [gJd_11] at hr
  have e : m = gM n := by rw [gM, ← hr, hm, mOf]
  refine ⟨rfl, e, ?_⟩
  rw [gD_eq, e]; unfold gJd; omega
theorem g_from1 {n Y : Int} (hY : Y = gY n) (h : n - gJd Y 1 1 < 58 + if leapB Y = true then 1 else 0) :
    Y = gY n ∧ ((n - gJd Y 1 1 + 0) * 12 + 373) / 367 = gM n ∧ n - gJd Y (((n - gJd Y 1 1 + 0) * 12 + 373) / 367) 1 + 1 = gD n :=
  g_from hY rfl (by unfold lp; rw [if_pos h])
theorem g_from2 {n Y : Int} (hY : Y = gY n) (h : ¬ n - gJd Y 1 1 < 58 + if leapB Y = true then 1 else 0) (hl : leapB Y = true) :
    Y = gY n ∧ ((n - gJd Y 1 1 + 1) * 12 + 373) / 367 = gM n ∧ n - gJd Y (((n - gJd Y 1 1 + 1) * 12 + 373) / 367) 1 + 1 = gD n :=
  g_from hY rfl (by unfold lp; rw [if_neg h, if_pos hl]; rfl)
theorem g_from3 {n Y : Int} (hY : Y = gY n) (h : ¬ n - gJd Y 1 1 < 58 + if leapB Y = true then 1 else 0) (hl : leapB Y = false) :
    Y = gY n ∧ ((n - gJd Y 1 1 + 2) * 12 + 373) / 367 = gM n ∧ n - gJd Y (((n - gJd Y 1 1 + 2) * 12 + 373) / 367) 1 + 1 = gD n :=
  g_from hY rfl (by unfold lp; rw [if_neg h, if_neg (by rw [hl]; decide)]; rfl)
theorem a_pre {n : Int} (h : 1922868 ≤ n) : (1 ≤ aM n ∧ aM n ≤ 13) ∧ 1 ≤ aY n ∧ 1 ≤ aD n ∧ aD n ≤ 30 ∧ (aM n = 13 → aD n ≤ 5) := by
  rw [aY_eq, aM_eq, aD_eq]
  refine ⟨?_, ?_, ?_, ?_, ?_⟩ <;> omega
theorem s_pos {n : Int} (h : 2117212 ≤ n) : 0 ≤ sY n - 533 := by have := (s_pre h).2.1; omega
theorem s_pos3 {n : Int} (h : 2117212 ≤ n) (h2 : n - 2117211 - (365 * (4 * (n - 2117211) / 1461) + 4 * (n - 2117211) / 1461 / 4) ≠ 0) : 0 ≤ n - 2117211 - (365 * (4 * (n - 2117211) / 1461) + 4 * (n - 2117211) / 1461 / 4) - 1 :=
  ((s_from h rfl rfl).2.2 h2).2.2
theorem c_from {n Y : Int} (hY : Y = cY n) : Y = cY n ∧ (n - cJd Y 1 1) / 30 + 1 = cM n ∧ n - cJd Y 1 1 - ((n - cJd Y 1 1) / 30 + 1 - 1) * 30 + 1 = cD n := by
  subst hY
  rw [cJd_11, cM_eq, cD_eq]
  refine ⟨rfl, rfl, ?_⟩
  omega
theorem gY_form (n : Int) : ((n - 1721426) % 146097 / 36524 = 4 ∨ (n - 1721426) % 146097 % 36524 % 1461 / 365 = 4 → (n - 1721426) / 146097 * 400 + (n - 1721426) % 146097 / 36524 * 100 + (n - 1721426) % 146097 % 36524 / 1461 * 4 + (n - 1721426) % 146097 % 36524 % 1461 / 365 = gY n) ∧
    (¬ ((n - 1721426) % 146097 / 36524 = 4 ∨ (n - 1721426) % 146097 % 36524 % 1461 / 365 = 4) → (n - 1721426) / 146097 * 400 + (n - 1721426) % 146097 / 36524 * 100 + (n - 1721426) % 146097 % 36524 / 1461 * 4 + (n - 1721426) % 146097 % 36524 % 1461 / 365 + 1 = gY n) := by
  rw [gY]
  exact ⟨fun h => by rw [if_pos h], fun h => by rw [if_neg h]⟩
theorem n_before {n : Int} (h : n - gJd (gY n) 1 1 < 80) : gY n - 78 - 1 = nY n ∧ nM n = (n - gJd (gY n) 1 1 + 100) / 30 + 7 ∧ nD n = (n - gJd (gY n) 1 1 + 100) % 30 + 1 := by
  rw [gJd_11] at *
  have a := gY_spec n
  have b := jan1_succ (gY n - 1)
  rw [show gY n - 1 + 1 = gY n from by omega] at b
  have e : nG n = gY n - 1 := by rw [nG_eq, if_pos (by omega)]
  have d := lp_01 (gY n - 1)
  have r : nRest n = n - jan1 (gY n) + 285 + lp (gY n - 1) := by unfold nRest; rw [e]; omega
  rw [nY_eq, nM_eq, nD_eq, e, r]
  unfold nMo nDo
  rw [if_neg (by omega), if_neg (by omega), if_neg (by omega), if_neg (by omega)]
  refine ⟨?_, ?_, ?_⟩ <;> omega
theorem n_after {n : Int} (h : ¬ n - gJd (gY n) 1 1 < 80) : gY n - 78 = nY n ∧ nM n = nMo (if leapB (gY n) = true then 1 else 0) (n - gJd (gY n) 1 1 - 80) ∧ nD n = nDo (if leapB (gY n) = true then 1 else 0) (n - gJd (gY n) 1 1 - 80) := by
  rw [gJd_11] at *
  have e : nG n = gY n := by rw [nG_eq, if_neg (by omega)]
  have r : nRest n = n - jan1 (gY n) - 80 := by unfold nRest; rw [e]
  rw [nY_eq, nM_eq, nD_eq, e, r]
  exact ⟨rfl, rfl, rfl⟩
theorem gY_pos0 (n : Int) : 0 ≤ n - gJd (gY n) 1 1 := by rw [gJd_11]; have := gY_spec n; omega
theorem ind_pre (b : Bool) (y : Int) : 1 ≤ 22 - (if b = true then (1 : Int) else 0) ∧ 22 - (if b = true then (1 : Int) else 0) ≤ gLen y 3 := by
  have : gLen y 3 = 31 := by unfold gLen mLen; simp
  rw [this]; split <;> omega
theorem n_start (n : Int) : gJd (nY n + 78) 3 (22 - if leapB (nY n + 78) = true then 1 else 0) = jan1 (nG n) + 80 := by
  rw [nY_eq, show nG n - 78 + 78 = nG n from by omega]
  unfold gJd cum lp
  split <;> simp <;> omega
theorem nY78 (n : Int) : nY n + 78 = nG n := by rw [nY_eq]; omega
theorem i_from {n Y : Int} (hY : Y = iY n) : Y = iY n ∧ (if -(-2 * (n - (29 + iJd Y 1 1)) / 59) + 1 < 12 then -(-2 * (n - (29 + iJd Y 1 1)) / 59) + 1 else 12) = iM n ∧
    n - iJd Y (if -(-2 * (n - (29 + iJd Y 1 1)) / 59) + 1 < 12 then -(-2 * (n - (29 + iJd Y 1 1)) / 59) + 1 else 12) 1 + 1 = iD n := by
  subst hY
  have e : (if -(-2 * (n - (29 + iJd (iY n) 1 1)) / 59) + 1 < 12 then -(-2 * (n - (29 + iJd (iY n) 1 1)) / 59) + 1 else 12) = iM n := by
    rw [iM_eq]
    have q : iJd (iY n) 1 1 = iS (iY n) := by rw [iJd_eq]; unfold iCum; omega
    rw [q]
    split <;> omega
  refine ⟨rfl, e, ?_⟩
  rw [iD_eq, e]
theorem o_end1 {y m d : Int} (hp : (1 ≤ m ∧ m ≤ 12) ∧ 1 ≤ d ∧ d ≤ gLen y m) (h : m + 1 ≤ 3) :
    ((306 * (m + 1 + 12) / 10 + d - 122 + 59 + if leapB y = true then 1 else 0) - 365 - if leapB y = true then 1 else 0) = cum (lp y) m + d := by
  have q := o_form (lp_01 y) hp.1 hp.2 (t := 306 * (m + 1 + 12) / 10 + d - 122 + 59 + lp y) (by rw [if_pos (by omega)])
  rw [if_pos (by omega)] at q
  exact q
theorem o_end2 {y m d : Int} (hp : (1 ≤ m ∧ m ≤ 12) ∧ 1 ≤ d ∧ d ≤ gLen y m) (h : ¬ m + 1 ≤ 3) (h2 : (365 + if leapB y = true then 1 else 0) < 306 * (m + 1) / 10 + d - 122 + 59 + if leapB y = true then 1 else 0) :
    ((306 * (m + 1) / 10 + d - 122 + 59 + if leapB y = true then 1 else 0) - 365 - if leapB y = true then 1 else 0) = cum (lp y) m + d := by
  have q := o_form (lp_01 y) hp.1 hp.2 (t := 306 * (m + 1) / 10 + d - 122 + 59 + lp y) (by rw [if_neg (by omega)])
  have h3 : 365 + lp y < 306 * (m + 1) / 10 + d - 122 + 59 + lp y := h2
  rw [if_pos h3] at q
  exact q
theorem o_end3 {y m d : Int} (hp : (1 ≤ m ∧ m ≤ 12) ∧ 1 ≤ d ∧ d ≤ gLen y m) (h : ¬ m + 1 ≤ 3) (h2 : ¬ (365 + if leapB y = true then 1 else 0) < 306 * (m + 1) / 10 + d - 122 + 59 + if leapB y = true then 1 else 0) :
    (306 * (m + 1) / 10 + d - 122 + 59 + if leapB y = true then 1 else 0) = cum (lp y) m + d := by
  have q := o_form (lp_01 y) hp.1 hp.2 (t := 306 * (m + 1) / 10 + d - 122 + 59 + lp y) (by rw [if_neg (by omega)])
  have h3 : ¬ 365 + lp y < 306 * (m + 1) / 10 + d - 122 + 59 + lp y := h2
  rw [if_neg h3] at q
  exact q
theorem o_tr {n k : Int} (hk : 0 ≤ k) : 0 ≤ (oD n - 1 + k) * 12 + 373 := by have := oD_bounds n; omega
theorem o_pre0 {n y : Int} : (1 ≤ ((oD n - 1 + 0) * 12 + 373) / 367 ∧ ((oD n - 1 + 0) * 12 + 373) / 367 ≤ 12) ∧ 1 ≤ (1 : Int) ∧ 1 ≤ gLen y (((oD n - 1 + 0) * 12 + 373) / 367) := by
  have a := oD_bounds n; have b := lp_01 (gY n); exact ⟨by omega, by omega, gLen_pos _ _⟩
theorem o_pre1 {n y : Int} : (1 ≤ ((oD n - 1 + 1) * 12 + 373) / 367 ∧ ((oD n - 1 + 1) * 12 + 373) / 367 ≤ 12) ∧ 1 ≤ (1 : Int) ∧ 1 ≤ gLen y (((oD n - 1 + 1) * 12 + 373) / 367) := by
  have a := oD_bounds n; have b := lp_01 (gY n); exact ⟨by omega, by omega, gLen_pos _ _⟩
theorem o_pre2 {n y : Int} (h : leapB (gY n) = false) : (1 ≤ ((oD n - 1 + 2) * 12 + 373) / 367 ∧ ((oD n - 1 + 2) * 12 + 373) / 367 ≤ 12) ∧ 1 ≤ (1 : Int) ∧ 1 ≤ gLen y (((oD n - 1 + 2) * 12 + 373) / 367) := by
  have a := oD_bounds n
  have b : lp (gY n) = 0 := by unfold lp; rw [h]; rfl
  exact ⟨by omega, by omega, gLen_pos _ _⟩
theorem o_to {n m : Int} (hm : m = gM n) : gY n = gY n ∧ m = gM n ∧ oD n - (cum (lp (gY n)) m + 1) + 1 = gD n := by
  subst hm
  refine ⟨rfl, rfl, ?_⟩
  have := o_at n; omega
theorem o_gM (n : Int) : gM n = mOf (if leapB (gY n) = true then 1 else 0) (oD n - 1) := by
  rw [gM_eq, oD_eq]; unfold lp
  rw [show n - jan1 (gY n) + 1 - 1 = n - jan1 (gY n) from by omega]
theorem o_to0 {n : Int} (h : oD n < 59 + if leapB (gY n) = true then 1 else 0) : ((oD n - 1 + 0) * 12 + 373) / 367 = gM n := by
  rw [o_gM]; unfold mOf; rw [if_pos (by omega)]
theorem o_to1 {n : Int} (h : ¬ oD n < 59 + if leapB (gY n) = true then 1 else 0) (hl : leapB (gY n) = true) : ((oD n - 1 + 1) * 12 + 373) / 367 = gM n := by
  rw [o_gM]; unfold mOf; rw [if_neg (by omega)]; rw [if_pos hl]; rfl
theorem o_to2 {n : Int} (h : ¬ oD n < 59 + if leapB (gY n) = true then 1 else 0) (hl : leapB (gY n) = false) : ((oD n - 1 + 2) * 12 + 373) / 367 = gM n := by
  rw [o_gM]; unfold mOf; rw [if_neg (by omega)]; rw [if_neg (by rw [hl]; decide)]; rfl
theorem p_from1 {n : Int} (a : (n - 1721426) % 146097 % 36524 % 1461 / 365 = 4) :
    (n - 1721426) / 146097 * 400 + (n - 1721426) % 146097 / 36524 * 100 + (n - 1721426) % 146097 % 36524 / 1461 * 4 + (n - 1721426) % 146097 % 36524 % 1461 / 365 - 1 - 1789 + 2 = pY n ∧ 365 / 28 + 1 = pM n ∧ 365 - 365 / 28 * 28 + 1 = pD n := by
  have h := (gY_form n).1 (.inr a)
  have r := (g_all n).2.2.1 a
  rw [pY_eq, pM_eq, pD_eq, r]
  refine ⟨by omega, rfl, rfl⟩
theorem sub_q (a k : Int) : a - a / k * k = a % k := by rw [Int.emod_def, Int.mul_comm]
theorem p_from2 {n z : Int} (hp : 2374480 ≤ n ∧ (gY n % 400 ≠ 0 ∨ n - jan1 (gY n) < 365)) (a : (n - 1721426) % 146097 % 36524 % 1461 / 365 ≠ 4)
    (hz : z = n - 1721426 - (n - 1721426) / 146097 * 146097 - (n - 1721426) % 146097 / 36524 * 36524 - (n - 1721426) % 146097 % 36524 / 1461 * 1461 - (n - 1721426) % 146097 % 36524 % 1461 / 365 * 365) :
    (n - 1721426) / 146097 * 400 + (n - 1721426) % 146097 / 36524 * 100 + (n - 1721426) % 146097 % 36524 / 1461 * 4 + (n - 1721426) % 146097 % 36524 % 1461 / 365 - 1789 + 2 = pY n ∧ z / 28 + 1 = pM n ∧ z - z / 28 * 28 + 1 = pD n := by
  have c4 : (n - 1721426) % 146097 / 36524 ≠ 4 := fun q => by have := (g_all n).2.1 q; omega
  have h := (gY_form n).2 (fun q => q.elim c4 a)
  have r := (g_all n).2.2.2 c4 a
  have ez : z = n - jan1 (gY n) := by rw [r, hz, sub_q, sub_q, sub_q, sub_q]
  rw [pY_eq, pM_eq, pD_eq, ← ez, ← h]
  rw [sub_q]
  refine ⟨?_, rfl, rfl⟩
  generalize (n - 1721426) / 146097 * 400 + (n - 1721426) % 146097 / 36524 * 100 + (n - 1721426) % 146097 % 36524 / 1461 * 4 + (n - 1721426) % 146097 % 36524 % 1461 / 365 = v
  clear hz a h c4
  omega
theorem law_jan (y : Int) : 1721426 + 146097 * ((y - 1) / 400) + 365 * ((y - 1) % 400) + (y - 1) % 400 / 4 - (y - 1) % 400 / 100 = jan1 y := by
  unfold jan1
  have e1 : (y - 1) / 4 = 100 * ((y - 1) / 400) + (y - 1) % 400 / 4 := by omega
  have e2 : (y - 1) / 100 = 4 * ((y - 1) / 400) + (y - 1) % 400 / 100 := by omega
  rw [e1, e2]; omega
theorem lawYear1 {x : Int} (a : -1000000 < x) (b : x < 1000000) : 1970 + x = lawYear x := by unfold lawYear; rw [if_pos ⟨a, b⟩]
theorem lawYear2 {x : Int} (a : -1000000 < x) (b : ¬ x < 1000000) : x % 10 ^ Int.toNat 18 = lawYear x := by
  unfold lawYear; rw [if_neg (fun h => b h.2), if_pos (by omega)]; rfl
theorem lawYear3 {x : Int} (a : ¬ -1000000 < x) : -(-x % 10 ^ Int.toNat 18) = lawYear x := by
  unfold lawYear; rw [if_neg (fun h => a h.1), if_neg (by omega)]; rfl
theorem n_to1 {n : Int} (h : nM n = 1) : gJd (nY n + 78) 3 (22 - if leapB (nY n + 78) = true then 1 else 0) + (nD n - 1) = n := by
  rw [n_start]
  have b := nRest_bounds n
  have c := lp_01 (nG n)
  rw [nM_eq] at h
  rw [nD_eq]
  unfold nMo at h
  unfold nDo
  have r : nRest n = n - jan1 (nG n) - 80 := rfl
  split at h
  · rw [if_pos (by assumption)]; omega
  · split at h <;> omega
theorem n_to2 {n : Int} (h : nM n ≠ 1) : gJd (nY n + 78) 3 (22 - if leapB (nY n + 78) = true then 1 else 0) + (30 + lp (nY n + 78)) + (if 5 < nM n - 2 then 5 else nM n - 2) * 31 + (if 8 ≤ nM n then (nM n - 7) * 30 else 0) + (nD n - 1) = n := by
  rw [n_start, nY78]
  have b := nRest_bounds n
  have c := lp_01 (nG n)
  rw [nM_eq] at *
  rw [nD_eq]
  unfold nMo at *
  unfold nDo
  have r : nRest n = n - jan1 (nG n) - 80 := rfl
  by_cases h1 : nRest n < 30 + lp (nG n)
  · rw [if_pos h1] at h; exact absurd rfl h
  · simp only [if_neg h1] at h ⊢
    by_cases h2 : nRest n - (30 + lp (nG n)) < 155
    · simp only [if_pos h2] at h ⊢
      split <;> split <;> omega
    · simp only [if_neg h2] at h ⊢
      split <;> split <;> omega
theorem n_to3 {n : Int} {k : Int} (h : nM n ≠ 1) (h8 : 8 ≤ nM n) (hk : k = 30 + lp (nY n + 78)) : gJd (nY n + 78) 3 (22 - if leapB (nY n + 78) = true then 1 else 0) + k + (if 5 < nM n - 2 then 5 else nM n - 2) * 31 + (nM n - 7) * 30 + (nD n - 1) = n := by
  have q := n_to2 h
  rw [if_pos h8, ← hk] at q
  exact q
theorem n_to4 {n : Int} {k : Int} (h : nM n ≠ 1) (h8 : ¬ 8 ≤ nM n) (hk : k = 30 + lp (nY n + 78)) : gJd (nY n + 78) 3 (22 - if leapB (nY n + 78) = true then 1 else 0) + k + (if 5 < nM n - 2 then 5 else nM n - 2) * 31 + (nD n - 1) = n := by
  have q := n_to2 h
  rw [if_neg h8, ← hk] at q
  omega
theorem lp_t {y : Int} (h : leapB y = true) : 31 = 30 + lp y := by unfold lp; rw [if_pos h]; rfl
theorem lp_f {y : Int} (h : leapB y = false) : 30 = 30 + lp y := by unfold lp; rw [h]; rfl
theorem rows_tab : ∀ (l : Fin 2) (i : Fin 12), ([31, 28 + (l.val : Int), 31, 30, 31, 30, 31, 31, 30, 31, 30, 31].take i.val).sum = cum l.val (i.val + 1) ∧ [31, 28 + (l.val : Int), 31, 30, 31, 30, 31, 31, 30, 31, 30, 31].getD i.val 0 = mLen l.val (i.val + 1) := by
  decide +kernel
theorem months {l k : Int} {pre post : List Int} (hl : l = 0 ∨ l = 1) (h : [31, 28 + l, 31, 30, 31, 30, 31, 31, 30, 31, 30, 31] = pre ++ k :: post) :
    pre.sum = cum l (pre.length + 1) ∧ k = mLen l (pre.length + 1) ∧ (pre.length : Int) ≤ 11 := by
  obtain ⟨a, b, c⟩ := cut h
  have t := rows_tab
  refine ⟨?_, ?_, Int.ofNat_le.mpr (Nat.le_of_lt_succ a)⟩
  · rcases hl with rfl | rfl
    · exact (congrArg List.sum b).trans (t 0 ⟨_, a⟩).1
    · exact (congrArg List.sum b).trans (t 1 ⟨_, a⟩).1
  · rcases hl with rfl | rfl
    · rw [c]; exact (t 0 ⟨_, a⟩).2
    · rw [c]; exact (t 1 ⟨_, a⟩).2
theorem feb (Y : Int) : (if leapB Y = true then (29 : Int) else 28) = 28 + lp Y := by
  unfold lp; split <;> rfl
theorem febJ (Y : Int) : (if ((Y % 4) == 0) = true then (29 : Int) else 28) = 28 + jLp Y := by
  unfold jLp; simp only [beq_iff_eq]; split <;> rfl
theorem year_sum (l : Int) : ([31, 28 + l, 31, 30, 31, 30, 31, 31, 30, 31, 30, 31] : List Int).sum = 365 + l := by
  simp only [List.sum_cons, List.sum_nil]; omega
theorem g_law {n Y r0 month rest k : Int} {pre post : List Int} (hY : Y = gY n) (hr : r0 = n - jan1 Y) (hE : [31, (if leapB Y = true then 29 else 28), 31, 30, 31, 30, 31, 31, 30, 31, 30, 31] = pre ++ k :: post)
    (hm : month = (pre.length : Int) + 1) (hrest : rest = r0 - pre.sum) (h0 : 0 ≤ rest) (hk : rest < k) : Y = gY n ∧ month = gM n ∧ rest + 1 = gD n := by
  rw [feb] at hE
  obtain ⟨h1, h2, h3⟩ := months (lp_01 Y) hE
  rw [← hm] at h1 h2
  exact g_uniq (by omega) ⟨by omega, by unfold gLen; omega⟩ (by unfold gJd; omega)
theorem g_law_end {n Y r0 rest : Int} (hY : Y = gY n) (hr : r0 = n - jan1 Y) (hrest : rest = r0 - ([31, (if leapB Y = true then 29 else 28), 31, 30, 31, 30, 31, 31, 30, 31, 30, 31] : List Int).sum) (h0 : 0 ≤ rest) : False := by
  have a := gY_spec n
  rw [jan1_succ, ← hY] at a
  rw [feb] at hrest
  rw [year_sum] at hrest
  omega
/-- the law's walk through rows of years -/
theorem g_year {n q c u i r Y : Int} (e : n - 1721426 = 146097 * q + 36524 * c + 1461 * u + 365 * i + r) (hc : 0 ≤ c ∧ c ≤ 3) (hu : 0 ≤ u ∧ u ≤ 24) (hi : 0 ≤ i ∧ i ≤ 3) (hr : 0 ≤ r)
    (h1 : i < 3 → r < 365) (h2 : u < 24 → 365 * i + r < 1461) (h3 : c < 3 → 1461 * u + 365 * i + r < 36524) (h4 : 36524 * c + 1461 * u + 365 * i + r < 146097) (hY : Y = 400 * q + 1 + 100 * c + 4 * u + i) : Y = gY n ∧ r = n - jan1 Y := by
  have z := g_core e hc hu hi (by omega) (fun _ => by omega) (Y := Y) (by omega)
  exact ⟨gY_uniq z.1.1 z.1.2, z.2.symm⟩
-- the words of the three loops
def W (size step r0 y0 : Int) (pre : List Int) (rest year : Int) : Prop :=
  ∃ j : Int, 0 ≤ j ∧ j ≤ (pre.length : Int) ∧ year = y0 + step * j ∧ rest = r0 - size * j ∧ 0 ≤ rest ∧ (j < (pre.length : Int) → rest < size)
theorem W_start {size step r0 y0 : Int} (h : 0 ≤ r0) : W size step r0 y0 [] r0 y0 := ⟨0, by simp, by simp, by simp, by simp, h, by simp⟩
theorem W_yes {size step r0 y0 rest year k : Int} {pre : List Int} (h : W size step r0 y0 pre rest year) (hs : size ≤ rest) : W size step r0 y0 (pre ++ [k]) (rest - size) (year + step) := by
  obtain ⟨j, h1, h2, h3, h4, h5, h6⟩ := h
  have : ¬ j < (pre.length : Int) := fun q => by have := h6 q; omega
  refine ⟨j + 1, by omega, by simp; omega, ?_, ?_, by omega, fun q => ?_⟩
  · rw [h3, Int.mul_add]; omega
  · rw [h4, Int.mul_add]; omega
  · simp at q; omega
theorem W_no {size step r0 y0 rest year k : Int} {pre : List Int} (h : W size step r0 y0 pre rest year) (hs : ¬ size ≤ rest) : W size step r0 y0 (pre ++ [k]) rest year := by
  obtain ⟨j, h1, h2, h3, h4, h5, h6⟩ := h
  exact ⟨j, h1, by simp; omega, h3, h4, h5, fun _ => by omega⟩
theorem W_end {size step r0 y0 rest year : Int} {pre : List Int} {m : Int} (h : W size step r0 y0 pre rest year) (hm : (pre.length : Int) = m) :
    ∃ j : Int, 0 ≤ j ∧ j ≤ m ∧ year = y0 + step * j ∧ rest = r0 - size * j ∧ 0 ≤ rest ∧ (j < m → rest < size) := by
  subst hm; exact h
/-- the three loops together -/
theorem g_three {n r1 y1 r2 y2 r3 y3 : Int} {p1 p2 p3 : List Int} (h1 : W 36524 100 (((n - 1721426) % 146097)) (400 * ((n - 1721426) / 146097) + 1) p1 r1 y1) (l1 : (p1.length : Int) = 3)
    (h2 : W 1461 4 r1 y1 p2 r2 y2) (l2 : (p2.length : Int) = 24) (h3 : W 365 1 r2 y2 p3 r3 y3) (l3 : (p3.length : Int) = 3) : y3 = gY n ∧ r3 = n - jan1 y3 := by
  obtain ⟨c, a1, a2, a3, a4, a5, a6⟩ := W_end h1 l1
  obtain ⟨u, b1, b2, b3, b4, b5, b6⟩ := W_end h2 l2
  obtain ⟨i, c1, c2, c3, c4, c5, c6⟩ := W_end h3 l3
  have d := dm (n - 1721426) (k := 146097) (by decide)
  generalize (n - 1721426) / 146097 = q at *
  generalize (n - 1721426) % 146097 = R at *
  subst a3 a4
  subst b3 b4
  clear h1 h2 h3 l1 l2 l3
  refine g_year (q := q) (c := c) (u := u) (i := i) ?_ ⟨a1, a2⟩ ⟨b1, b2⟩ ⟨c1, c2⟩ c5 c6 ?_ ?_ ?_ ?_
  · omega
  · intro h; have := b6 h; omega
  · intro h; have := a6 h; omega
  · omega
  · omega
-- Julian
theorem j_law {n Y r0 month rest k : Int} {pre post : List Int} (hY : Y = jY n) (hr : r0 = n - jan1J Y) (hE : [31, (if ((Y % 4) == 0) = true then 29 else 28), 31, 30, 31, 30, 31, 31, 30, 31, 30, 31] = pre ++ k :: post)
    (hm : month = (pre.length : Int) + 1) (hrest : rest = r0 - pre.sum) (h0 : 0 ≤ rest) (hk : rest < k) : Y = jY n ∧ month = jM n ∧ rest + 1 = jD n := by
  rw [febJ] at hE
  obtain ⟨h1, h2, h3⟩ := months (jLp_01 Y) hE
  rw [← hm] at h1 h2
  exact j_uniq (by omega) ⟨by omega, by unfold jLen; omega⟩ (by unfold jJd; omega)
theorem j_law_end {n Y r0 rest : Int} (hY : Y = jY n) (hr : r0 = n - jan1J Y) (hrest : rest = r0 - ([31, (if ((Y % 4) == 0) = true then 29 else 28), 31, 30, 31, 30, 31, 31, 30, 31, 30, 31] : List Int).sum) (h0 : 0 ≤ rest) : False := by
  have a := jY_spec n
  rw [jan1J_succ, ← hY] at a
  rw [febJ] at hrest
  rw [year_sum] at hrest
  omega
theorem j_one {n r y : Int} {p : List Int} (h : W 365 1 (((n - 1721424) % 1461)) (4 * ((n - 1721424) / 1461) + 1) p r y) (l : (p.length : Int) = 3) : y = jY n ∧ r = n - jan1J y := by
  obtain ⟨i, c1, c2, c3, c4, c5, c6⟩ := W_end h l
  have d := dm (n - 1721424) (k := 1461) (by decide)
  generalize (n - 1721424) / 1461 = q at *
  generalize (n - 1721424) % 1461 = R at *
  clear h l
  rw [Int.one_mul] at c3
  have e : (y - 1) / 4 = q := by clear c4 c5 c6 d; exact quo (by decide) (by omega) (by omega)
  have hj : r = n - jan1J y := by unfold jan1J; rw [e]; clear c1 c2 c5 c6 e; omega
  refine ⟨jY_uniq (by omega) ?_, hj⟩
  rw [jan1J_succ]
  have l := jLp_01 y
  clear e
  rcases Int.lt_or_le i 3 with h | h
  · have := c6 h; omega
  · have : jLp y = 1 := by unfold jLp; rw [if_pos]; clear hj l c5 c6; omega
    omega
-- Indian
theorem rows11_tab : ∀ (l : Fin 2) (i : Fin 11), let L : List Int := [30 + (l.val : Int), 31, 31, 31, 31, 31, 30, 30, 30, 30, 30]; let s : Int := (L.take i.val).sum; let k : Int := L.getD i.val 0
    (i.val = 0 ∧ s = 0 ∧ k = 30 + (l.val : Int)) ∨ ((0 < i.val ∧ i.val < 6) ∧ s = 30 + (l.val : Int) + 31 * ((i.val : Int) - 1) ∧ k = 31) ∨ ((5 < i.val ∧ i.val < 11) ∧ s = 30 + (l.val : Int) + 155 + 30 * ((i.val : Int) - 6) ∧ k = 30) := by
  decide +kernel
theorem months11 {l k : Int} {pre post : List Int} (h : [30 + l, 31, 31, 31, 31, 31, 30, 30, 30, 30, 30] = pre ++ k :: post) (hl : l = 0 ∨ l = 1) {r : Int} (h0 : 0 ≤ r - pre.sum) (hk : r - pre.sum < k) :
    (pre.length : Int) + 1 = nMo l r ∧ r - pre.sum + 1 = nDo l r := by
  obtain ⟨a, b, c⟩ := cut h
  have b := congrArg List.sum b
  have t : let L : List Int := [30 + l, 31, 31, 31, 31, 31, 30, 30, 30, 30, 30]; let s : Int := (L.take pre.length).sum; let k : Int := L.getD pre.length 0
    (pre.length = 0 ∧ s = 0 ∧ k = 30 + l) ∨ ((0 < pre.length ∧ pre.length < 6) ∧ s = 30 + l + 31 * ((pre.length : Int) - 1) ∧ k = 31) ∨ ((5 < pre.length ∧ pre.length < 11) ∧ s = 30 + l + 155 + 30 * ((pre.length : Int) - 6) ∧ k = 30) := by
    have t := rows11_tab
    rcases hl with rfl | rfl
    · exact t 0 ⟨_, a⟩
    · exact t 1 ⟨_, a⟩
  dsimp only at t
  rw [← b, ← c] at t
  clear h a b c
  generalize pre.sum = s at *
  generalize pre.length = j at *
  unfold nMo nDo
  rcases t with ⟨rfl, rfl, rfl⟩ | ⟨⟨a, b⟩, rfl, rfl⟩ | ⟨⟨a, b⟩, rfl, rfl⟩
  · rw [if_pos (by omega), if_pos (by omega)]; omega
  · have e : r - (30 + l) = r - (30 + l + 31 * ((j : Int) - 1)) + 31 * ((j : Int) - 1) := by omega
    rw [if_neg (by omega), if_pos (by omega), if_neg (by omega), if_pos (by omega), quo (q := (j : Int) - 1) (by decide) (by omega) (by omega), e, Int.add_mul_emod_self_left, Int.emod_eq_of_lt h0 hk]
    omega
  · have e : r - (30 + l) - 155 = r - (30 + l + 155 + 30 * ((j : Int) - 6)) + 30 * ((j : Int) - 6) := by omega
    rw [if_neg (by omega), if_neg (by omega), if_neg (by omega), if_neg (by omega), quo (q := (j : Int) - 6) (by decide) (by omega) (by omega), e, Int.add_mul_emod_self_left, Int.emod_eq_of_lt h0 hk]
    omega
theorem n_law {n Y r0 month rest k x : Int} {pre post : List Int} (hY : Y = nG n) (hr : r0 = n - jan1 Y - 80) (hx : x = 30 + lp Y) (hE : [x, 31, 31, 31, 31, 31, 30, 30, 30, 30, 30] = pre ++ k :: post)
    (hm : month = (pre.length : Int) + 1) (hrest : rest = r0 - pre.sum) (h0 : 0 ≤ rest) (hk : rest < k) : Y - 78 = nY n ∧ month = nM n ∧ rest + 1 = nD n := by
  subst hx
  have q := months11 hE (lp_01 Y) (r := r0) (by omega) (by omega)
  have r : nRest n = r0 := by unfold nRest; rw [← hY]; omega
  rw [nY_eq, nM_eq, nD_eq, r, ← hY, ← q.1, ← q.2]
  omega
theorem n_law_end {n Y r0 month rest x : Int} (hY : Y = nG n) (hr : r0 = n - jan1 Y - 80) (hx : x = 30 + lp Y)
    (hm : month = (([x, 31, 31, 31, 31, 31, 30, 30, 30, 30, 30] : List Int).length : Int) + 1) (hrest : rest = r0 - ([x, 31, 31, 31, 31, 31, 30, 30, 30, 30, 30] : List Int).sum) (h0 : 0 ≤ rest) : Y - 78 = nY n ∧ month = nM n ∧ rest + 1 = nD n := by
  subst hx
  have r : nRest n = r0 := by unfold nRest; rw [← hY]; omega
  have b := nRest_bounds n
  have c := lp_01 Y
  rw [nY_eq, nM_eq, nD_eq]
  rw [← hY, r] at *
  simp only [List.sum_cons, List.sum_nil, List.length_cons, List.length_nil] at hrest hm
  unfold nMo nDo
  rw [if_neg (by omega), if_neg (by omega), if_neg (by omega), if_neg (by omega)]
  omega
-- Islamic
theorem isl_tab : ∀ j : Fin 30, if ([2, 5, 7, 10, 13, 16, 18, 21, 24, 26, 29].any (fun x => x == 1 + (j.val : Int))) = true then (25 + 11 * (j.val : Int)) / 30 = (14 + 11 * (j.val : Int)) / 30 + 1 else (25 + 11 * (j.val : Int)) / 30 = (14 + 11 * (j.val : Int)) / 30 := by
  decide +kernel
theorem isl {j : Int} (hj : 0 ≤ j) (h30 : j < 30) : if ([2, 5, 7, 10, 13, 16, 18, 21, 24, 26, 29].any (fun x => x == 1 + j)) = true then (25 + 11 * j) / 30 = (14 + 11 * j) / 30 + 1 else (25 + 11 * j) / 30 = (14 + 11 * j) / 30 :=
  rng (P := fun j => if ([2, 5, 7, 10, 13, 16, 18, 21, 24, 26, 29].any (fun x => x == 1 + j)) = true then (25 + 11 * j) / 30 = (14 + 11 * j) / 30 + 1 else (25 + 11 * j) / 30 = (14 + 11 * j) / 30) 30 isl_tab hj h30
theorem isl_in {j k : Int} (hj : 0 ≤ j) (hk : k = 1 + j) (h30 : j < 30) (h : ([2, 5, 7, 10, 13, 16, 18, 21, 24, 26, 29].any (fun x => x == k)) = true) : (25 + 11 * j) / 30 = (14 + 11 * j) / 30 + 1 := by
  have q := isl hj h30
  rw [← hk, if_pos h] at q
  exact q
theorem isl_out {j k : Int} (hj : 0 ≤ j) (hk : k = 1 + j) (h30 : j < 30) (h : ([2, 5, 7, 10, 13, 16, 18, 21, 24, 26, 29].any (fun x => x == k)) = false) : (25 + 11 * j) / 30 = (14 + 11 * j) / 30 := by
  have q := isl hj h30
  rw [← hk, h, if_neg Bool.false_ne_true] at q
  exact q
/-- the word of the loop over the thirty years: the rest and the place -/
def V (r0 : Int) (pre : List Int) (rest place : Int) : Prop :=
  rest = r0 - (354 * (pre.length : Int) + (14 + 11 * (pre.length : Int)) / 30) ∧ 0 ≤ rest ∧ (place = (pre.length : Int) ∨ (pre.length : Int) = 0)
theorem V_start {r0 p : Int} (h : 0 ≤ r0) : V r0 [] r0 p := ⟨by simp, h, .inr rfl⟩
theorem V_in {r0 rest place k : Int} {pre : List Int} (h : V r0 pre rest place) (hk : k = 1 + (pre.length : Int)) (hl : pre.length < 30) (hs : ([2, 5, 7, 10, 13, 16, 18, 21, 24, 26, 29].any (fun x => x == k)) = true) (hr : ¬ rest < 355) : V r0 (pre ++ [k]) (rest - 355) k := by
  obtain ⟨a, b, c⟩ := h
  have q := isl_in (by omega) hk (by omega) hs
  refine ⟨?_, by omega, .inl (by simp; omega)⟩
  simp only [List.length_append, List.length_cons, List.length_nil]
  omega
theorem V_out {r0 rest place k : Int} {pre : List Int} (h : V r0 pre rest place) (hk : k = 1 + (pre.length : Int)) (hl : pre.length < 30) (hs : ([2, 5, 7, 10, 13, 16, 18, 21, 24, 26, 29].any (fun x => x == k)) = false) (hr : ¬ rest < 354) : V r0 (pre ++ [k]) (rest - 354) k := by
  obtain ⟨a, b, c⟩ := h
  have q := isl_out (by omega) hk (by omega) hs
  refine ⟨?_, by omega, .inl (by simp; omega)⟩
  simp only [List.length_append, List.length_cons, List.length_nil]
  omega
theorem iS_row (w j : Int) : iS (30 * w + (1 + j)) = 1948440 + 10631 * w + 354 * j + (14 + 11 * j) / 30 := by
  unfold iS
  rw [show 3 + 11 * (30 * w + (1 + j)) = 14 + 11 * j + 11 * w * 30 from by omega, Int.add_mul_ediv_right _ _ (by decide)]
  omega
theorem V_e {n k rest place : Int} {pre : List Int} (h : V (((n - 1948440) % 10631)) pre rest place) (hk : k = 1 + (pre.length : Int)) : rest = n - iS (30 * ((n - 1948440) / 10631) + k) := by
  obtain ⟨a, _⟩ := h
  have d := (dm (n - 1948440) (k := 10631) (by decide)).1
  rw [hk, iS_row]
  omega
theorem V_leap {n k rest place : Int} {pre : List Int} (h : V (((n - 1948440) % 10631)) pre rest place) (hk : k = 1 + (pre.length : Int)) (hl : pre.length < 30)
    (hs : ([2, 5, 7, 10, 13, 16, 18, 21, 24, 26, 29].any (fun x => x == k)) = true) (hr : rest < 355) : 30 * ((n - 1948440) / 10631) + k = iY n ∧ rest = n - iS (30 * ((n - 1948440) / 10631) + k) := by
  have e := V_e h hk
  have b := h.2.1
  have q := isl_in (by omega) hk (by omega) hs
  have l : iLp (30 * ((n - 1948440) / 10631) + k) = 1 := by
    rw [hk]
    generalize (n - 1948440) / 10631 = w
    unfold iLp
    rw [show 3 + 11 * (30 * w + (1 + (pre.length : Int))) = 14 + 11 * (pre.length : Int) + 30 * (11 * w) from by omega, Int.add_mul_emod_self_left, if_pos]
    clear e b h hk hs hr
    omega
  exact ⟨iY_uniq (by omega) (by rw [iS_succ, l]; omega), e⟩
theorem V_plain {n k rest place : Int} {pre : List Int} (h : V (((n - 1948440) % 10631)) pre rest place) (hk : k = 1 + (pre.length : Int)) (hl : pre.length < 30)
    (hr : rest < 354) : 30 * ((n - 1948440) / 10631) + k = iY n ∧ rest = n - iS (30 * ((n - 1948440) / 10631) + k) := by
  have e := V_e h hk
  have b := h.2.1
  have l := iLp_01 (30 * ((n - 1948440) / 10631) + k)
  exact ⟨iY_uniq (by omega) (by rw [iS_succ]; omega), e⟩
theorem V_end {n rest place : Int} {pre : List Int} (h : V (((n - 1948440) % 10631)) pre rest place) (hl : (pre.length : Int) = 30) : False := by
  obtain ⟨a, b, c⟩ := h
  omega
/-- the word of the loop over the months -/
def U (r0 : Int) (pre : List Int) (rest month : Int) : Prop :=
  month = (pre.length : Int) + 1 ∧ rest = r0 - iCum ((pre.length : Int) + 1) ∧ 0 ≤ rest
theorem U_start {r0 : Int} (h : 0 ≤ r0) : U r0 [] r0 1 := by
  refine ⟨rfl, ?_, h⟩
  simp [iCum]
theorem U_even {r0 rest month k : Int} {pre : List Int} (h : U r0 pre rest month) (hk : k = 0 + (pre.length : Int)) (he : (k % 2) = 0) (hr : ¬ rest < 30) : U r0 (pre ++ [k]) (rest - 30) (month + 1) := by
  obtain ⟨a, b, c⟩ := h
  unfold iCum at *
  refine ⟨by simp; omega, ?_, by omega⟩
  simp only [List.length_append, List.length_cons, List.length_nil]
  unfold iCum
  omega
theorem U_odd {r0 rest month k : Int} {pre : List Int} (h : U r0 pre rest month) (hk : k = 0 + (pre.length : Int)) (he : (k % 2) ≠ 0) (hr : ¬ rest < 29) : U r0 (pre ++ [k]) (rest - 29) (month + 1) := by
  obtain ⟨a, b, c⟩ := h
  unfold iCum at *
  refine ⟨by simp; omega, ?_, by omega⟩
  simp only [List.length_append, List.length_cons, List.length_nil]
  unfold iCum
  omega
theorem i_lawE {n Y r0 rest month k : Int} {pre : List Int} (hY : Y = iY n) (hr : r0 = n - iS Y) (h : U r0 pre rest month) (hk : k = 0 + (pre.length : Int)) (hl : pre.length < 11) (he : (k % 2) = 0) (h30 : rest < 30) : Y = iY n ∧ month = iM n ∧ rest + 1 = iD n := by
  obtain ⟨a, b, c⟩ := h
  rw [← a] at b
  exact i_uniq (by omega) ⟨by omega, by unfold iLen; rw [if_neg (by omega)]; split <;> omega⟩ (by rw [iJd_eq]; omega)
theorem i_lawO {n Y r0 rest month k : Int} {pre : List Int} (hY : Y = iY n) (hr : r0 = n - iS Y) (h : U r0 pre rest month) (hk : k = 0 + (pre.length : Int)) (hl : pre.length < 11) (he : (k % 2) ≠ 0) (h30 : rest < 29) : Y = iY n ∧ month = iM n ∧ rest + 1 = iD n := by
  obtain ⟨a, b, c⟩ := h
  rw [← a] at b
  exact i_uniq (by omega) ⟨by omega, by unfold iLen; rw [if_neg (by omega)]; split <;> omega⟩ (by rw [iJd_eq]; omega)
theorem i_lawN {n Y r0 rest month : Int} {pre : List Int} (hY : Y = iY n) (hr : r0 = n - iS Y) (h : U r0 pre rest month) (hl : (pre.length : Int) = 11) : Y = iY n ∧ month = iM n ∧ rest + 1 = iD n := by
  obtain ⟨a, b, c⟩ := h
  rw [← a] at b
  have hm : month = 12 := by omega
  subst hm
  have s := iY_spec n
  rw [iS_succ, ← hY] at s
  refine i_uniq (by omega) ⟨by omega, ?_⟩ (by rw [iJd_eq]; omega)
  unfold iLen; rw [if_pos rfl]
  unfold iCum at b
  omega
-- the words as the walk says them
def WA (n : Int) (pre : List Int) (rest year : Int) : Prop := W 36524 100 (((n - 1721426) % 146097)) (400 * ((n - 1721426) / 146097) + 1) pre rest year
def WB (n : Int) (pre : List Int) (rest year : Int) : Prop := ∃ r1 y1 p1, WA n p1 r1 y1 ∧ (p1.length : Int) = 3 ∧ W 1461 4 r1 y1 pre rest year
def WC (n : Int) (pre : List Int) (rest year : Int) : Prop := ∃ r2 y2 p2, WB n p2 r2 y2 ∧ (p2.length : Int) = 24 ∧ W 365 1 r2 y2 pre rest year
theorem W_pos {size step r0 y0 r y : Int} {p : List Int} (h : W size step r0 y0 p r y) : 0 ≤ r := let ⟨_, _, _, _, _, h, _⟩ := h; h
theorem WA_start (n : Int) : WA n [] (((n - 1721426) % 146097)) (400 * ((n - 1721426) / 146097) + 1) :=
  W_start (by omega)
theorem WA_yes {n rest year k : Int} {pre : List Int} (h : WA n pre rest year) (hs : 36524 ≤ rest) : WA n (pre ++ [k]) (rest - 36524) (year + 100) := W_yes h hs
theorem WA_no {n rest year k : Int} {pre : List Int} (h : WA n pre rest year) (hs : ¬ 36524 ≤ rest) : WA n (pre ++ [k]) rest year := W_no h hs
theorem WB_start {n r y : Int} {p : List Int} (h : WA n p r y) (l : (p.length : Int) = 3) : WB n [] r y := ⟨r, y, p, h, l, W_start (W_pos h)⟩
theorem WB_yes {n rest year k : Int} {pre : List Int} (h : WB n pre rest year) (hs : 1461 ≤ rest) : WB n (pre ++ [k]) (rest - 1461) (year + 4) :=
  let ⟨r, y, p, a, b, c⟩ := h; ⟨r, y, p, a, b, W_yes c hs⟩
theorem WB_no {n rest year k : Int} {pre : List Int} (h : WB n pre rest year) (hs : ¬ 1461 ≤ rest) : WB n (pre ++ [k]) rest year :=
  let ⟨r, y, p, a, b, c⟩ := h; ⟨r, y, p, a, b, W_no c hs⟩
theorem WC_start {n r y : Int} {p : List Int} (h : WB n p r y) (l : (p.length : Int) = 24) : WC n [] r y := ⟨r, y, p, h, l, W_start (let ⟨_, _, _, _, _, c⟩ := h; W_pos c)⟩
theorem WC_yes {n rest year k : Int} {pre : List Int} (h : WC n pre rest year) (hs : 365 ≤ rest) : WC n (pre ++ [k]) (rest - 365) (year + 1) :=
  let ⟨r, y, p, a, b, c⟩ := h; ⟨r, y, p, a, b, W_yes c hs⟩
theorem WC_no {n rest year k : Int} {pre : List Int} (h : WC n pre rest year) (hs : ¬ 365 ≤ rest) : WC n (pre ++ [k]) rest year :=
  let ⟨r, y, p, a, b, c⟩ := h; ⟨r, y, p, a, b, W_no c hs⟩
theorem WC_end {n r y : Int} {p : List Int} (h : WC n p r y) (l : (p.length : Int) = 3) : y = gY n ∧ r = n - jan1 y := by
  obtain ⟨r2, y2, p2, ⟨r1, y1, p1, h1, l1, h2⟩, l2, h3⟩ := h
  exact g_three h1 l1 h2 l2 h3 l
theorem WC_pos {n r y : Int} {p : List Int} (h : WC n p r y) : 0 ≤ r := let ⟨_, _, _, _, _, c⟩ := h; W_pos c
def MO (r0 : Int) (pre : List Int) (rest month : Int) : Prop := month = (pre.length : Int) + 1 ∧ rest = r0 - pre.sum ∧ 0 ≤ rest
theorem MO_start {r : Int} (h : 0 ≤ r) : MO r [] r 1 := ⟨rfl, by simp, h⟩
theorem MO_turn {r0 rest month k : Int} {pre : List Int} (h : MO r0 pre rest month) (hs : ¬ rest < k) : MO r0 (pre ++ [k]) (rest - k) (month + 1) := by
  obtain ⟨a, b, c⟩ := h
  refine ⟨?_, ?_, by omega⟩
  · simp; omega
  · rw [List.sum_append]; simp; omega
theorem g_brk {n Y r0 month rest k : Int} {p pre post : List Int} (h : WC n p r0 Y) (l : (p.length : Int) = 3) (hE : [31, (if leapB Y = true then 29 else 28), 31, 30, 31, 30, 31, 31, 30, 31, 30, 31] = pre ++ k :: post)
    (hm : MO r0 pre rest month) (hk : rest < k) : Y = gY n ∧ month = gM n ∧ rest + 1 = gD n :=
  let q := WC_end h l
  g_law q.1 q.2 hE hm.1 hm.2.1 hm.2.2 hk
theorem g_end {n Y r0 month rest : Int} {p : List Int} (h : WC n p r0 Y) (l : (p.length : Int) = 3) (hm : MO r0 [31, (if leapB Y = true then 29 else 28), 31, 30, 31, 30, 31, 31, 30, 31, 30, 31] rest month) : Y = gY n ∧ month = gM n ∧ rest + 1 = gD n :=
  let q := WC_end h l
  (g_law_end q.1 q.2 hm.2.1 hm.2.2).elim
def WJ (n : Int) (pre : List Int) (rest year : Int) : Prop := W 365 1 (((n - 1721424) % 1461)) (4 * ((n - 1721424) / 1461) + 1) pre rest year
theorem WJ_start (n : Int) : WJ n [] (((n - 1721424) % 1461)) (4 * ((n - 1721424) / 1461) + 1) :=
  W_start (by omega)
theorem WJ_yes {n rest year k : Int} {pre : List Int} (h : WJ n pre rest year) (hs : 365 ≤ rest) : WJ n (pre ++ [k]) (rest - 365) (year + 1) := W_yes h hs
theorem WJ_no {n rest year k : Int} {pre : List Int} (h : WJ n pre rest year) (hs : ¬ 365 ≤ rest) : WJ n (pre ++ [k]) rest year := W_no h hs
theorem WJ_pos {n r y : Int} {p : List Int} (h : WJ n p r y) : 0 ≤ r := W_pos h
theorem j_brk {n Y r0 month rest k : Int} {p pre post : List Int} (h : WJ n p r0 Y) (l : (p.length : Int) = 3) (hE : [31, (if ((Y % 4) == 0) = true then 29 else 28), 31, 30, 31, 30, 31, 31, 30, 31, 30, 31] = pre ++ k :: post)
    (hm : MO r0 pre rest month) (hk : rest < k) : Y = jY n ∧ month = jM n ∧ rest + 1 = jD n :=
  let q := j_one h l
  j_law q.1 q.2 hE hm.1 hm.2.1 hm.2.2 hk
theorem j_end {n Y r0 month rest : Int} {p : List Int} (h : WJ n p r0 Y) (l : (p.length : Int) = 3) (hm : MO r0 [31, (if ((Y % 4) == 0) = true then 29 else 28), 31, 30, 31, 30, 31, 31, 30, 31, 30, 31] rest month) : Y = jY n ∧ month = jM n ∧ rest + 1 = jD n :=
  let q := j_one h l
  (j_law_end q.1 q.2 hm.2.1 hm.2.2).elim
theorem V_pos {r0 r p : Int} {pre : List Int} (h : V r0 pre r p) : 0 ≤ r := h.2.1
theorem nr_pos1 {n : Int} (h : n < jan1 (gY n) + 80) : 0 ≤ n - jan1 (gY n - 1) - 80 := by
  have a := gY_spec n
  have b := jan1_succ (gY n - 1)
  rw [show gY n - 1 + 1 = gY n from by omega] at b
  have d := lp_01 (gY n - 1)
  omega
theorem nG1 {n : Int} (h : n < jan1 (gY n) + 80) : gY n - 1 = nG n := by rw [nG_eq, if_pos h]
theorem nG2 {n : Int} (h : ¬ n < jan1 (gY n) + 80) : gY n = nG n := by rw [nG_eq, if_neg h]
theorem fmod_pos {a b : Int} (h : 0 < b) : 0 ≤ a % b := Int.emod_nonneg _ (by omega)
theorem n_brk {n Y r0 month rest k x : Int} {pre post : List Int} (hY : Y = nG n) (hr : r0 = n - jan1 Y - 80) (hx : x = 30 + lp Y) (hE : [x, 31, 31, 31, 31, 31, 30, 30, 30, 30, 30] = pre ++ k :: post)
    (hm : MO r0 pre rest month) (hk : rest < k) : Y - 78 = nY n ∧ month = nM n ∧ rest + 1 = nD n := n_law hY hr hx hE hm.1 hm.2.1 hm.2.2 hk
theorem n_end {n Y r0 month rest x : Int} (hY : Y = nG n) (hr : r0 = n - jan1 Y - 80) (hx : x = 30 + lp Y) (hm : MO r0 [x, 31, 31, 31, 31, 31, 30, 30, 30, 30, 30] rest month) :
    Y - 78 = nY n ∧ month = nM n ∧ rest + 1 = nD n := n_law_end hY hr hx hm.1 hm.2.1 hm.2.2
theorem c_row {n w i a b x : Int} (ha : (1 + i) / 4 = a) (hb : (1 + i + 1) / 4 = b) (h : n - 1825030 = 1461 * w + 365 * i + a + x) (h0 : 0 ≤ x) (h1 : x < 365 + b - a) :
    1 + 4 * w + i = cY n ∧ x / 30 + 1 = cM n ∧ x % 30 + 1 = cD n := by
  refine c_fours ?_ h0 ?_
  · unfold cS
    rw [show 1 + 4 * w + i = 1 + i + w * 4 from by omega, Int.add_mul_ediv_right _ _ (by decide), ha]
    omega
  · unfold cS
    rw [show 1 + 4 * w + i + 1 = 1 + i + 1 + w * 4 from by omega, Int.add_mul_ediv_right _ _ (by decide), hb]
    omega
theorem s_row {n w i a b x : Int} (ha : i / 4 = a) (hb : (i + 1) / 4 = b) (h : n - 2117212 = 1461 * w + 365 * i + a + x) (h0 : 0 ≤ x) (h1 : x < 365 + b - a) :
    533 + 4 * w + i = sY n ∧ x / 30 + 1 = sM n ∧ x % 30 + 1 = sD n := by
  refine s_fours ?_ h0 ?_
  · unfold sS
    rw [show 533 + 4 * w + i - 533 = i + w * 4 from by omega, Int.add_mul_ediv_right _ _ (by decide), ha]
    omega
  · unfold sS
    rw [show 533 + 4 * w + i + 1 - 533 = i + 1 + w * 4 from by omega, Int.add_mul_ediv_right _ _ (by decide), hb]
    omega
theorem c_rows {n w r Y x : Int} (hw : w = (n - 1825030) / 1461) (hr : r = (n - 1825030) % 1461) (h : (Y = 1 + 4 * w ∧ x = r ∧ r < 365) ∨ (Y = 1 + 4 * w + 1 ∧ x = r - 365 ∧ 365 ≤ r ∧ r - 365 < 365) ∨ (Y = 1 + 4 * w + 1 + 1 ∧ x = r - 365 - 365 ∧ 365 ≤ r - 365 ∧ r - 365 - 365 < 366) ∨ (Y = 1 + 4 * w + 1 + 1 + 1 ∧ x = r - 365 - 365 - 366 ∧ 366 ≤ r - 365 - 365)) :
    Y = cY n ∧ x / 30 + 1 = cM n ∧ x % 30 + 1 = cD n := by
  have e := dm (n - 1825030) (k := 1461) (by decide)
  rw [← hw, ← hr] at e
  obtain ⟨e, e0, e1⟩ := e
  clear hw hr
  rcases h with ⟨rfl, rfl, h⟩ | ⟨rfl, rfl, h, h'⟩ | ⟨rfl, rfl, h, h'⟩ | ⟨rfl, rfl, h⟩
  · rw [← Int.add_zero (1 + 4 * w)]
    exact c_row (i := 0) rfl rfl (by omega) e0 h
  · exact c_row (i := 1) rfl rfl (by omega) (by omega) h'
  · rw [Int.add_assoc (1 + 4 * w)]
    exact c_row (i := 2) rfl rfl (by omega) (by omega) h'
  · rw [Int.add_assoc (1 + 4 * w), Int.add_assoc (1 + 4 * w)]
    exact c_row (i := 3) rfl rfl (by omega) (by omega) (by omega)
theorem s_rows {n w r Y x : Int} (hw : w = (n - 2117212) / 1461) (hr : r = (n - 2117212) % 1461) (h : (Y = 533 + 4 * w ∧ x = r ∧ r < 365) ∨ (Y = 533 + 4 * w + 1 ∧ x = r - 365 ∧ 365 ≤ r ∧ r - 365 < 365) ∨ (Y = 533 + 4 * w + 1 + 1 ∧ x = r - 365 - 365 ∧ 365 ≤ r - 365 ∧ r - 365 - 365 < 365) ∨ (Y = 533 + 4 * w + 1 + 1 + 1 ∧ x = r - 365 - 365 - 365 ∧ 365 ≤ r - 365 - 365)) :
    Y = sY n ∧ x / 30 + 1 = sM n ∧ x % 30 + 1 = sD n := by
  have e := dm (n - 2117212) (k := 1461) (by decide)
  rw [← hw, ← hr] at e
  obtain ⟨e, e0, e1⟩ := e
  clear hw hr
  rcases h with ⟨rfl, rfl, h⟩ | ⟨rfl, rfl, h, h'⟩ | ⟨rfl, rfl, h, h'⟩ | ⟨rfl, rfl, h⟩
  · rw [← Int.add_zero (533 + 4 * w)]
    exact s_row (i := 0) rfl rfl (by omega) e0 h
  · exact s_row (i := 1) rfl rfl (by omega) (by omega) h'
  · rw [Int.add_assoc (533 + 4 * w)]
    exact s_row (i := 2) rfl rfl (by omega) (by omega) h'
  · rw [Int.add_assoc (533 + 4 * w), Int.add_assoc (533 + 4 * w)]
    exact s_row (i := 3) rfl rfl (by omega) (by omega) (by omega)
theorem p_no1 {y m d : Int} (h : 1 ≤ y ∧ (1 ≤ m ∧ m ≤ 14) ∧ (1 ≤ d ∧ d ≤ 28) ∧ (m = 14 → d ≤ 1 + lp (y + 1789 - 1))) (hm : m = 14) (hl : leapB (y + 1789 - 1) = true) : d ≤ 2 := by
  have q := h.2.2.2 hm
  have e := lp_t hl
  omega
theorem p_no2 {y m d : Int} (h : 1 ≤ y ∧ (1 ≤ m ∧ m ≤ 14) ∧ (1 ≤ d ∧ d ≤ 28) ∧ (m = 14 → d ≤ 1 + lp (y + 1789 - 1))) (hm : m = 14) (hl : leapB (y + 1789 - 1) = false) : d = 1 := by
  have q := h.2.2.2 hm
  have e := lp_f hl
  omega
theorem pM_e (n : Int) : pM n = Int.fdiv (n - jan1 (gY n)) 28 + 1 := by rw [pM_eq, Int.fdiv_eq_ediv_of_nonneg _ (by decide)]
theorem pD_e (n : Int) : pD n = Int.fmod (n - jan1 (gY n)) 28 + 1 := by rw [pD_eq, Int.fmod_eq_emod_of_nonneg _ (by decide)]
theorem aY_e (n : Int) : aY n = 1 + Int.fdiv (n - 1922868) 365 := by rw [aY_eq, Int.fdiv_eq_ediv_of_nonneg _ (by decide)]
theorem aM_e (n : Int) : aM n = Int.fmod (n - 1922868) 365 / 30 + 1 := by rw [aM_eq, Int.fmod_eq_emod_of_nonneg _ (by decide)]
theorem aD_e (n : Int) : aD n = Int.fmod (n - 1922868) 365 % 30 + 1 := by rw [aD_eq, Int.fmod_eq_emod_of_nonneg _ (by decide)]
-- leaves of the project's ways from a day to a date
theorem a_from {n dc y mo d : Int} (h1 : n - 1922502 = dc) (h2 : (dc - 1) / 365 = y) (h3 : (dc - 1) % 365 / 30 = mo) (h4 : dc - 365 * y - 30 * mo = d) : y = aY n ∧ mo + 1 = aM n ∧ d = aD n := by
  have e : dc - 1 = n - 1922868 + 365 * 1 := by omega
  rw [e, Int.add_mul_ediv_left _ _ (by decide)] at h2
  rw [e, Int.add_mul_emod_self_left] at h3
  have a := dm (n - 1922868) (k := 365) (by decide)
  have b := dm ((n - 1922868) % 365) (k := 30) (by decide)
  subst h2 h3 h4
  refine ⟨Int.add_comm _ _, rfl, ?_⟩
  rw [aD_eq]
  clear h1
  omega
theorem m_from {n d b e k f t g u i : Int} (h0 : n - 584283 = d) (h1 : d / 144000 = b) (h2 : d % 144000 = e) (h3 : e / 7200 = k) (h4 : e % 7200 = f) (h5 : f / 360 = t) (h6 : f % 360 = g) (h7 : g / 20 = u) (h8 : g % 20 = i) :
    b = m1 n ∧ k = m2 n ∧ t = m3 n ∧ u = m4 n ∧ i = m5 n := by
  subst h0 h1 h2 h3 h4 h5 h6 h7 h8
  obtain ⟨e1, e2, e3, e4, e5⟩ := m_eqs n
  rw [e1, e2, e3, e4, e5, Int.emod_emod_of_dvd _ (by decide : (7200 : Int) ∣ 144000), Int.emod_emod_of_dvd _ (by decide : (360 : Int) ∣ 7200), Int.emod_emod_of_dvd _ (by decide : (20 : Int) ∣ 360)]
  exact ⟨rfl, rfl, rfl, rfl, rfl⟩
theorem g_w0 {n w a q r c s u t i Y : Int} (h0 : n = w) (h1 : w - 1721426 = a) (h2 : a / 146097 = q) (h3 : a % 146097 = r) (h4 : r / 36524 = c) (h5 : r % 36524 = s) (h6 : s / 1461 = u) (h7 : s % 1461 = t) (h8 : t / 365 = i) (h9 : q * 400 + c * 100 + u * 4 + i = Y)
    (h : c = 4 ∨ i = 4) : Y = gY n := by
  subst h0 h1 h2 h3 h4 h5 h6 h7 h8 h9
  exact (gY_form _).1 h
theorem g_w1 {n w a q r c s u t i Y Z : Int} (h0 : n = w) (h1 : w - 1721426 = a) (h2 : a / 146097 = q) (h3 : a % 146097 = r) (h4 : r / 36524 = c) (h5 : r % 36524 = s) (h6 : s / 1461 = u) (h7 : s % 1461 = t) (h8 : t / 365 = i) (h9 : q * 400 + c * 100 + u * 4 + i = Y)
    (h10 : Y + 1 = Z) (hc : ¬ c = 4) (hi : ¬ i = 4) : Z = gY n := by
  subst h0 h1 h2 h3 h4 h5 h6 h7 h8 h9 h10
  exact (gY_form _).2 fun h => h.elim hc hi
theorem g_fin {n w Y yd k m d : Int} (h0 : n = w) (hY : Y = gY n) (h1 : w - gJd Y 1 1 = yd) (h2 : ((yd + k) * 12 + 373) / 367 = m) (h3 : w - gJd Y m 1 + 1 = d) (hk : k = if yd < 58 + lp Y then 0 else 2 - lp Y) : Y = gY n ∧ m = gM n ∧ d = gD n := by
  subst h0 h1 h2 h3
  exact g_from hY rfl (by rw [hk])
theorem g_fin1 {n w Y yd k m d : Int} (h0 : n = w) (hY : Y = gY n) (h1 : w - gJd Y 1 1 = yd) (hk : 0 = k) (h2 : ((yd + k) * 12 + 373) / 367 = m) (h3 : w - gJd Y m 1 + 1 = d) (h : yd < 58 + if leapB Y = true then 1 else 0) : Y = gY n ∧ m = gM n ∧ d = gD n :=
  g_fin h0 hY h1 h2 h3 (by unfold lp; rw [if_pos h, hk])
theorem g_fin2 {n w Y yd k m d : Int} (h0 : n = w) (hY : Y = gY n) (h1 : w - gJd Y 1 1 = yd) (hk : 1 = k) (h2 : ((yd + k) * 12 + 373) / 367 = m) (h3 : w - gJd Y m 1 + 1 = d) (h : ¬ yd < 58 + if leapB Y = true then 1 else 0) (hl : leapB Y = true) : Y = gY n ∧ m = gM n ∧ d = gD n :=
  g_fin h0 hY h1 h2 h3 (by unfold lp; rw [if_neg h, if_pos hl, ← hk]; rfl)
theorem g_fin3 {n w Y yd k m d : Int} (h0 : n = w) (hY : Y = gY n) (h1 : w - gJd Y 1 1 = yd) (hk : 2 = k) (h2 : ((yd + k) * 12 + 373) / 367 = m) (h3 : w - gJd Y m 1 + 1 = d) (h : ¬ yd < 58 + if leapB Y = true then 1 else 0) (hl : leapB Y = false) : Y = gY n ∧ m = gM n ∧ d = gD n :=
  g_fin h0 hY h1 h2 h3 (by unfold lp; rw [if_neg h, if_neg (by rw [hl]; decide), ← hk]; rfl)
theorem j_fin {n a b c d e m y dd : Int} (h0 : n = a) (h1 : a + 1524 = b) (h2 : (20 * b - 2442) / 7305 = c) (h3 : 1461 * c / 4 = d) (h4 : (b - d) * 10000 / 306001 = e) (hm : m = if e < 14 then e - 1 else e - 13) (hy : y = if m > 2 then c - 4716 else c - 4715)
    (h5 : b - d - 306001 * e / 10000 = dd) : y = jY n ∧ m = jM n ∧ dd = jD n := by
  subst h0 h1 h5
  exact j_from h2.symm h3.symm h4.symm hm hy rfl
theorem j_mA {e m : Int} (h : e < 14) (h1 : e - 1 = m) : m = if e < 14 then e - 1 else e - 13 := by rw [if_pos h, h1]
theorem j_mB {e m : Int} (h : ¬ e < 14) (h1 : e - 13 = m) : m = if e < 14 then e - 1 else e - 13 := by rw [if_neg h, h1]
theorem j_yA {m c y : Int} (h : 2 < m) (h1 : c - 4716 = y) : y = if m > 2 then c - 4716 else c - 4715 := by rw [if_pos h, h1]
theorem j_yB {m c y : Int} (h : ¬ 2 < m) (h1 : c - 4715 = y) : y = if m > 2 then c - 4716 else c - 4715 := by rw [if_neg h, h1]
theorem tr365 : (365 : Int) = 4 ∨ (365 : Int) = 1461 ∨ (365 : Int) = 365 ∨ (365 : Int) = 30 ∨ (365 : Int) = 10 ∨ (365 : Int) = 367 := by decide
theorem tr30 : (30 : Int) = 4 ∨ (30 : Int) = 1461 ∨ (30 : Int) = 365 ∨ (30 : Int) = 30 ∨ (30 : Int) = 10 ∨ (30 : Int) = 367 := by decide
theorem tr1461 : (1461 : Int) = 4 ∨ (1461 : Int) = 1461 ∨ (1461 : Int) = 365 ∨ (1461 : Int) = 30 ∨ (1461 : Int) = 10 ∨ (1461 : Int) = 367 := by decide
theorem tr4 : (4 : Int) = 4 ∨ (4 : Int) = 1461 ∨ (4 : Int) = 365 ∨ (4 : Int) = 30 ∨ (4 : Int) = 10 ∨ (4 : Int) = 367 := by decide
theorem s_row30 {n z mo d y : Int} (h : y + 533 = sY n ∧ z - 1 = n - sS (sY n)) (h1 : (z - 1) / 30 = mo) (h2 : z - 30 * mo = d) : y + 533 = sY n ∧ mo + 1 = sM n ∧ d = sD n := by
  have b := dm (z - 1) (k := 30) (by decide)
  rw [sM_eq, sD_eq, ← h.2, ← h1]
  refine ⟨h.1, rfl, ?_⟩
  rw [← h2, ← h1]
  clear h h1 h2
  omega
theorem s_fin1 {n dc k z w y mo d : Int} (h : 2117212 ≤ n) (h0 : n - 2117211 = dc) (h1 : 4 * dc / 1461 = k) (h2 : dc - (365 * k + k / 4) = z) (e : z = 0) (f : k % 4 = 0) (h3 : 366 = w) (h4 : k - 1 = y) (h5 : (w - 1) / 30 = mo) (h6 : w - 30 * mo = d) :
    y + 533 = sY n ∧ mo + 1 = sM n ∧ d = sD n := by
  subst h0 h4 h3
  exact s_row30 ((s_from h h1.symm h2.symm).1 e f) h5 h6
theorem s_fin2 {n dc k z w y mo d : Int} (h : 2117212 ≤ n) (h0 : n - 2117211 = dc) (h1 : 4 * dc / 1461 = k) (h2 : dc - (365 * k + k / 4) = z) (e : z = 0) (f : ¬ k % 4 = 0) (h3 : 365 = w) (h4 : k - 1 = y) (h5 : (w - 1) / 30 = mo) (h6 : w - 30 * mo = d) :
    y + 533 = sY n ∧ mo + 1 = sM n ∧ d = sD n := by
  subst h0 h4 h3
  exact s_row30 ((s_from h h1.symm h2.symm).2.1 e f) h5 h6
theorem s_fin3 {n dc k z mo d : Int} (h : 2117212 ≤ n) (h0 : n - 2117211 = dc) (h1 : 4 * dc / 1461 = k) (h2 : dc - (365 * k + k / 4) = z) (e : ¬ z = 0) (h5 : (z - 1) / 30 = mo) (h6 : z - 30 * mo = d) :
    k + 533 = sY n ∧ mo + 1 = sM n ∧ d = sD n := by
  subst h0
  have q := (s_from h h1.symm h2.symm).2.2 e
  exact s_row30 ⟨q.1, q.2.1⟩ h5 h6
theorem s_finz {n dc k z : Int} (h : 2117212 ≤ n) (h0 : n - 2117211 = dc) (h1 : 4 * dc / 1461 = k) (h2 : dc - (365 * k + k / 4) = z) (e : ¬ z = 0) : 0 ≤ z - 1 := by
  subst h0
  exact ((s_from h h1.symm h2.symm).2.2 e).2.2
theorem c_pos {a b k : Int} (h : 0 ≤ a) (hk : 0 ≤ k) (e : a / k = b) : 0 ≤ b := e ▸ Int.ediv_nonneg h hk
theorem n_pos {n g gr yd : Int} (h1 : gY n = g) (h3 : gJd g 1 1 = gr) (h4 : n - gr = yd) : 0 ≤ yd := by
  subst h1 h3 h4
  exact gY_pos0 n
theorem n_fin1 {n st g y0 gr yd c y1 yd1 yd2 md0 md1 mo d : Int} (h0 : 80 = st) (h1 : gY n = g) (h2 : g - 78 = y0) (h3 : gJd g 1 1 = gr) (h4 : n - gr = yd) (hlt : yd < st) (h5 : y0 - 1 = y1) (h6 : yd + (c + 31 * 5 + 30 * 3 + 10 + st) = yd1) (h7 : yd1 - st = yd2)
    (h8 : yd2 - c = md0) (h9 : md0 - 31 * 5 = md1) (h10 : md1 / 30 + 7 = mo) (h11 : md1 % 30 + 1 = d) : y1 = nY n ∧ mo = nM n ∧ d = nD n := by
  have e : md1 = yd + 100 := by clear h1 h2 h3 h4 h5 h10 h11; omega
  subst h0 h1 h2 h3 h4 h5 h10 h11
  have q := n_before hlt
  rw [e]
  exact ⟨q.1, q.2.1.symm, q.2.2.symm⟩
theorem nc_t {g c : Int} (hl : leapB g = true) (h : 31 = c) : c = 30 + lp g := h ▸ lp_t hl
theorem nc_f {g c : Int} (hl : leapB g = false) (h : 30 = c) : c = 30 + lp g := h ▸ lp_f hl
theorem n_aft {n st g y0 gr yd r : Int} (h0 : 80 = st) (h1 : gY n = g) (h2 : g - 78 = y0) (h3 : gJd g 1 1 = gr) (h4 : n - gr = yd) (hlt : ¬ yd < st) (h5 : yd - st = r) : y0 = nY n ∧ nM n = nMo (lp g) r ∧ nD n = nDo (lp g) r := by
  subst h0 h1 h2 h3 h4 h5
  exact n_after hlt
theorem n_finA {n st g y0 gr yd r c mo d : Int} (h0 : 80 = st) (h1 : gY n = g) (h2 : g - 78 = y0) (h3 : gJd g 1 1 = gr) (h4 : n - gr = yd) (hlt : ¬ yd < st) (h5 : yd - st = r) (hc : c = 30 + lp g) (h : r < c) (h6 : 1 = mo) (h7 : r + 1 = d) : y0 = nY n ∧ mo = nM n ∧ d = nD n := by
  have q := n_aft h0 h1 h2 h3 h4 hlt h5
  rw [hc] at h
  rw [q.2.1, q.2.2, nMo, nDo, if_pos h, if_pos h]
  exact ⟨q.1, h6.symm, h7.symm⟩
theorem n_finB {n st g y0 gr yd r c mo d k : Int} (h0 : 80 = st) (h1 : gY n = g) (h2 : g - 78 = y0) (h3 : gJd g 1 1 = gr) (h4 : n - gr = yd) (hlt : ¬ yd < st) (h5 : yd - st = r) (hc : c = 30 + lp g) (h : ¬ r < c) (h6 : r - c = k) (h7 : k < 31 * 5) (h8 : k / 31 + 2 = mo) (h9 : k % 31 + 1 = d) :
    y0 = nY n ∧ mo = nM n ∧ d = nD n := by
  have q := n_aft h0 h1 h2 h3 h4 hlt h5
  rw [hc] at h h6
  rw [q.2.1, q.2.2, nMo, nDo, if_neg h, if_neg h, h6, if_pos (show k < 155 from h7), if_pos (show k < 155 from h7)]
  exact ⟨q.1, h8.symm, h9.symm⟩
theorem n_finC {n st g y0 gr yd r c mo d k j : Int} (h0 : 80 = st) (h1 : gY n = g) (h2 : g - 78 = y0) (h3 : gJd g 1 1 = gr) (h4 : n - gr = yd) (hlt : ¬ yd < st) (h5 : yd - st = r) (hc : c = 30 + lp g) (h : ¬ r < c) (h6 : r - c = k) (h7 : ¬ k < 31 * 5) (h10 : k - 31 * 5 = j) (h8 : j / 30 + 7 = mo) (h9 : j % 30 + 1 = d) :
    y0 = nY n ∧ mo = nM n ∧ d = nD n := by
  have q := n_aft h0 h1 h2 h3 h4 hlt h5
  rw [hc] at h h6
  subst h10
  rw [q.2.1, q.2.2, nMo, nDo, if_neg h, if_neg h, h6, if_neg (show ¬ k < 155 from h7), if_neg (show ¬ k < 155 from h7)]
  exact ⟨q.1, h8.symm, h9.symm⟩
-- rows of four years, of any lengths
def fR (n s : Int) : Int := (n - s) % 1461
def fY (n s y a b c : Int) : Int := if fR n s < a then y + 4 * ((n - s) / 1461) else if fR n s - a < b then y + 4 * ((n - s) / 1461) + 1 else if fR n s - a - b < c then y + 4 * ((n - s) / 1461) + 1 + 1 else y + 4 * ((n - s) / 1461) + 1 + 1 + 1
def fX (n s a b c : Int) : Int := if fR n s < a then fR n s else if fR n s - a < b then fR n s - a else if fR n s - a - b < c then fR n s - a - b else fR n s - a - b - c
theorem f_1 {n s y a b c : Int} (h : (n - s) % 1461 < a) : y + 4 * ((n - s) / 1461) = fY n s y a b c ∧ (n - s) % 1461 / 30 + 1 = fX n s a b c / 30 + 1 ∧ (n - s) % 1461 % 30 + 1 = fX n s a b c % 30 + 1 := by
  unfold fY fX fR; rw [if_pos h, if_pos h]; exact ⟨rfl, rfl, rfl⟩
theorem f_2 {n s y a b c : Int} (h : ¬ (n - s) % 1461 < a) (h2 : (n - s) % 1461 - a < b) : y + 4 * ((n - s) / 1461) + 1 = fY n s y a b c ∧ ((n - s) % 1461 - a) / 30 + 1 = fX n s a b c / 30 + 1 ∧ ((n - s) % 1461 - a) % 30 + 1 = fX n s a b c % 30 + 1 := by
  unfold fY fX fR; rw [if_neg h, if_neg h, if_pos h2, if_pos h2]; exact ⟨rfl, rfl, rfl⟩
theorem f_3 {n s y a b c : Int} (h : ¬ (n - s) % 1461 < a) (h2 : ¬ (n - s) % 1461 - a < b) (h3 : (n - s) % 1461 - a - b < c) : y + 4 * ((n - s) / 1461) + 1 + 1 = fY n s y a b c ∧ ((n - s) % 1461 - a - b) / 30 + 1 = fX n s a b c / 30 + 1 ∧ ((n - s) % 1461 - a - b) % 30 + 1 = fX n s a b c % 30 + 1 := by
  unfold fY fX fR; rw [if_neg h, if_neg h, if_neg h2, if_neg h2, if_pos h3, if_pos h3]; exact ⟨rfl, rfl, rfl⟩
theorem f_4 {n s y a b c : Int} (h : ¬ (n - s) % 1461 < a) (h2 : ¬ (n - s) % 1461 - a < b) (h3 : ¬ (n - s) % 1461 - a - b < c) : y + 4 * ((n - s) / 1461) + 1 + 1 + 1 = fY n s y a b c ∧ ((n - s) % 1461 - a - b - c) / 30 + 1 = fX n s a b c / 30 + 1 ∧ ((n - s) % 1461 - a - b - c) % 30 + 1 = fX n s a b c % 30 + 1 := by
  unfold fY fX fR; rw [if_neg h, if_neg h, if_neg h2, if_neg h2, if_neg h3, if_neg h3]; exact ⟨rfl, rfl, rfl⟩
theorem f_c (n : Int) : fY n 1825030 1 365 365 366 = cY n ∧ fX n 1825030 365 365 366 / 30 + 1 = cM n ∧ fX n 1825030 365 365 366 % 30 + 1 = cD n := by
  refine c_rows rfl rfl ?_
  unfold fY fX fR
  split
  · exact .inl ⟨rfl, rfl, by assumption⟩
  split
  · exact .inr (.inl ⟨rfl, rfl, by omega, by assumption⟩)
  split
  · exact .inr (.inr (.inl ⟨rfl, rfl, by omega, by assumption⟩))
  · exact .inr (.inr (.inr ⟨rfl, rfl, by omega⟩))
theorem f_s (n : Int) : fY n 2117212 533 365 365 365 = sY n ∧ fX n 2117212 365 365 365 / 30 + 1 = sM n ∧ fX n 2117212 365 365 365 % 30 + 1 = sD n := by
  refine s_rows rfl rfl ?_
  unfold fY fX fR
  split
  · exact .inl ⟨rfl, rfl, by assumption⟩
  split
  · exact .inr (.inl ⟨rfl, rfl, by omega, by assumption⟩)
  split
  · exact .inr (.inr (.inl ⟨rfl, rfl, by omega, by assumption⟩))
  · exact .inr (.inr (.inr ⟨rfl, rfl, by omega⟩))
noncomputable abbrev LS : List Str := looseW q0 loose0
abbrev RetL (vs : List Int) (h₀ : Heap) (L : Addr) (m : Str → Option Value) (news : Led) (s : Shared) (Q : Value → Shared → Prop) : Prop :=
  ∀ (D : Addr) (ts : List Value) (n : Nat) (h' : Heap) (tk' : Nat), IntsAre ts vs → Fr h₀ L h' m → News h₀ L h' ((D, listOf ts.toArray n) :: news) → Q (.ref D) { s with heap := h', toks := tk' }
section
variable {prog : Program} {w : World} {A : Around} {E : Value → Shared → Prop} {s : Shared} {h₀ : Heap} {L a : Addr} {m : Str → Option Value} {K : Frag} {x : Int} {t : Tok}
theorem in_topTup {l : List Value} {dd : Option Addr} {sl : Array (Option Value)} {n : Nat} {ns : List Int} {Q : Value → Shared → Prop} (F : Fr h₀ L s.heap m) (X₀ : K.In h₀)
    (hl : K.lookup a = some ⟨.type "tuple", dd, .seq l.toArray n, sl⟩) (hi : IntsAre l ns) (h : Q (.bool (ns.any (· == x))) s) : wpAny (model prog w) A (compareOp .In (.int x t) (.ref a)) Q E s :=
  in_tuple_ints (tupK (X₀.keeps F.keep) hl) (by simpa using hi) h
end

section
variable {prog : Program} {w : World} {A A₀ : Around} {s : Shared} {K : Frag} {L : Addr} {h₀ base : Heap} {m mg mb : Str → Option Value} {news : Led} {p : Program} {loose : List Str} {mean : ExcName → Option Value}
/-- a def is entered with an empty ledger; what the caller knew is known again behind it -/
theorem enter0 {env : Env} {outer : List Env} {R : Result → Shared → Prop} {name qual : Str} {params : Arguments} {body : List Stmt} {scope : Scope} {dV kV doc pm cdv ct oc : Value} {an od : Option Addr} {osl : Array (Option Value)} {f : Addr} {args : Args} {binds : List (Str × Value)}
    (B : Below A₀ base outer h₀) (F : Fr h₀ L s.heap m) (X₀ : K.In h₀) (N : News h₀ L s.heap news) (T : Top p loose mean mg mb h₀) (hA : A.frames = some (env :: outer)) (hf : env.frame = some L) (hke : env.scope.kind = .function)
    (ho : K.lookup f = some ⟨oc, od, .func (fnOf name qual params body scope dV kV doc pm an cdv ct), osl⟩) (hcd : codeIn K cdv qual = true) (hroom : A.depth < recursionLimit)
    (hbind : BindsTo s (fnOf name qual params body scope dV kV doc pm an cdv ct) args binds) (hloc : ∀ y ∈ binds, scope.names.lookup y.1 = some .local)
    (h : ∀ g L' h₁, (∀ b o, s.heap.get? b = some o → g.get? b = some o) → Fr h₀ L g m → Fr g L' h₁ (fun y => binds.reverse.lookup y) → News g L' h₁ [] → Below A base (env :: outer) g → K.In g → Top p loose mean mg mb g →
      wpAny (model prog w) (A.deeper (envOf qual scope L' f cdv)) (execs body (envOf qual scope L' f cdv))
        (fun fl s' => LeaveK h₀ L m g (fun r s'' => News h₀ L s''.heap news → R r s'') (match fl with | .ret v => v | _ => .none) s')
        (fun e s' => wpAny (model prog w) (A.deeper (envOf qual scope L' f cdv)) (leaving (envOf qual scope L' f cdv) e) (fun _ s'' => R (.error e) s'') (fun e' s'' => R (.error e') s'') s')
        { s with heap := h₁, toks := s.toks + binds.length })
    (hco : scope.isCoroutine = false) (hgen : scope.isGenerator = false) (hk : scope.kind = .function)
    (hcell : ∀ x ∈ scope.names, x.2 ≠ .cell) : codeAny (model prog w) A (.call (.ref f) args) R s := by
  have X := X₀.keeps F.keep
  have B₁ := pushX B F hf hke
  have B₂ : Below A base (env :: outer) s.heap := ⟨hA, B₁.stays, B₁.frames⟩
  refine codeAny_call_def (fd := fnOf name qual params body scope dV kV doc pm an cdv ct) (body := body) (binds := binds) hroom (X _ _ ho) rfl (T.nolimit.keeps F.keep) (codeRec_of X hcd) rfl hbind hcell hloc (fun h₁ hns hk₁ => ?_) hco hgen hk
  refine wpAny_mono (h s.heap s.heap.objs.size h₁ (fun _ _ e => e) F ⟨hns, hk₁, Nat.le_refl _⟩ News.nil B₂ X (T.keeps F.keep)) (fun fl s' hl => ?_) fun _ _ y => y
  obtain ⟨L', m', news', F', N', k⟩ := hl
  obtain ⟨oL, es, ep, hL, hLd, hLk, hLf⟩ := F.ns
  refine k ⟨⟨oL, es, ep, F'.keep L oL hL, hLd, hLk, hLf⟩, fun b o e => F'.keep b o (F.keep b o e), F.above⟩ (fun p hp => ⟨(N' p hp).1, fun q => ?_, ?_⟩) (fun p hp => ⟨F'.keep _ _ (N p hp).1, (N p hp).2.1, (N p hp).2.2⟩)
  · have := (N' p hp).2.2; rw [q, hL] at this; cases this
  · cases q : h₀.get? p.1 with
    | none => rfl
    | some o => have := (N' p hp).2.2; rw [F.keep _ _ q] at this; cases this
variable {Q : Value → Shared → Prop} {news1 news2 : Led} {h' : Heap} {tk' : Nat} {t t1 t2 t3 t4 t5 : Tok} {D : Addr} {n : Nat}
theorem fin1I {x y : Int} (hret : Ret1 (fun t => .int x t) h₀ L m news s Q) (F : Fr h₀ L h' m) (N : News h₀ L h' news) (e : y = x) : Q (.int y t) { s with heap := h', toks := tk' } := by
  subst e
  exact hret t h' tk' F N
theorem fin1B {x y : Bool} (hret : Ret1 (fun _ => .bool x) h₀ L m news s Q) (F : Fr h₀ L h' m) (N : News h₀ L h' news) (e : y = x) : Q (.bool y) { s with heap := h', toks := tk' } := by
  subst e
  exact hret 0 h' tk' F N
theorem fin3 {x1 x2 x3 y1 y2 y3 : Int} (hret : Ret3 x1 x2 x3 h₀ L m news s Q) (F : Fr h₀ L h' m) (N : News h₀ L h' news) (N1 : News h₀ L h' news1) (hm : (D, tup [.int y1 t1, .int y2 t2, .int y3 t3] n) ∈ news1) (e : y1 = x1 ∧ y2 = x2 ∧ y3 = x3) : Q (.ref D) { s with heap := h', toks := tk' } := by
  obtain ⟨rfl, rfl, rfl⟩ := e
  refine hret D t1 t2 t3 n h' tk' F (fun p hp => ?_)
  rcases List.mem_cons.mp hp with rfl | hp
  · exact N1 _ hm
  · exact N p hp
theorem fin2 {x1 x2 y1 y2 : Int} (hret : Ret2 x1 x2 h₀ L m news s Q) (F : Fr h₀ L h' m) (N : News h₀ L h' news) (N1 : News h₀ L h' news1) (hm : (D, tup [.int y1 t1, .int y2 t2] n) ∈ news1) (e : y1 = x1 ∧ y2 = x2) : Q (.ref D) { s with heap := h', toks := tk' } := by
  obtain ⟨rfl, rfl⟩ := e
  refine hret D t1 t2 n h' tk' F (fun p hp => ?_)
  rcases List.mem_cons.mp hp with rfl | hp
  · exact N1 _ hm
  · exact N p hp
theorem fin5 {x1 x2 x3 x4 x5 y1 y2 y3 y4 y5 : Int} (hret : Ret5 x1 x2 x3 x4 x5 h₀ L m news s Q) (F : Fr h₀ L h' m) (N : News h₀ L h' news) (N1 : News h₀ L h' news1) (hm : (D, tup [.int y1 t1, .int y2 t2, .int y3 t3, .int y4 t4, .int y5 t5] n) ∈ news1) (e : y1 = x1 ∧ y2 = x2 ∧ y3 = x3 ∧ y4 = x4 ∧ y5 = x5) : Q (.ref D) { s with heap := h', toks := tk' } := by
  obtain ⟨rfl, rfl, rfl, rfl, rfl⟩ := e
  refine hret D t1 t2 t3 t4 t5 n h' tk' F (fun p hp => ?_)
  rcases List.mem_cons.mp hp with rfl | hp
  · exact N1 _ hm
  · exact N p hp
theorem finL {xs : List Int} {l : List Value} (hret : RetL xs h₀ L m news s Q) (F : Fr h₀ L h' m) (N : News h₀ L h' news) (N1 : News h₀ L h' news1) (hm : (D, listOf l.toArray n) ∈ news1) (e : IntsAre l xs) : Q (.ref D) { s with heap := h', toks := tk' } := by
  refine hret D l n h' tk' e F (fun p hp => ?_)
  rcases List.mem_cons.mp hp with rfl | hp
  · exact N1 _ hm
  · exact N p hp
end
abbrev CtrT (prog : Program) (w : World) (K : Frag) (p : Program) (loose : List Str) (mean : ExcName → Option Value) (mg mb : Str → Option Value) (f : Addr) (vs : List Value) (D₀ : Addr) (oD : Obj) (dep : Nat)
    (Ret : Heap → Addr → (Str → Option Value) → Led → Shared → (Value → Shared → Prop) → Prop) : Prop :=
  ∀ (dp un : Nat) (gd : Option (List Code)) (cn : Str) (cs : Scope) (a : Addr) (ccd : Value) (cl : List (Str × Addr)) (outer : List Env) (A₀ : Around) (base h₀ : Heap) (L : Addr) (m : Str → Option Value) (news : Led) (s : Shared) (Q E : Value → Shared → Prop),
    (D₀, oD) ∈ news → Below A₀ base outer h₀ → Fr h₀ L s.heap m → K.In h₀ → News h₀ L s.heap news → Top p loose mean mg mb h₀ → cs.kind = .function →
    dp + dep < recursionLimit → un + 8 * dep < cLine → Ret h₀ L m news s Q →
      wpAny (model prog w) (ktrTop dp un gd cn cs L a ccd cl outer) (call (.ref f) vs) Q E s
section
variable {prog : Program} {w : World} {A A₀ : Around} {s : Shared} {K : Frag} {L : Addr} {h₀ base : Heap} {m mg mb : Str → Option Value} {news : Led} {p : Program} {loose : List Str} {mean : ExcName → Option Value} {D₀ : Addr} {oD : Obj}
theorem useT {f : Addr} {vs : List Value} {dep : Nat} {Ret : Heap → Addr → (Str → Option Value) → Led → Shared → (Value → Shared → Prop) → Prop} {dp un : Nat} {gd : Option (List Code)} {cn : Str} {cs : Scope} {a : Addr} {ccd : Value} {cl : List (Str × Addr)} {outer : List Env} {Q E : Value → Shared → Prop}
    (C : CtrT prog w K p loose mean mg mb f vs D₀ oD dep Ret) (hm : (D₀, oD) ∈ news) (B : Below A₀ base outer h₀) (F : Fr h₀ L s.heap m) (X : K.In h₀) (N : News h₀ L s.heap news) (T : Top p loose mean mg mb h₀) (hk : cs.kind = .function)
    (hd : dp + dep < recursionLimit) (hu : un + 8 * dep < cLine) (h : Ret h₀ L m news s Q) :
    wpAny (model prog w) (ktrTop dp un gd cn cs L a ccd cl outer) (call (.ref f) vs) Q E s := C _ _ _ _ _ _ _ _ _ _ _ _ _ _ _ _ _ _ hm B F X N T hk hd hu h
/-- a def is entered with a ledger of one object, which it gets as an argument -/
theorem enterT {env : Env} {outer : List Env} {R : Result → Shared → Prop} {name qual : Str} {params : Arguments} {body : List Stmt} {scope : Scope} {dV kV doc pm cdv ct oc : Value} {an od : Option Addr} {osl : Array (Option Value)} {f : Addr} {args : Args} {binds : List (Str × Value)}
    (hm : (D₀, oD) ∈ news) (B : Below A₀ base outer h₀) (F : Fr h₀ L s.heap m) (X₀ : K.In h₀) (N : News h₀ L s.heap news) (T : Top p loose mean mg mb h₀) (hA : A.frames = some (env :: outer)) (hf : env.frame = some L) (hke : env.scope.kind = .function)
    (ho : K.lookup f = some ⟨oc, od, .func (fnOf name qual params body scope dV kV doc pm an cdv ct), osl⟩) (hcd : codeIn K cdv qual = true) (hroom : A.depth < recursionLimit)
    (hbind : BindsTo s (fnOf name qual params body scope dV kV doc pm an cdv ct) args binds) (hloc : ∀ y ∈ binds, scope.names.lookup y.1 = some .local)
    (h : ∀ g L' h₁, Fr h₀ L g m → Fr g L' h₁ (fun y => binds.reverse.lookup y) → News g L' h₁ [(D₀, oD)] → Below A base (env :: outer) g → K.In g → Top p loose mean mg mb g →
      wpAny (model prog w) (A.deeper (envOf qual scope L' f cdv)) (execs body (envOf qual scope L' f cdv))
        (fun fl s' => LeaveK h₀ L m g (fun r s'' => (∀ q ∈ news, q.1 ≠ D₀ → s''.heap.get? q.1 = some q.2) → R r s'') (match fl with | .ret v => v | _ => .none) s')
        (fun e s' => wpAny (model prog w) (A.deeper (envOf qual scope L' f cdv)) (leaving (envOf qual scope L' f cdv) e) (fun _ s'' => R (.error e) s'') (fun e' s'' => R (.error e') s'') s')
        { s with heap := h₁, toks := s.toks + binds.length })
    (hco : scope.isCoroutine = false) (hgen : scope.isGenerator = false) (hk : scope.kind = .function)
    (hcell : ∀ x ∈ scope.names, x.2 ≠ .cell) : codeAny (model prog w) A (.call (.ref f) args) R s := by
  have X := X₀.keeps F.keep
  have N₀ : News h₀ L s.heap [(D₀, oD)] := fun q hq => by
    cases hq with
    | head => exact N _ hm
    | tail _ hq => cases hq
  obtain ⟨FG, BG, st, lv⟩ := groundX (R := fun r s'' => (∀ q ∈ news, q.1 ≠ D₀ → s''.heap.get? q.1 = some q.2) → R r s'') B F N₀ hA hf hke
  refine codeAny_call_def (fd := fnOf name qual params body scope dV kV doc pm an cdv ct) (body := body) (binds := binds) hroom (X _ _ ho) rfl (T.nolimit.keeps F.keep) (codeRec_of X hcd) rfl hbind hcell hloc (fun h₁ hns hk₁ => ?_) hco hgen hk
  refine wpAny_mono (h _ s.heap.objs.size h₁ FG ⟨hns, fun b o e => hk₁ b o (of_hideAll _ e), Nat.le_of_eq (hideAll_size _ _)⟩
    (fun q hq => ⟨hk₁ _ _ (N₀ q hq).1, Nat.ne_of_lt (Heap.lt_size (N₀ q hq).1), hideAll_none _ (List.mem_map_of_mem hq)⟩) BG (X₀.keeps st) (T.keeps st)) (fun fl s' hl => ?_) fun _ _ y => y
  refine lv _ _ hl fun q hq hne => ?_
  obtain ⟨L', m', news', F', N', k⟩ := hl
  refine F'.keep _ _ (hideAll_get _ (N q hq).1 fun hc => ?_)
  simp only [List.map_cons, List.map_nil, List.mem_singleton] at hc
  exact hne hc
theorem fin3T {Q : Value → Shared → Prop} {news1 : Led} {h' : Heap} {tk' : Nat} {t1 t2 t3 : Tok} {D : Addr} {n : Nat} {x1 x2 x3 y1 y2 y3 : Int} (hm₀ : (D₀, oD) ∈ news) (N₀ : News h₀ L s.heap news) (hret : Ret3 x1 x2 x3 h₀ L m news s Q) (F : Fr h₀ L h' m)
    (hN : ∀ q ∈ news, q.1 ≠ D₀ → h'.get? q.1 = some q.2) (N1 : News h₀ L h' news1) (hD : (D₀, oD) ∈ news1) (hm : (D, tup [.int y1 t1, .int y2 t2, .int y3 t3] n) ∈ news1) (e : y1 = x1 ∧ y2 = x2 ∧ y3 = x3) : Q (.ref D) { s with heap := h', toks := tk' } := by
  obtain ⟨rfl, rfl, rfl⟩ := e
  refine hret D t1 t2 t3 n h' tk' F (fun q hq => ?_)
  rcases List.mem_cons.mp hq with rfl | hq
  · exact N1 _ hm
  · by_cases hc : q.1 = D₀
    · have a := (N₀ q hq).1
      have b := (N₀ _ hm₀).1
      rw [hc] at a
      have c : q.2 = oD := Option.some.inj (a.symm.trans b)
      exact ⟨by rw [hc, c]; exact (N1 _ hD).1, (N₀ q hq).2⟩
    · exact ⟨hN q hq hc, (N₀ q hq).2⟩
end
theorem ints_of {h₀ h : Heap} {L a : Addr} {news : Led} {vs : List Value} {n : Nat} {ns : List Int} (_N : News h₀ L h news) (_hm : (a, listOf vs.toArray n) ∈ news) (hi : IntsAre vs ns) : IntsAre vs ns := hi
/-- a call from the law's own frame, of a def that catches what a callee raises -/
abbrev CtrS (prog : Program) (w : World) (K : Frag) (p : Program) (loose : List Str) (mean : ExcName → Option Value) (mg mb : Str → Option Value) (f : Addr) (vs : List Value) (dep : Nat)
    (Ret : Heap → Addr → (Str → Option Value) → Led → Shared → (Value → Shared → Prop) → Prop) : Prop :=
  ∀ (dp un : Nat) (gd : Option (List Code)) (cn : Str) (cs : Scope) (a : Addr) (ccd : Value) (A₀ : Around) (base h₀ : Heap) (L : Addr) (m : Str → Option Value) (news : Led) (s : Shared) (Q E : Value → Shared → Prop),
    Below A₀ base [] h₀ → Fr h₀ L s.heap m → K.In h₀ → News h₀ L s.heap news → Top p loose mean mg mb h₀ → K.In base → Top p loose mean mg mb base → cs.kind = .function →
    dp + dep < recursionLimit → un + 8 * dep < cLine → Ret h₀ L m news s Q →
      wpAny (model prog w) (ktrTop dp un gd cn cs L a ccd [] []) (call (.ref f) vs) Q E s
section
variable {prog : Program} {w : World} {A A₀ : Around} {s : Shared} {K : Frag} {L : Addr} {h₀ base : Heap} {m mg mb : Str → Option Value} {news : Led} {p : Program} {loose : List Str} {mean : ExcName → Option Value}
theorem useS {f : Addr} {vs : List Value} {dep : Nat} {Ret : Heap → Addr → (Str → Option Value) → Led → Shared → (Value → Shared → Prop) → Prop} {dp un : Nat} {gd : Option (List Code)} {cn : Str} {cs : Scope} {a : Addr} {ccd : Value} {Q E : Value → Shared → Prop}
    (C : CtrS prog w K p loose mean mg mb f vs dep Ret) (B : Below A₀ base [] h₀) (F : Fr h₀ L s.heap m) (X : K.In h₀) (N : News h₀ L s.heap news) (T : Top p loose mean mg mb h₀) (XB : K.In base) (TB : Top p loose mean mg mb base) (hk : cs.kind = .function)
    (hd : dp + dep < recursionLimit) (hu : un + 8 * dep < cLine) (h : Ret h₀ L m news s Q) :
    wpAny (model prog w) (ktrTop dp un gd cn cs L a ccd [] []) (call (.ref f) vs) Q E s := C _ _ _ _ _ _ _ _ _ _ _ _ _ _ _ _ B F X N T XB TB hk hd hu h
theorem enterS0 {a : Addr} {cn : Str} {cs : Scope} {ccd : Value} {R : Result → Shared → Prop} {name qual : Str} {params : Arguments} {body : List Stmt} {scope : Scope} {dV kV doc pm cdv ct oc : Value} {an od : Option Addr} {osl : Array (Option Value)} {f : Addr} {args : Args} {binds : List (Str × Value)}
    (B : Below A₀ base [] h₀) (F : Fr h₀ L s.heap m) (X₀ : K.In h₀) (N : News h₀ L s.heap news) (T : Top p loose mean mg mb h₀) (hA : A.frames = some [envOf cn cs L a ccd])
    (ho : K.lookup f = some ⟨oc, od, .func (fnOf name qual params body scope dV kV doc pm an cdv ct), osl⟩) (hcd : codeIn K cdv qual = true) (hroom : A.depth < recursionLimit)
    (hbind : BindsTo s (fnOf name qual params body scope dV kV doc pm an cdv ct) args binds) (hloc : ∀ y ∈ binds, scope.names.lookup y.1 = some .local)
    (h : ∀ g L' h₁, Fr h₀ L g m → Fr g L' h₁ (fun y => binds.reverse.lookup y) → News g L' h₁ [] → Below A base [envOf cn cs L a ccd] g → K.In g → Top p loose mean mg mb g → KtsDicts ([envOf cn cs L a ccd].filterMap (·.frame)) g →
      wpAny (model prog w) (A.deeper (envOf qual scope L' f cdv)) (execs body (envOf qual scope L' f cdv))
        (fun fl s' => LeaveS0 ([envOf cn cs L a ccd].filterMap (·.frame)) h₀ L m g (fun r s'' => News h₀ L s''.heap news → R r s'') (match fl with | .ret v => v | _ => .none) s')
        (fun e s' => wpAny (model prog w) (A.deeper (envOf qual scope L' f cdv)) (leaving (envOf qual scope L' f cdv) e) (fun _ s'' => R (.error e) s'') (fun e' s'' => R (.error e') s'') s')
        { s with heap := h₁, toks := s.toks + binds.length })
    (hck : cs.kind = .function) (hco : scope.isCoroutine = false) (hgen : scope.isGenerator = false) (hk : scope.kind = .function)
    (hcell : ∀ x ∈ scope.names, x.2 ≠ .cell) : codeAny (model prog w) A (.call (.ref f) args) R s := by
  have X := X₀.keeps F.keep
  refine codeAny_call_def (fd := fnOf name qual params body scope dV kV doc pm an cdv ct) (body := body) (binds := binds) hroom (X _ _ ho) rfl (T.nolimit.keeps F.keep) (codeRec_of X hcd) rfl hbind hcell hloc (fun h₁ hns hk₁ => ?_) hco hgen hk
  obtain ⟨oL, es, ep, hLg, hLd, hN, hNs, st, B₂⟩ := kts_enter (news := []) B F News.nil hA hck
  have hLg' : s.heap.get? L = some oL := hLg
  have hfs : ∀ b ∈ [envOf cn cs L a ccd].filterMap (·.frame), b = L := fun b hb => by
    have e : [envOf cn cs L a ccd].filterMap (·.frame) = [L] := rfl
    rw [e] at hb
    exact List.mem_singleton.mp hb
  refine wpAny_mono (h s.heap s.heap.objs.size h₁ F ⟨hns, hk₁, Nat.le_refl _⟩ News.nil B₂ X (T.keeps F.keep) (fun b hb => ⟨oL, es, ep, by rw [hfs b hb]; exact hLg', hLd⟩)) (fun fl s' hl => ?_) fun _ _ y => y
  obtain ⟨g', L', m', news', T', F', N', k⟩ := hl
  have nL₀ : h₀.get? L = none := kts_self F
  obtain ⟨sl, hs⟩ := T'.up hLg'
  have keep : ∀ b o, s.heap.get? b = some o → b ≠ L → s'.heap.get? b = some o := fun b o e hb => F'.keep b o (T'.other b o e fun q => hb (hfs b q))
  refine k ⟨hNs sl _ (F'.keep _ _ hs), fun b o e => keep b o (F.keep b o e) (fun q => by rw [q, nL₀] at e; cases e), F.above⟩ (fun q hq => ⟨(N' q hq).1, fun z => ?_, ?_⟩) fun q hq => ⟨keep _ _ (N q hq).1 (N q hq).2.1, (N q hq).2⟩
  · have := (N' q hq).2.2; rw [z, hs] at this; cases this
  · cases z : h₀.get? q.1 with
    | none => rfl
    | some o =>
      obtain ⟨sl', hs'⟩ := T'.up (F.keep _ _ z)
      have := (N' q hq).2.2
      rw [hs'] at this
      cases this
end
theorem roomD {dp b c n : Nat} (h : dp + c < n) (k : 1 + b ≤ c) : dp + 1 + b < n := by omega
theorem roomU {un b c n : Nat} (h : un + 8 * c < n) (k : 3 + 8 * b ≤ 8 * c) : un + 3 + 8 * b < n := by omega
theorem roomE {dp c n : Nat} (h : dp + c < n) : dp < n := by omega
theorem roomK {un c n : Nat} (h : un + 8 * c < n) (k : 67 ≤ 8 * c) : un + 3 + 64 < n := by omega
section
variable {prog : Program} {w : World} {A : Around} {E : Value → Shared → Prop} {s : Shared} {h₀ : Heap} {L D1 D2 : Addr} {news : Led} {Q : Value → Shared → Prop} {a b c d e : Int} {t1 t2 t3 t4 t5 u1 u2 u3 u4 u5 : Tok} {n1 n2 : Nat}
theorem ne3 (N : News h₀ L s.heap news) (m1 : (D1, tup [.int a t1, .int b t2, .int c t3] n1) ∈ news) (m2 : (D2, tup [.int a u1, .int b u2, .int c u3] n2) ∈ news) (hu : A.units + 64 < cLine) (h : Q (.bool false) s) :
    wpAny (model prog w) A (compareOp .NotEq (.ref D1) (.ref D2)) Q E s := by
  refine ne_dataH (reads_tuple_at (News.get N m1) rfl rfl (.cons (.int _ _) (.cons (.int _ _) (.cons (.int _ _) .nil)))) (reads_tuple_at (News.get N m2) rfl rfl (.cons (.int _ _) (.cons (.int _ _) (.cons (.int _ _) .nil)))) (by ke_shaped) (by ke_shaped) hu ?_
  simpa [PyData.eqv, PyData.eqvAll] using h
theorem ne2 (N : News h₀ L s.heap news) (m1 : (D1, tup [.int a t1, .int b t2] n1) ∈ news) (m2 : (D2, tup [.int a u1, .int b u2] n2) ∈ news) (hu : A.units + 64 < cLine) (h : Q (.bool false) s) :
    wpAny (model prog w) A (compareOp .NotEq (.ref D1) (.ref D2)) Q E s := by
  refine ne_dataH (reads_tuple_at (News.get N m1) rfl rfl (.cons (.int _ _) (.cons (.int _ _) .nil))) (reads_tuple_at (News.get N m2) rfl rfl (.cons (.int _ _) (.cons (.int _ _) .nil))) (by ke_shaped) (by ke_shaped) hu ?_
  simpa [PyData.eqv, PyData.eqvAll] using h
theorem ne5 (N : News h₀ L s.heap news) (m1 : (D1, tup [.int a t1, .int b t2, .int c t3, .int d t4, .int e t5] n1) ∈ news) (m2 : (D2, tup [.int a u1, .int b u2, .int c u3, .int d u4, .int e u5] n2) ∈ news) (hu : A.units + 64 < cLine) (h : Q (.bool false) s) :
    wpAny (model prog w) A (compareOp .NotEq (.ref D1) (.ref D2)) Q E s := by
  refine ne_dataH (reads_tuple_at (News.get N m1) rfl rfl (.cons (.int _ _) (.cons (.int _ _) (.cons (.int _ _) (.cons (.int _ _) (.cons (.int _ _) .nil)))))) (reads_tuple_at (News.get N m2) rfl rfl (.cons (.int _ _) (.cons (.int _ _) (.cons (.int _ _) (.cons (.int _ _) (.cons (.int _ _) .nil)))))) (by ke_shaped) (by ke_shaped) hu ?_
  simpa [PyData.eqv, PyData.eqvAll] using h
theorem eq3 (N : News h₀ L s.heap news) (m1 : (D1, tup [.int a t1, .int b t2, .int c t3] n1) ∈ news) (m2 : (D2, tup [.int a u1, .int b u2, .int c u3] n2) ∈ news) (hu : A.units + 64 < cLine) (h : Q (.bool true) s) :
    wpAny (model prog w) A (compareOp .Eq (.ref D1) (.ref D2)) Q E s := by
  refine eq_dataH (reads_tuple_at (News.get N m1) rfl rfl (.cons (.int _ _) (.cons (.int _ _) (.cons (.int _ _) .nil)))) (reads_tuple_at (News.get N m2) rfl rfl (.cons (.int _ _) (.cons (.int _ _) (.cons (.int _ _) .nil)))) (by ke_shaped) (by ke_shaped) hu ?_
  simpa [PyData.eqv, PyData.eqvAll] using h
theorem eq2 (N : News h₀ L s.heap news) (m1 : (D1, tup [.int a t1, .int b t2] n1) ∈ news) (m2 : (D2, tup [.int a u1, .int b u2] n2) ∈ news) (hu : A.units + 64 < cLine) (h : Q (.bool true) s) :
    wpAny (model prog w) A (compareOp .Eq (.ref D1) (.ref D2)) Q E s := by
  refine eq_dataH (reads_tuple_at (News.get N m1) rfl rfl (.cons (.int _ _) (.cons (.int _ _) .nil))) (reads_tuple_at (News.get N m2) rfl rfl (.cons (.int _ _) (.cons (.int _ _) .nil))) (by ke_shaped) (by ke_shaped) hu ?_
  simpa [PyData.eqv, PyData.eqvAll] using h
end
inductive SV where
  | i (x : Int) | b (x : Bool) | t (xs : List Int) | l (xs : List Int) | s (x : Str) | c (v : Value)
abbrev Orc := Addr → List SV → (SV → Prop) → Prop
abbrev Rho := List (Str × SV)
noncomputable def cv : Value → SV
  | .int x _ => .i x
  | .bool x => .b x
  | .str x _ => .s x
  | v => .c v
noncomputable def intsOf : List Value → Option (List Int)
  | [] => some []
  | .int x _ :: r => (match intsOf r with | some l => some (x :: l) | none => none)
  | _ => none
noncomputable def tupIn (K : Frag) (a : Addr) : Option (List Int) := match K.lookup a with
  | some ⟨.type "tuple", _, .seq l _, _⟩ => intsOf l.toList
  | _ => none
noncomputable def bootSV (x : Str) : Option Value :=
  if x = Str.ofString "int" then some (.type "int") else if x = Str.ofString "abs" then some (.builtin "abs")
  else if x = Str.ofString "min" then some (.builtin "min") else if x = Str.ofString "divmod" then some (.builtin "divmod") else none
noncomputable def nm (K : Frag) (sc : Scope) (ρ : Rho) (x : Str) (P : SV → Prop) : Prop :=
  if x = Str.ofString "__debug__" then False else
  match sc.names.lookup x with
  | some .local => (match ρ.lookup x with | some v => P v | none => False)
  | some .globalImplicit => (match nsIn K mainGlobals x with
    | some (some V) => P (cv V)
    | some none => (match bootSV x with | some v => P (.c v) | none => False)
    | none => False)
  | _ => False
noncomputable def small (a : Int) : Bool := decide (-2 ^ 64 < a) && decide (a < 2 ^ 64)
noncomputable def divOk (a : Int) : Bool := decide (0 < a) && decide (a < 2 ^ 64)
noncomputable def isLit (sc : Scope) : Expr → Bool
  | .Constant _ _ _ => true
  | .UnaryOp _ (.Constant _ _ _) _ => true
  | .Name x _ => (match sc.names.lookup x with | some .globalImplicit => true | _ => false)
  | _ => false
noncomputable def binI (op : Operator) (lit : Bool) (a b : Int) (P : SV → Prop) : Prop := match op with
  | .Add => P (.i (a + b))
  | .Sub => P (.i (a - b))
  | .Mult => (match (match lit with | true => small a | false => small b) with | true => P (.i (a * b)) | false => False)
  | .FloorDiv => (match divOk b with | true => P (.i (a / b)) | false => False)
  | .Mod => (match divOk b with | true => P (.i (a % b)) | false => False)
  | _ => False
noncomputable def binB (op : Operator) (a : Int) (b : Bool) (P : SV → Prop) : Prop := match op with
  | .Add => P (.i (a + if b = true then 1 else 0))
  | .Sub => P (.i (a - if b = true then 1 else 0))
  | _ => False
noncomputable def bin (op : Operator) (lit : Bool) (a b : SV) (P : SV → Prop) : Prop := match a with
  | .i a => (match b with | .i b => binI op lit a b P | .b b => binB op a b P | _ => False)
  | _ => False
noncomputable def cmpI (op : CmpOp) (a b : Int) (P : Bool → Prop) : Prop := match op with
  | .Lt => P (decide (a < b))
  | .LtE => P (decide (a ≤ b))
  | .Gt => P (decide (b < a))
  | .GtE => P (decide (b ≤ a))
  | .Eq => P (a == b)
  | .NotEq => P (a != b)
  | _ => False
noncomputable def onEq (op : CmpOp) (b : Bool) (P : Bool → Prop) : Prop := match op with
  | .Eq => P b
  | _ => False
noncomputable def cmpT (op : CmpOp) (a b : List Int) (P : Bool → Prop) : Prop := match op with
  | .Eq => P (a == b)
  | .NotEq => P (!(a == b))
  | _ => False
noncomputable def cmpIn (K : Frag) (op : CmpOp) (x : Int) (v : Value) (P : Bool → Prop) : Prop := match op with
  | .In => (match v with | .ref a => (match tupIn K a with | some ns => P (ns.any (· == x)) | none => False) | _ => False)
  | _ => False
noncomputable def inT (op : CmpOp) (x : Int) (ns : List Int) (P : Bool → Prop) : Prop := match op with
  | .In => P (ns.any (· == x))
  | _ => False
noncomputable def cmp (K : Frag) (op : CmpOp) (a b : SV) (P : Bool → Prop) : Prop := match a with
  | .i a => (match b with | .i b => cmpI op a b P | .c v => cmpIn K op a v P | .t ns => inT op a ns P | _ => False)
  | .b a => (match b with | .b b => onEq op (a == b) P | _ => False)
  | .t a => (match b with | .t b => cmpT op a b P | _ => False)
  | .l _ => False
  | .s a => (match b with | .s b => onEq op (a == b) P | _ => False)
  | .c v => (match v with | .none => (match b with | .s _ => onEq op false P | _ => False) | _ => False)
noncomputable def evs (f : Expr → (SV → Prop) → Prop) : List Expr → (List SV → Prop) → Prop
  | [], P => P []
  | e :: r, P => f e fun v => evs f r fun vs => P (v :: vs)
noncomputable def plain : Expr → Bool
  | .Starred _ _ => false
  | _ => true
noncomputable def svInts : List SV → Option (List Int)
  | [] => some []
  | .i x :: r => (match svInts r with | some l => some (x :: l) | none => none)
  | _ => none
noncomputable def one (vs : List SV) (P : Int → Prop) : Prop := match vs with
  | [v] => (match v with | .i x => P x | _ => False)
  | _ => False
noncomputable def two (vs : List SV) (P : Int → Int → Prop) : Prop := match vs with
  | [v, w] => (match v with | .i x => (match w with | .i y => P x y | _ => False) | _ => False)
  | _ => False
noncomputable def appB (f : String) (vs : List SV) (P : SV → Prop) : Prop :=
  if f = "abs" then one vs fun x => P (.i (if x < 0 then -x else x))
  else if f = "min" then two vs fun x y => P (.i (if y < x then y else x))
  else if f = "divmod" then two vs fun x y => (match divOk y with | true => P (.t [x / y, x % y]) | false => False)
  else False
noncomputable def app (O : Orc) (fv : SV) (vs : List SV) (P : SV → Prop) : Prop := match fv with
  | .c v => (match v with
    | .ref f => O f vs P
    | .type t => if t = "int" then one vs fun x => P (.i x) else False
    | .builtin b => appB b vs P
    | _ => False)
  | _ => False
noncomputable def keepSV (K : Frag) : SV → Bool
  | .c (.ref a) => keepIn K (.ref a)
  | .c (.type _) => true
  | .c (.builtin _) => true
  | _ => false
noncomputable def onB (v : SV) (P : Bool → Prop) : Prop := match v with
  | .b c => P c
  | _ => False
noncomputable def br (c : Bool) (X Y : Prop) : Prop := match c with | true => X | false => Y
theorem br_of {c : Bool} {X Y : Prop} (h1 : c = true → X) (h2 : c = false → Y) : br c X Y := match c, h1, h2 with | true, h, _ => h rfl | false, _, h => h rfl
/-- what an expression asks: the word of a value (`false`) or of a test (`true`) -/
noncomputable def cst (c : Const) (P : SV → Prop) : Prop := match c with
  | .int k => P (.i k)
  | .bool b => P (.b b)
  | .str x => P (.s x)
  | _ => False
noncomputable def onI (v : SV) (P : Int → Prop) : Prop := match v with
  | .i x => P x
  | _ => False
noncomputable def onT (v : SV) (P : List Int → Prop) : Prop := match v with
  | .t x => P x
  | _ => False
noncomputable def two1 {α : Type} (l : List α) (P : α → α → Prop) : Prop := match l with
  | [x, y] => P x y
  | _ => False
noncomputable def fnName (e : Expr) (P : Str → Pos → Prop) : Prop := match e with
  | .Name x p => P x p
  | _ => False
noncomputable def constI (e : Expr) (P : Int → Prop) : Prop := match e with
  | .Constant c _ _ => (match c with | .int k => P k | _ => False)
  | _ => False
noncomputable def ifT (b : Bool) (P : Prop) : Prop := match b with
  | true => P
  | false => False
noncomputable def someI (x : Option Int) (P : SV → Prop) : Prop := match x with
  | some x => P (.i x)
  | none => False
noncomputable def ev (K : Frag) (sc : Scope) (O : Orc) (ρ : Rho) : Nat → Bool → Expr → (SV → Prop) → Prop
  | 0, _, _, _ => False
  | n + 1, false, e, P => (match e with
    | .Constant c _ _ => cst c P
    | .Name x _ => nm K sc ρ x P
    | .BinOp l op r _ => ev K sc O ρ n false l fun a => ev K sc O ρ n false r fun b => bin op (isLit sc l) a b P
    | .UnaryOp op x _ => (match op with | .USub => ev K sc O ρ n false x fun a => onI a fun k => P (.i (-k)) | _ => False)
    | .IfExp t x y _ => ev K sc O ρ n true t fun v => onB v fun c => br c (ev K sc O ρ n false x P) (ev K sc O ρ n false y P)
    | .BoolOp op es _ => two1 es fun x y => (match op with
      | .And => ev K sc O ρ n false x fun v => onB v fun c => br c (ev K sc O ρ n false y P) (P (.b false))
      | .Or => ev K sc O ρ n false x fun v => onB v fun c => br c (P (.b true)) (ev K sc O ρ n false y P))
    | .Compare l ops rs _ => (match ops with
      | [op] => (match rs with
        | [r] => (match behindInMarks op r with
          | false => ev K sc O ρ n false l fun a => ev K sc O ρ n false r fun b => cmp K op a b fun c => P (.b c)
          | true => False)
        | _ => False)
      | _ => False)
    | .Call f es ks _ => fnName f fun x p => (match es with
      | e :: r => (match ks with
        | [] => ifT ((e :: r).all plain) (ev K sc O ρ n false (.Name x p) fun fv => ifT (keepSV K fv) (evs (ev K sc O ρ n false) (e :: r) fun vs => app O fv vs P))
        | _ => False)
      | _ => False)
    | .Tuple es _ _ => ifT (es.all plain && decide (es.length ≤ 12)) (evs (ev K sc O ρ n false) es fun vs => (match svInts vs with | some xs => P (.t xs) | none => False))
    | .List es _ => ifT (es.all plain && decide (es.length ≤ 12)) (evs (ev K sc O ρ n false) es fun vs => (match svInts vs with | some xs => P (.l xs) | none => False))
    | .Subscript v i _ => constI i fun k => ev K sc O ρ n false v fun a => onT a fun xs => ifT (decide (0 ≤ k) && decide (k < 5)) (someI xs[k.toNat]? P)
    | _ => False)
  | n + 1, true, e, P => (match e with
    | .Compare l ops rs _ => (match ops with
      | [op] => (match rs with
        | [r] => (match behindInMarks op r with
          | false => ev K sc O ρ n false l fun a => ev K sc O ρ n false r fun b => cmp K op a b fun c => P (.b c)
          | true => False)
        | _ => False)
      | [o1, o2] => (match rs with
        | [r1, r2] => (match behindInMarks o2 r2 with
          | false => ev K sc O ρ n false l fun a => ev K sc O ρ n false r1 fun b => cmp K o1 a b fun c =>
            br c (ev K sc O ρ n false r2 fun d => cmp K o2 b d fun c => P (.b c)) (P (.b false))
          | true => False)
        | _ => False)
      | _ => False)
    | .UnaryOp op x _ => (match op with | .Not => ev K sc O ρ n true x fun v => onB v fun c => P (.b (!c)) | _ => False)
    | .BoolOp op es _ => (match op with
      | .Or => two1 es fun x y => ev K sc O ρ n true x fun v => onB v fun c => br c (P (.b true)) (ev K sc O ρ n true y fun v => onB v fun c => P (.b c))
      | _ => False)
    | .Name x p => ev K sc O ρ n false (.Name x p) fun v => onB v fun c => P (.b c)
    | .Call f es ks p => fnName f fun x q => ev K sc O ρ n false (.Call (.Name x q) es ks p) fun v => onB v fun c => P (.b c)
    | _ => False)
noncomputable def noComp : Expr → Bool
  | .ListComp _ _ _ _ => false
  | .SetComp _ _ _ _ => false
  | .DictComp _ _ _ _ _ => false
  | .Tuple _ _ _ => false
  | _ => true
noncomputable def noC : Expr → Bool
  | .ListComp _ _ _ _ => false
  | .SetComp _ _ _ _ => false
  | .DictComp _ _ _ _ _ => false
  | _ => true
noncomputable def bindv (v : SV) (P : SV → Prop) : Prop := match v with
  | .i x => ∀ y, x = y → P (.i y)
  | v => P v
noncomputable def isLoc (sc : Scope) (x : Str) : Bool := match sc.names.lookup x with
  | some .local => true
  | _ => false
noncomputable def bindNames (sc : Scope) : List Expr → List Int → Rho → (Rho → Prop) → Prop
  | [], [], ρ, P => P ρ
  | .Name x _ :: es, v :: vs, ρ, P => (match isLoc sc x with | true => ∀ y, v = y → bindNames sc es vs ((x, .i y) :: ρ) P | false => False)
  | _, _, _, _ => False
noncomputable def aug (op : Operator) (a b : SV) (P : SV → Prop) : Prop := match op with
  | .Add => onI a fun x => onI b fun y => P (.i (x + y))
  | .Sub => onI a fun x => onI b fun y => P (.i (x - y))
  | _ => False
noncomputable def onOld (sc : Scope) (ρ : Rho) (x : Str) (P : SV → Prop) : Prop := match ρ.lookup x with
  | some v => ifT (isLoc sc x) (P v)
  | none => False
noncomputable def onO (x : Option SV) (P : Int → Prop) : Prop := match x with
  | some v => onI v P
  | none => False
noncomputable def onL (v : SV) (P : List Int → Prop) : Prop := match v with
  | .l x => P x
  | _ => False
/-- the names that a body stores -/
noncomputable def sto : Nat → List Stmt → List Str
  | 0, _ => []
  | n + 1, l => (match l with
    | [] => []
    | st :: r => (match st with
      | .Assign ts _ _ => (match ts with
        | [t] => (match t with | .Name x _ => [x] | _ => [])
        | _ => [])
      | .AugAssign t _ _ _ => (match t with | .Name x _ => [x] | _ => [])
      | .If _ b o _ => sto n b ++ sto n o
      | _ => []) ++ sto n r)
noncomputable def hasStr (l : List Str) (x : Str) : Bool := match l with
  | [] => false
  | y :: r => (match decide (x = y) with | true => true | false => hasStr r x)
noncomputable def isI (o : Option SV) : Bool := match o with
  | some v => (match v with | .i _ => true | _ => false)
  | none => false
/-- the names that a loop hands on: stored, and ints ahead of it -/
noncomputable def carried (ρ : Rho) : List Str → List Str → List Str
  | [], acc => acc.reverse
  | x :: r, acc => (match hasStr acc x with
    | true => carried ρ r acc
    | false => (match isI (ρ.lookup x) with | true => carried ρ r (x :: acc) | false => carried ρ r acc))
noncomputable def simpleSV (v : SV) : Bool := match v with
  | .t _ => false
  | .l _ => false
  | _ => true
/-- the names whose values lie on the ledger -/
noncomputable def bad : Rho → List Str
  | [] => []
  | p :: r => (match simpleSV p.2 with | true => bad r | false => p.1 :: bad r)
noncomputable def rest0 (st : List Str) : Rho → Rho
  | [] => []
  | p :: r => (match hasStr st p.1 with | true => rest0 st r | false => p :: rest0 st r)
noncomputable def turnEnd (st : List Str) (nb : Nat) (a b : Str) (ρ' : Rho) (P : Int → Int → Prop) : Prop :=
  ifT ((ρ'.take (ρ'.length - nb)).all fun p => hasStr st p.1) (onO (ρ'.lookup a) fun i => onO (ρ'.lookup b) fun j => P i j)
/-- the numbers of a written range -/
noncomputable def rangeOf (K : Frag) (sc : Scope) (e : Expr) (P : Int → Nat → Prop) : Prop := match e with
  | .Call f es ks _ => fnName f fun x _ => (match ks with
    | [] => ifT (decide (x = Str.ofString "range") && (match sc.names.lookup x with | some .globalImplicit => true | _ => false) && (match nsIn K mainGlobals x with | some none => true | _ => false))
      (match es with
      | a :: r => (match r with
        | [] => constI a fun n => ifT (decide (0 ≤ n) && decide (n < 100)) (P 0 n.toNat)
        | b :: r => (match r with
          | [] => constI a fun m => constI b fun n => ifT (decide (0 ≤ m) && decide (m ≤ n) && decide (n < 100)) (P m (n - m).toNat)
          | _ => False))
      | _ => False)
    | _ => False)
  | _ => False
noncomputable def isRangeE (e : Expr) : Bool := match e with
  | .Call f _ _ _ => (match f with | .Name x _ => decide (x = Str.ofString "range") | _ => false)
  | _ => false
noncomputable def iterOk (e : Expr) : Bool := match e with
  | .Call _ _ _ _ => true
  | .Name _ _ => true
  | .List _ _ => true
  | _ => false
noncomputable def ws (K : Frag) (sc : Scope) (O : Orc) (R : SV → Prop) : Nat → Bool → List Stmt → Rho → (Rho → Prop) → (Rho → Prop) → Prop
  | 0, _, _, _, _, _ => False
  | n + 1, lp, l, ρ, k, kb => (match l with
    | [] => k ρ
    | st :: rest => (match st with
      | .Assign ts e _ => (match ts with
        | [t] => (match t with
          | .Name x _ => ifT (noC e && isLoc sc x) (ev K sc O ρ 30 false e fun v => bindv v fun v => ws K sc O R n lp rest ((x, v) :: ρ) k kb)
          | .Tuple es _ _ => ifT (noComp e) (ev K sc O ρ 30 false e fun v => onT v fun xs => bindNames sc es xs ρ fun ρ' => ws K sc O R n lp rest ρ' k kb)
          | _ => False)
        | _ => False)
      | .AugAssign t op e _ => fnName t fun x _ => onOld sc ρ x fun old => ev K sc O ρ 30 false e fun v => aug op old v fun r => bindv r fun r => ws K sc O R n lp rest ((x, r) :: ρ) k kb
      | .If t b o _ => ev K sc O ρ 30 true t fun v => onB v fun c =>
          br c (ws K sc O R n lp b ρ (fun ρ' => ws K sc O R n lp rest ρ' k kb) kb) (ws K sc O R n lp o ρ (fun ρ' => ws K sc O R n lp rest ρ' k kb) kb)
      | .Return e _ => (match e with | some e => ev K sc O ρ 30 false e R | none => False)
      | .Expr e _ => ifT (noC e) (ev K sc O ρ 30 false e fun _ => ws K sc O R n lp rest ρ k kb)
      | .Assert t _ _ => ev K sc O ρ 30 true t fun v => onB v fun c => c = true ∧ ws K sc O R n lp rest ρ k kb
      | .Break _ => kb ρ
      | .For t it body els _ => fnName t fun x _ => (match els with
        | [] => two1 (carried ρ (sto 30 body) []) fun a b => onO (ρ.lookup a) fun i0 => onO (ρ.lookup b) fun j0 =>
          ifT (iterOk it && isLoc sc x && !lp) (match isRangeE it with
          | true => rangeOf K sc it fun a0 len => ∃ J : List Int → Int → Int → Prop, J [] i0 j0 ∧
              (∀ (pre : List Int) (v i j : Int), v = a0 + (pre.length : Int) → pre.length < len → J pre i j → ws K sc O R n true body ((x, .i v) :: (a, .i i) :: (b, .i j) :: rest0 (x :: (sto 30 body ++ bad ρ)) ρ)
                (fun ρ' => turnEnd (x :: (sto 30 body ++ bad ρ)) (rest0 (x :: (sto 30 body ++ bad ρ)) ρ).length a b ρ' fun i j => J (pre ++ [v]) i j)
                (fun ρ' => turnEnd (x :: (sto 30 body ++ bad ρ)) (rest0 (x :: (sto 30 body ++ bad ρ)) ρ).length a b ρ' fun i j => ws K sc O R n lp rest ((a, .i i) :: (b, .i j) :: rest0 (x :: (sto 30 body ++ bad ρ)) ρ) k kb)) ∧
              (∀ (pre : List Int) (i j : Int), pre.length = len → J pre i j → ws K sc O R n lp rest ((a, .i i) :: (b, .i j) :: rest0 (x :: (sto 30 body ++ bad ρ)) ρ) k kb)
          | false => ev K sc O ρ 30 false it fun lv => onL lv fun xs => ∃ J : List Int → Int → Int → Prop, J [] i0 j0 ∧
              (∀ (pre post : List Int) (v i j : Int), xs = pre ++ v :: post → J pre i j → ws K sc O R n true body ((x, .i v) :: (a, .i i) :: (b, .i j) :: rest0 (x :: (sto 30 body ++ bad ρ)) ρ)
                (fun ρ' => turnEnd (x :: (sto 30 body ++ bad ρ)) (rest0 (x :: (sto 30 body ++ bad ρ)) ρ).length a b ρ' fun i j => J (pre ++ [v]) i j)
                (fun ρ' => turnEnd (x :: (sto 30 body ++ bad ρ)) (rest0 (x :: (sto 30 body ++ bad ρ)) ρ).length a b ρ' fun i j => ws K sc O R n lp rest ((a, .i i) :: (b, .i j) :: rest0 (x :: (sto 30 body ++ bad ρ)) ρ) k kb)) ∧
              (∀ (i j : Int), J xs i j → ws K sc O R n lp rest ((a, .i i) :: (b, .i j) :: rest0 (x :: (sto 30 body ++ bad ρ)) ρ) k kb))
        | _ => False)
      | .Try b hs o f _ => (match hs with
        | _ :: _ => (match o with
          | [] => (match f with | [] => ws K sc O R n lp b ρ (fun ρ' => ws K sc O R n lp rest ρ' k kb) kb | _ => False)
          | _ => False)
        | _ => False)
      | _ => False))
noncomputable def Rep (news : Led) : SV → Value → Prop
  | .i x, V => ∃ t, V = .int x t
  | .b x, V => V = .bool x
  | .t xs, V => ∃ D vs n, V = .ref D ∧ IntsAre vs xs ∧ (D, tup vs n) ∈ news
  | .l xs, V => ∃ D vs n, V = .ref D ∧ IntsAre vs xs ∧ (D, listOf (List.toArray vs) n) ∈ news
  | .s x, V => ∃ t, V = .str x t
  | .c v, V => V = v
noncomputable def Reps (news : Led) : List SV → List Value → Prop
  | [], [] => True
  | v :: r, V :: R => Rep news v V ∧ Reps news r R
  | _, _ => False
theorem Rep.sub {n1 n2 : Led} (h : ∀ q ∈ n1, q ∈ n2) : ∀ {v : SV} {V : Value}, Rep n1 v V → Rep n2 v V
  | .i _, _, r => r
  | .b _, _, r => r
  | .t _, _, ⟨D, vs, n, e, i, m⟩ => ⟨D, vs, n, e, i, h _ m⟩
  | .l _, _, ⟨D, vs, n, e, i, m⟩ => ⟨D, vs, n, e, i, h _ m⟩
  | .s _, _, r => r
  | .c _, _, r => r
theorem Reps.sub {n1 n2 : Led} (h : ∀ q ∈ n1, q ∈ n2) : ∀ {v : List SV} {V : List Value}, Reps n1 v V → Reps n2 v V
  | [], [], _ => trivial
  | _ :: _, _ :: _, ⟨a, b⟩ => ⟨a.sub h, Reps.sub h b⟩
noncomputable def Good (ρ : Rho) (m : Str → Option Value) (news : Led) : Prop := ∀ x v, ρ.lookup x = some v → ∃ V, m x = some V ∧ Rep news v V
theorem Good.sub {ρ : Rho} {m : Str → Option Value} {n1 n2 : Led} (h : ∀ q ∈ n1, q ∈ n2) (G : Good ρ m n1) : Good ρ m n2 := fun x v e =>
  let ⟨V, a, b⟩ := G x v e; ⟨V, a, b.sub h⟩
theorem Good.set {ρ : Rho} {m : Str → Option Value} {n : Led} {x : Str} {v : SV} {V : Value} (G : Good ρ m n) (r : Rep n v V) : Good ((x, v) :: ρ) (fun y => if y = x then some V else m y) n := by
  intro y u e
  rw [List.lookup_cons] at e
  by_cases q : y = x
  · subst q
    simp at e
    subst e
    exact ⟨V, by simp, r⟩
  · have : (y == x) = false := by simpa using q
    rw [this] at e
    obtain ⟨U, a, b⟩ := G y u e
    exact ⟨U, by simp [q, a], b⟩
theorem rep_cv (news : Led) : ∀ V, Rep news (cv V) V
  | .int _ t => ⟨t, rfl⟩
  | .bool _ => rfl
  | .str _ t => ⟨t, rfl⟩
  | .none => rfl
  | .ellipsis => rfl
  | .notImplemented => rfl
  | .float _ _ => rfl
  | .bytes _ _ => rfl
  | .type _ => rfl
  | .builtin _ => rfl
  | .ref _ => rfl
theorem intsOf_are : ∀ {vs : List Value} {ns : List Int}, intsOf vs = some ns → IntsAre vs ns
  | [], ns, h => by simp [intsOf] at h; subst h; exact .nil
  | v :: r, ns, h => by
    cases v <;> simp only [intsOf] at h <;> try cases h
    rename_i x t
    split at h
    · rename_i l e
      cases h
      exact .cons x t (intsOf_are e)
    · cases h
theorem tupIn_of {K : Frag} {a : Addr} {ns : List Int} (h : tupIn K a = some ns) : ∃ dd l n sl, K.lookup a = some ⟨.type "tuple", dd, .seq (List.toArray l) n, sl⟩ ∧ IntsAre l ns := by
  unfold tupIn at h
  split at h
  · rename_i dd l n sl e
    exact ⟨dd, l.toList, n, sl, e, intsOf_are h⟩
  · cases h
theorem small_le {k : Int} (h : small k = true) : Builtin.Int.intBits k ≤ 64 := by
  unfold small at h
  simp only [Bool.and_eq_true, decide_eq_true_eq] at h
  exact intBits_le_64 h.1 h.2
theorem divOk_of {k : Int} (h : divOk k = true) : 0 < k ∧ k < 2 ^ 64 := by
  unfold divOk at h
  simpa only [Bool.and_eq_true, decide_eq_true_eq] using h
theorem noPy {a k : Int} (h : divOk k = true) : Builtin.divisionGoesByPylong a k = false := by
  obtain ⟨h0, h1⟩ := divOk_of h
  refine PyProof.noPylong_of_log2 ?_
  have : k.natAbs < 2 ^ 64 := by omega
  exact Nat.lt_of_lt_of_le ((Nat.log2_lt (by omega)).mpr this) (by decide)
theorem sv_ints : ∀ {vs : List SV} {xs : List Int} {news : Led} {V : List Value}, svInts vs = some xs → Reps news vs V → IntsAre V xs
  | [], xs, _, [], h, _ => by cases h; exact .nil
  | v :: r, xs, news, W :: R, h, ⟨a, b⟩ => by
    cases v <;> simp only [svInts] at h <;> try cases h
    rename_i x
    obtain ⟨t, rfl⟩ := a
    split at h
    · rename_i l e
      cases h
      exact .cons x t (sv_ints e b)
    · cases h
theorem starEach_plain {e : Expr} {r : List Expr} {env : Env} (h : plain e = true) : starEach (e :: r) env = (false, eval e env) :: starEach r env := by
  cases e <;> first | rfl | cases h
theorem noStar {pos : Pos} {env : Env} : ∀ {r : List Expr}, r.all plain = true → ((backTo pos (starEach r env)).any fun x => x.1) = false
  | [], _ => rfl
  | e :: r, h => by
    simp only [List.all_cons, Bool.and_eq_true] at h
    rw [starEach_plain h.1]
    have := noStar (pos := pos) (env := env) h.2
    simpa [backTo] using this
theorem ifT_of {b : Bool} {P : Prop} (h : ifT b P) : b = true ∧ P := by
  cases b
  · exact h.elim
  · exact ⟨rfl, h⟩
theorem onB_of {v : SV} {P : Bool → Prop} (h : onB v P) : ∃ c, v = .b c ∧ P c := by
  cases v <;> first | exact ⟨_, rfl, h⟩ | exact h.elim
theorem onI_of {v : SV} {P : Int → Prop} (h : onI v P) : ∃ c, v = .i c ∧ P c := by
  cases v <;> first | exact ⟨_, rfl, h⟩ | exact h.elim
theorem onL_of {v : SV} {P : List Int → Prop} (h : onL v P) : ∃ c, v = .l c ∧ P c := by
  cases v <;> first | exact ⟨_, rfl, h⟩ | exact h.elim
theorem onO_of {v : Option SV} {P : Int → Prop} (h : onO v P) : ∃ c, v = some (.i c) ∧ P c := by
  cases v with
  | none => exact h.elim
  | some v =>
    obtain ⟨c, rfl, h⟩ := onI_of (v := v) h
    exact ⟨c, rfl, h⟩
theorem onT_of {v : SV} {P : List Int → Prop} (h : onT v P) : ∃ c, v = .t c ∧ P c := by
  cases v <;> first | exact ⟨_, rfl, h⟩ | exact h.elim
theorem two1_of {α : Type} {l : List α} {P : α → α → Prop} (h : two1 l P) : ∃ x y, l = [x, y] ∧ P x y := by
  cases l with
  | nil => exact h.elim
  | cons x l => cases l with
    | nil => exact h.elim
    | cons y l => cases l with
      | nil => exact ⟨x, y, rfl, h⟩
      | cons => exact h.elim
theorem fnName_of {e : Expr} {P : Str → Pos → Prop} (h : fnName e P) : ∃ x p, e = .Name x p ∧ P x p := by
  cases e <;> first | exact ⟨_, _, rfl, h⟩ | exact h.elim
theorem constI_of {e : Expr} {P : Int → Prop} (h : constI e P) : ∃ k c p, e = .Constant (.int k) c p ∧ P k := by
  cases e <;> try exact h.elim
  rename_i c _ _
  cases c <;> first | exact ⟨_, _, _, rfl, h⟩ | exact h.elim
theorem someI_of {x : Option Int} {P : SV → Prop} (h : someI x P) : ∃ k, x = some k ∧ P (.i k) := by
  cases x
  · exact h.elim
  · exact ⟨_, rfl, h⟩
theorem one_of {vs : List SV} {P : Int → Prop} (h : one vs P) : ∃ x, vs = [.i x] ∧ P x := by
  cases vs with
  | nil => exact h.elim
  | cons v l => cases l with
    | nil => cases v <;> first | exact ⟨_, rfl, h⟩ | exact h.elim
    | cons => exact h.elim
theorem two_of {vs : List SV} {P : Int → Int → Prop} (h : two vs P) : ∃ x y, vs = [.i x, .i y] ∧ P x y := by
  cases vs with
  | nil => exact h.elim
  | cons v l => cases l with
    | nil => exact h.elim
    | cons u l => cases l with
      | nil =>
        cases v <;> try exact h.elim
        cases u <;> first | exact ⟨_, _, rfl, h⟩ | exact h.elim
      | cons => exact h.elim
noncomputable def pd (xs : List Int) : List PyData := xs.map .int
theorem reads_ints {h : Heap} : ∀ {vs : List Value} {ns : List Int}, IntsAre vs ns → ∃ as, ReadsAll h vs (pd ns) as
  | [], [], .nil => ⟨[], .nil⟩
  | _, _, .cons n t r => let ⟨as, x⟩ := reads_ints r; ⟨[] ++ as, .cons (.int n t) x⟩
theorem eqv_ints : ∀ xs ys : List Int, PyData.eqvAll (pd xs) (pd ys) = (xs == ys)
  | [], [] => by simp [pd, PyData.eqvAll]
  | [], _ :: _ => by simp [pd, PyData.eqvAll]
  | _ :: _, [] => by simp [pd, PyData.eqvAll]
  | x :: xs, y :: ys => by
    have := eqv_ints xs ys
    unfold pd at this ⊢
    simp only [List.map_cons, PyData.eqvAll, this, PyData.eqv]
    simp
theorem eqv_tup (xs ys : List Int) : PyData.eqv (.tuple (pd xs)) (.tuple (pd ys)) = (xs == ys) := by
  rw [← eqv_ints]
  simp [PyData.eqv]
theorem lay_pd : ∀ xs : List Int, PyData.canLayAll0 (pd xs) = true
  | [] => by simp [pd, PyData.canLayAll0]
  | x :: xs => by
    have := lay_pd xs
    unfold pd at this ⊢
    simp [PyData.canLayAll0, PyData.canLay0, this]
theorem depth_pd : ∀ xs : List Int, PyData.depthAll (pd xs) ≤ 1
  | [] => by simp [pd, PyData.depthAll]
  | x :: xs => by
    have := depth_pd xs
    unfold pd at this ⊢
    simp only [List.map_cons, PyData.depthAll, PyData.depth]
    omega
theorem shaped_tup (xs : List Int) : SeqAt.shaped (.tuple (pd xs)) = true := by
  have a := lay_pd xs
  have b := depth_pd xs
  have c : PyData.depth (.tuple (pd xs)) ≤ 64 := by simp only [PyData.depth]; omega
  unfold SeqAt.shaped
  simp [PyData.canLay0, a, c]
section
variable (prog : Program) (w : World) (K : Frag) (p : Program) (loose : List Str) (mean : ExcName → Option Value) (mg mb : Str → Option Value)
/-- what a caller wants behind a value -/
abbrev KV (news : Led) (h₀ : Heap) (L : Addr) (m : Str → Option Value) (s : Shared) (Q : Value → Shared → Prop) (P : SV → Prop) : Prop :=
  ∀ v V h' tk' news', P v → Fr h₀ L h' m → News h₀ L h' news' → (∀ q ∈ news, q ∈ news') → Rep news' v V → Q V { s with heap := h', toks := tk' }
noncomputable def CallOK (f : Addr) (args : List SV) (P : SV → Prop) (dep : Nat) : Prop :=
  ∀ (vs : List Value) (dp un : Nat) (gd : Option (List Code)) (cn : Str) (cs : Scope) (a : Addr) (ccd : Value) (cl : List (Str × Addr)) (outer : List Env) (A₀ : Around) (base h₀ : Heap) (L : Addr) (m : Str → Option Value) (news : Led) (s : Shared) (Q E : Value → Shared → Prop),
    Reps news args vs → Below A₀ base outer h₀ → Fr h₀ L s.heap m → K.In h₀ → News h₀ L s.heap news → Top p loose mean mg mb h₀ → cs.kind = .function →
    dp + dep < recursionLimit → un + 8 * dep < cLine → KV news h₀ L m s Q P →
      wpAny (model prog w) (ktrTop dp un gd cn cs L a ccd cl outer) (call (.ref f) vs) Q E s
noncomputable def OrcOK (O : Orc) (dep : Nat) : Prop := ∀ f args P, O f args P → CallOK prog w K p loose mean mg mb f args P dep
end
section
variable {prog : Program} {w : World} {K : Frag} {p : Program} {loose : List Str} {mean : ExcName → Option Value} {mg mb : Str → Option Value} {O : Orc}
  {dp un D : Nat} {gd : Option (List Code)} {cn : Str} {cs : Scope} {a : Addr} {ccd : Value} {outer : List Env} {A₀ : Around} {base g : Heap} {L : Addr}
theorem nm_ok (hX : K.In g) (hT : Top p loose mean mg mb g) (hk : cs.kind = .function) {ρ : Rho} {x : Str} {pos : Pos} {P : SV → Prop} (h : nm K cs ρ x P) {m : Str → Option Value} {news : Led} {s : Shared} {Q E : Value → Shared → Prop}
    (F : Fr g L s.heap m) (N : News g L s.heap news) (G : Good ρ m news) (k : KV news g L m s Q P) :
    wpAny (model prog w) (ktrTop dp un gd cn cs L a ccd [] outer) (eval (.Name x pos) (envX cn cs L a ccd [])) Q E s := by
  unfold nm at h
  split at h
  · exact h.elim
  rename_i hd
  have hd' : (x == Str.ofString "__debug__") = false := by simpa using hd
  split at h
  · rename_i hx
    split at h
    · rename_i v hv
      obtain ⟨V, hm, hr⟩ := G x v hv
      exact nameX_L F hm (k v V s.heap s.toks news h F N (fun _ q => q) hr) hk hx hd'
    · exact h.elim
  · rename_i hx
    split at h
    · rename_i V hv
      exact nameX_K F hX (topRead_of hT) hv (k (cv V) V s.heap s.toks news h F N (fun _ q => q) (rep_cv news V)) hk hx hd'
    · rename_i hv
      split at h
      · rename_i v hb
        unfold bootSV at hb
        have bb : bootBuiltins x = some v ∧ x ≠ Str.ofString "__name__" := by
          split at hb
          · rename_i e; subst e; cases hb; exact ⟨boot_int, by decide⟩
          split at hb
          · rename_i e; subst e; cases hb; exact ⟨boot_abs, by decide⟩
          split at hb
          · rename_i e; subst e; cases hb; exact ⟨boot_min, by decide⟩
          split at hb
          · rename_i e; subst e; cases hb; exact ⟨boot_divmod, by decide⟩
          cases hb
        exact nameX_B F hX (topRead_of hT) hv bb.1 bb.2 (k (.c v) v s.heap s.toks news h F N (fun _ q => q) rfl) hk hx hd'
      · exact h.elim
    · exact h.elim
  · exact h.elim
theorem bin_ok {op : Operator} {lit : Bool} {x y : SV} {X Y : Value} {P : SV → Prop} (h : bin op lit x y P) {m : Str → Option Value} {news : Led} {s : Shared} {Q E : Value → Shared → Prop} {A : Around}
    (rx : Rep news x X) (ry : Rep news y Y) (F : Fr g L s.heap m) (N : News g L s.heap news) (k : KV news g L m s Q P) : wpAny (model prog w) A (binaryOp op X Y) Q E s := by
  have kk : ∀ x tk, P (.i x) → Q (.int x tk) { s with heap := s.heap, toks := s.toks + 1 } := fun x tk hp => k (.i x) _ s.heap (s.toks + 1) news hp F N (fun _ q => q) ⟨tk, rfl⟩
  cases x <;> try exact h.elim
  obtain ⟨t, rfl⟩ := rx
  cases y <;> try exact h.elim
  · obtain ⟨u, rfl⟩ := ry
    cases op <;> try exact h.elim
    · exact add_int (kk _ _ h)
    · exact sub_int (kk _ _ h)
    · rename_i x y
      have h : ∀ c, (match lit with | true => small x | false => small y) = c → (match c with | true => P (.i (x * y)) | false => False) := fun c e => by rw [← e]; exact h
      cases e : (match lit with | true => small x | false => small y)
      · exact (h _ e).elim
      · refine mul_int (kk _ _ (h _ e)) ?_
        cases lit
        · exact .of_right (small_le e)
        · exact .of_left (small_le e)
    · rename_i x y
      have h : ∀ c, divOk y = c → (match c with | true => P (.i (x % y)) | false => False) := fun c e => by rw [← e]; exact h
      cases e : divOk y
      · exact (h _ e).elim
      · have h0 := (divOk_of e).1
        refine mod_int' (by omega) (kk _ _ ?_)
        rw [Int.fmod_eq_emod_of_nonneg _ (by omega)]
        exact h _ e
    · rename_i x y
      have h : ∀ c, divOk y = c → (match c with | true => P (.i (x / y)) | false => False) := fun c e => by rw [← e]; exact h
      cases e : divOk y
      · exact (h _ e).elim
      · have h0 := (divOk_of e).1
        refine floordiv_int (by omega) (kk _ _ ?_) (.inl (noPy e))
        rw [Int.fdiv_eq_ediv_of_nonneg _ (by omega)]
        exact h _ e
  · cases ry
    cases op <;> try exact h.elim
    · exact add_int_bool (kk _ _ h)
    · exact IntBool.sub_int_bool (kk _ _ h)
theorem cmp_ok (hX : K.In g) {op : CmpOp} {x y : SV} {X Y : Value} {P : Bool → Prop} (h : cmp K op x y P) {m : Str → Option Value} {news : Led} {s : Shared} {Q E : Value → Shared → Prop} {A : Around} (hu : A.units + 64 < cLine)
    (rx : Rep news x X) (ry : Rep news y Y) (F : Fr g L s.heap m) (N : News g L s.heap news) (k : ∀ c, P c → Q (.bool c) s) : wpAny (model prog w) A (compareOp op X Y) Q E s := by
  cases x with
  | i x =>
    obtain ⟨t, rfl⟩ := rx
    cases y <;> try exact h.elim
    · obtain ⟨u, rfl⟩ := ry
      cases op <;> try exact h.elim
      · exact eq_int (k _ h)
      · exact ne_int (k _ h)
      · exact lt_int (k _ h)
      · exact le_int (k _ h)
      · exact gt_int (k _ h)
      · exact ge_int (k _ h)
    · obtain ⟨D1, v1, n1, rfl, i1, m1⟩ := ry
      cases op <;> try exact h.elim
      exact in_tuple_ints (N.isTup m1) (by simpa using i1) (k _ h)
    · cases ry
      cases op <;> try exact h.elim
      cases Y <;> try exact h.elim
      rename_i a
      have h : ∀ o, tupIn K a = o → (match o with | some ns => P (ns.any (· == x)) | none => False) := fun c e => by rw [← e]; exact h
      cases e : tupIn K a
      · exact (h _ e).elim
      · obtain ⟨dd, l, n, sl, hl, hi⟩ := tupIn_of e
        exact in_topTup F hX hl hi (k _ (h _ e))
  | b x =>
    cases y <;> try exact h.elim
    cases rx; cases ry
    cases op <;> try exact h.elim
    exact eq_bool (k _ h)
  | t x =>
    cases y <;> try exact h.elim
    obtain ⟨D1, v1, n1, rfl, i1, m1⟩ := rx; obtain ⟨D2, v2, n2, rfl, i2, m2⟩ := ry
    obtain ⟨a1, r1⟩ := reads_ints (h := s.heap) i1
    obtain ⟨a2, r2⟩ := reads_ints (h := s.heap) i2
    have R1 := reads_tuple_at (News.get N m1) rfl rfl (by simpa using r1)
    have R2 := reads_tuple_at (News.get N m2) rfl rfl (by simpa using r2)
    cases op <;> try exact h.elim
    · refine eq_dataH R1 R2 (shaped_tup _) (shaped_tup _) hu ?_
      rw [eqv_tup]
      exact k _ h
    · refine ne_dataH R1 R2 (shaped_tup _) (shaped_tup _) hu ?_
      rw [eqv_tup]
      exact k _ h
  | l x => exact h.elim
  | s x =>
    cases y <;> try exact h.elim
    obtain ⟨t, rfl⟩ := rx; obtain ⟨u, rfl⟩ := ry
    cases op <;> try exact h.elim
    exact eq_str (k _ h)
  | c v =>
    cases v <;> try exact h.elim
    cases y <;> try exact h.elim
    cases rx; obtain ⟨u, rfl⟩ := ry
    cases op <;> try exact h.elim
    exact EqNone.eq_none_str (k _ h)
end
section
variable {prog : Program} {w : World} {K : Frag} {p : Program} {loose : List Str} {mean : ExcName → Option Value} {mg mb : Str → Option Value} {O : Orc}
  {dp un D : Nat} {gd : Option (List Code)} {cn : Str} {cs : Scope} {a : Addr} {ccd : Value} {outer : List Env} {A₀ : Around} {base g : Heap} {L : Addr}
/-- the state moved on: what was wanted behind the older one -/
theorem KV.move {news news' : Led} {m : Str → Option Value} {s : Shared} {h' : Heap} {tk' : Nat} {Q : Value → Shared → Prop} {P : SV → Prop} (k : KV news g L m s Q P) (hs : ∀ q ∈ news, q ∈ news') :
    KV news' g L m { s with heap := h', toks := tk' } Q P := fun v V h tk n pv F N sub r => k v V h tk n pv F N (fun q hq => sub q (hs q hq)) r
/-- an expression's soundness -/
noncomputable def EvOK (f : Expr → (SV → Prop) → Prop) (prog : Program) (w : World) (A : Around) (env : Env) (g : Heap) (L : Addr) (ρ : Rho) : Prop :=
  ∀ e P, f e P → ∀ (m : Str → Option Value) (news : Led) (s : Shared) (Q E : Value → Shared → Prop), Fr g L s.heap m → News g L s.heap news → Good ρ m news → KV news g L m s Q P → wpAny (model prog w) A (eval e env) Q E s
noncomputable def EtOK (f : Expr → (SV → Prop) → Prop) (prog : Program) (w : World) (A : Around) (env : Env) (g : Heap) (L : Addr) (ρ : Rho) : Prop :=
  ∀ e P, f e P → ∀ (m : Str → Option Value) (news : Led) (s : Shared) (Q : Bool → Shared → Prop) (E : Value → Shared → Prop), Fr g L s.heap m → News g L s.heap news → Good ρ m news →
    (∀ c h' tk' news', P (.b c) → Fr g L h' m → News g L h' news' → (∀ q ∈ news, q ∈ news') → Q c { s with heap := h', toks := tk' }) → wpAny (model prog w) A (PySem.isTrue e env (eval e env)) Q E s
theorem evs_ok {f : Expr → (SV → Prop) → Prop} {A : Around} {env : Env} {ρ : Rho} (hf : EvOK f prog w A env g L ρ) {pos : Pos} : ∀ (es : List Expr) (P : List SV → Prop), evs f es P → es.all plain = true →
    ∀ (m : Str → Option Value) (news : Led) (s : Shared) (Q : List Value → Shared → Prop) (E : Value → Shared → Prop), Fr g L s.heap m → News g L s.heap news → Good ρ m news →
    (∀ vs Vs h' tk' news', P vs → Fr g L h' m → News g L h' news' → (∀ q ∈ news, q ∈ news') → Reps news' vs Vs → Vs.length = es.length → Q Vs { s with heap := h', toks := tk' }) →
      wpAny (model prog w) A (spliced (backTo pos (starEach es env))) Q E s
  | [], P, h, _, m, news, s, Q, E, F, N, G, k => args_nil (k [] [] s.heap s.toks news h F N (fun _ q => q) trivial rfl)
  | e :: r, P, h, hp, m, news, s, Q, E, F, N, G, k => by
    simp only [List.all_cons, Bool.and_eq_true] at hp
    refine args_cons (hf e _ h m news s _ E F N G ?_) (starEach_plain hp.1)
    intro v V h1 tk1 n1 hv F1 N1 s1 r1
    refine evs_ok hf r _ hv hp.2 m n1 _ _ E F1 N1 (G.sub s1) ?_
    intro vs Vs h2 tk2 n2 hvs F2 N2 s2 r2 e2
    exact k (v :: vs) (V :: Vs) h2 tk2 n2 hvs F2 N2 (fun q hq => s2 q (s1 q hq)) ⟨r1.sub s2, r2⟩ (by simp [e2])
theorem reps1 {news : Led} {x : SV} {Vs : List Value} (h : Reps news [x] Vs) : ∃ X, Vs = [X] ∧ Rep news x X := by
  cases Vs with
  | nil => exact h.elim
  | cons X r => cases r with
    | nil => exact ⟨X, rfl, h.1⟩
    | cons => exact h.2.elim
theorem reps2 {news : Led} {x y : SV} {Vs : List Value} (h : Reps news [x, y] Vs) : ∃ X Y, Vs = [X, Y] ∧ Rep news x X ∧ Rep news y Y := by
  cases Vs with
  | nil => exact h.elim
  | cons X r =>
    obtain ⟨Y, rfl, q⟩ := reps1 h.2
    exact ⟨X, Y, rfl, h.1, q⟩
theorem app_ok (hB : Below A₀ base outer g) (hX : K.In g) (hT : Top p loose mean mg mb g) (hk : cs.kind = .function) (hd : dp + D < recursionLimit) (hu : un + 8 * D < cLine) (hO : OrcOK prog w K p loose mean mg mb O D)
    {fv : SV} {FV : Value} {vs : List SV} {Vs : List Value} {P : SV → Prop} (h : app O fv vs P) {m : Str → Option Value} {news : Led} {s : Shared} {Q E : Value → Shared → Prop}
    (rf : Rep news fv FV) (rv : Reps news vs Vs) (F : Fr g L s.heap m) (N : News g L s.heap news) (k : KV news g L m s Q P) :
    wpAny (model prog w) (ktrTop dp un gd cn cs L a ccd [] outer) (call FV Vs) Q E s := by
  cases fv <;> try exact h.elim
  cases rf
  cases FV <;> try exact h.elim
  · rename_i T
    by_cases e : T = "int"
    · subst e
      have h : (if "int" = "int" then one vs (fun x => P (.i x)) else False) := h
      rw [if_pos rfl] at h
      obtain ⟨x, rfl, h⟩ := one_of h
      obtain ⟨_, rfl, t, rfl⟩ := reps1 rv
      exact call_int_int (k _ _ s.heap s.toks news h F N (fun _ q => q) ⟨_, rfl⟩)
    · have h : (if T = "int" then one vs (fun x => P (.i x)) else False) := h
      rw [if_neg e] at h
      exact h.elim
  · rename_i f
    have h : appB f vs P := h
    unfold appB at h
    by_cases e1 : f = "abs"
    · subst e1
      rw [if_pos rfl] at h
      obtain ⟨x, rfl, h⟩ := one_of h
      obtain ⟨_, rfl, t, rfl⟩ := reps1 rv
      exact call_abs_int fun u tk => k (.i _) _ s.heap tk news h F N (fun _ q => q) ⟨_, rfl⟩
    rw [if_neg e1] at h
    by_cases e2 : f = "min"
    · subst e2
      rw [if_pos rfl] at h
      obtain ⟨x, y, rfl, h⟩ := two_of h
      obtain ⟨_, _, rfl, ⟨t, rfl⟩, ⟨u, rfl⟩⟩ := reps2 rv
      exact min_two_N rfl F N fun h' tk F' N' => k (.i _) _ h' tk news h F' N' (fun _ q => q) ⟨_, rfl⟩
    rw [if_neg e2] at h
    by_cases e3 : f = "divmod"
    · subst e3
      rw [if_pos rfl] at h
      obtain ⟨x, y, rfl, h⟩ := two_of h
      obtain ⟨_, _, rfl, ⟨t, rfl⟩, ⟨u, rfl⟩⟩ := reps2 rv
      have h : ∀ c, divOk y = c → (match c with | true => P (.t [x / y, x % y]) | false => False) := fun c e => by rw [← e]; exact h
      cases e : divOk y
      · exact (h _ e).elim
      · have h0 := (divOk_of e).1
        refine divmod_N F N (by omega) (fun h' F' N' => ?_) (.inl (noPy e))
        refine k (.t [_, _]) _ h' _ _ ?_ F' N' (fun q hq => .tail _ hq) ⟨_, _, _, rfl, .cons _ _ (.cons _ _ .nil), .head _⟩
        rw [Int.fdiv_eq_ediv_of_nonneg _ (by omega), Int.fmod_eq_emod_of_nonneg _ (by omega)]
        exact h _ e
    · rw [if_neg e3] at h
      exact h.elim
  · exact hO _ _ _ h Vs dp un gd cn cs a ccd [] outer A₀ base g L m news s Q E rv hB F hX N hT hk hd hu k
theorem keep_of {fv : SV} {FV : Value} {news : Led} (h : keepSV K fv = true) (r : Rep news fv FV) : keepIn K FV = true ∨ (∃ x, FV = .type x) ∨ ∃ x, FV = .builtin x := by
  cases fv <;> try cases h
  cases r
  cases FV <;> first | exact .inl h | exact .inr (.inl ⟨_, rfl⟩) | exact .inr (.inr ⟨_, rfl⟩) | cases h
theorem seqIdx {k : Int} {n : Nat} (h0 : 0 ≤ k) (h1 : k.toNat < n) : seqIndex? k n = some k.toNat := by
  unfold seqIndex?
  have a : ¬ k < 0 := by omega
  simp only [if_neg a]
  exact if_pos (by simp only [Bool.and_eq_true, decide_eq_true_eq]; omega)
theorem ints_at : ∀ {vs : List Value} {xs : List Int} {j : Nat} {x : Int}, IntsAre vs xs → xs[j]? = some x → (∃ t, vs[j]? = some (.int x t)) ∧ j < vs.length
  | _, _, 0, _, .cons n t r, e => by
    simp at e
    subst e
    exact ⟨⟨t, by simp⟩, by simp⟩
  | _, _, j + 1, x, .cons n t r, e => by
    simp at e
    obtain ⟨⟨u, h1⟩, h2⟩ := ints_at r e
    exact ⟨⟨u, by simpa using h1⟩, by simpa using h2⟩
theorem ev_ok (hB : Below A₀ base outer g) (hX : K.In g) (hT : Top p loose mean mg mb g) (hk : cs.kind = .function) (hd : dp + D < recursionLimit) (hu : un + 8 * D < cLine) (h8 : 8 ≤ D) (hO : OrcOK prog w K p loose mean mg mb O D) (ρ : Rho) : ∀ n,
    EvOK (ev K cs O ρ n false) prog w (ktrTop dp un gd cn cs L a ccd [] outer) (envX cn cs L a ccd []) g L ρ ∧
    EtOK (ev K cs O ρ n true) prog w (ktrTop dp un gd cn cs L a ccd [] outer) (envX cn cs L a ccd []) g L ρ
  | 0 => ⟨fun e P h => by simp only [ev] at h, fun e P h => by simp only [ev] at h⟩
  | n + 1 => by
    obtain ⟨iv, it⟩ := ev_ok hB hX hT hk hd hu h8 hO ρ n
    have h64 : (ktrTop dp un gd cn cs L a ccd [] outer).units + 64 < cLine := by show un + 64 < cLine; omega
    have vv : EvOK (ev K cs O ρ (n + 1) false) prog w (ktrTop dp un gd cn cs L a ccd [] outer) (envX cn cs L a ccd []) g L ρ := by
      intro e P h m news s Q E F N G k
      cases e <;> try exact h.elim
      case BoolOp op es pos =>
        obtain ⟨x, y, rfl, h⟩ := two1_of h
        cases op with
        | And =>
          refine BoolOp_and (iv x _ h m news s _ E F N G ?_)
          intro v X h1 tk1 n1 hx F1 N1 s1 r1
          obtain ⟨c, rfl, hx⟩ := onB_of hx
          cases r1
          refine wpAny_truthy_bool ?_
          cases c
          · exact k (.b false) _ h1 tk1 n1 hx F1 N1 s1 rfl
          · exact BoolOp_one (iv y P hx m n1 _ _ E F1 N1 (G.sub s1) (k.move s1))
        | Or =>
          refine BoolOp_or (iv x _ h m news s _ E F N G ?_)
          intro v X h1 tk1 n1 hx F1 N1 s1 r1
          obtain ⟨c, rfl, hx⟩ := onB_of hx
          cases r1
          refine wpAny_truthy_bool ?_
          cases c
          · exact BoolOp_one (iv y P hx m n1 _ _ E F1 N1 (G.sub s1) (k.move s1))
          · exact k (.b true) _ h1 tk1 n1 hx F1 N1 s1 rfl
      case BinOp l op r pos =>
        refine wpAny_BinOp (iv l _ h m news s _ E F N G ?_)
        intro x X h1 tk1 n1 hx F1 N1 s1 r1
        refine iv r _ hx m n1 _ _ E F1 N1 (G.sub s1) ?_
        intro y Y h2 tk2 n2 hy F2 N2 s2 r2
        exact bin_ok hy (r1.sub s2) r2 F2 N2 (k.move fun q hq => s2 q (s1 q hq))
      case UnaryOp op x pos =>
        cases op <;> try exact h.elim
        refine UnaryOp_ (iv x _ h m news s _ E F N G ?_)
        intro v X h1 tk1 n1 hx F1 N1 s1 r1
        obtain ⟨c, rfl, hx⟩ := onI_of hx
        obtain ⟨t, rfl⟩ := r1
        exact neg_int (k (.i _) _ h1 _ n1 hx F1 N1 s1 ⟨_, rfl⟩)
      case IfExp t x y pos =>
        refine IfExp_ (it t _ h m news s _ E F N G ?_)
        intro c h1 tk1 n1 hc F1 N1 s1
        cases c
        · exact iv y P hc m n1 _ _ E F1 N1 (G.sub s1) (k.move s1)
        · exact iv x P hc m n1 _ _ E F1 N1 (G.sub s1) (k.move s1)
      case Compare l ops rs pos =>
        cases ops with
        | nil => exact h.elim
        | cons op ops => cases ops with
          | cons => exact h.elim
          | nil => cases rs with
            | nil => exact h.elim
            | cons r rs => cases rs with
              | cons => exact h.elim
              | nil =>
                have h : ∀ b, behindInMarks op r = b → (match b with | false => ev K cs O ρ n false l fun a => ev K cs O ρ n false r fun b => cmp K op a b fun c => P (.b c) | true => False) := fun b e => by rw [← e]; exact h
                cases hm : behindInMarks op r
                · refine wpAny_Compare1 (iv l _ (h _ hm) m news s _ E F N G ?_) hm
                  intro x X h1 tk1 n1 hx F1 N1 s1 r1
                  refine iv r _ hx m n1 _ _ E F1 N1 (G.sub s1) ?_
                  intro y Y h2 tk2 n2 hy F2 N2 s2 r2
                  exact cmp_ok hX hy h64 (r1.sub s2) r2 F2 N2 fun c hc => k (.b c) _ h2 tk2 n2 hc F2 N2 (fun q hq => s2 q (s1 q hq)) rfl
                · exact (h _ hm).elim
      case Call f es ks pos =>
        obtain ⟨x, fp, rfl, h⟩ := fnName_of h
        cases es with
        | nil => exact h.elim
        | cons e r => cases ks with
          | cons => exact h.elim
          | nil =>
            obtain ⟨hp, h⟩ := ifT_of h
            have hp' := hp
            simp only [List.all_cons, Bool.and_eq_true] at hp'
            refine Call_ (iv _ _ h m news s _ E F N G ?_)
            intro fv FV h1 tk1 n1 hf F1 N1 s1 r1
            obtain ⟨hkp, hf⟩ := ifT_of hf
            have ar : ∀ Q', (∀ vs Vs h' tk' news', app O fv vs P → Fr g L h' m → News g L h' news' → (∀ q ∈ n1, q ∈ news') → Reps news' vs Vs → Vs.length = (e :: r).length → Q' Vs { s with heap := h', toks := tk' }) →
                wpAny (model prog w) (ktrTop dp un gd cn cs L a ccd [] outer) (spliced (backTo pos (starEach (e :: r) (envX cn cs L a ccd [])))) Q' E { s with heap := h1, toks := tk1 } :=
              fun Q' kk => evs_ok iv _ _ hf hp m n1 _ Q' E F1 N1 (G.sub s1) kk
            rcases keep_of hkp r1 with hki | ⟨T, rfl⟩ | ⟨T, rfl⟩
            · refine callWith_K hX hki (ar _ ?_) (starEach_plain hp'.1) (noStar hp'.2)
              intro vs Vs h2 tk2 n2 hvs F2 N2 s2 r2 _
              exact ⟨hX.keeps F2.keep, app_ok hB hX hT hk hd hu hO hvs (r1.sub s2) r2 F2 N2 (k.move fun q hq => s2 q (s1 q hq))⟩
            · refine PySem.Pv.callWith_type1 (ar _ ?_) (starEach_plain hp'.1) (noStar hp'.2)
              intro vs Vs h2 tk2 n2 hvs F2 N2 s2 r2 _
              exact app_ok hB hX hT hk hd hu hO hvs (r1.sub s2) r2 F2 N2 (k.move fun q hq => s2 q (s1 q hq))
            · refine callWith_builtin1 (ar _ ?_) (starEach_plain hp'.1) (noStar hp'.2)
              intro vs Vs h2 tk2 n2 hvs F2 N2 s2 r2 _
              exact app_ok hB hX hT hk hd hu hO hvs (r1.sub s2) r2 F2 N2 (k.move fun q hq => s2 q (s1 q hq))
      case Constant c kd pos =>
        cases c <;> try exact h.elim
        · exact Constant_bool (k (.b _) _ s.heap s.toks news h F N (fun _ q => q) rfl)
        · exact wpAny_Constant_int (k (.i _) _ s.heap _ news h F N (fun _ q => q) ⟨_, rfl⟩)
        · exact Constant_str (k (.s _) _ s.heap _ news h F N (fun _ q => q) ⟨_, rfl⟩)
      case Name x pos => exact nm_ok hX hT hk h F N G k
      case Tuple es kd pos =>
        obtain ⟨hp, h⟩ := ifT_of h
        simp only [Bool.and_eq_true, decide_eq_true_eq] at hp
        refine Tuple_ (evs_ok iv _ _ h hp.1 m news s _ E F N G ?_)
        intro vs Vs h1 tk1 n1 hvs F1 N1 s1 r1 e1
        have hvs : ∀ o, svInts vs = o → (match o with | some xs => P (.t xs) | none => False) := fun c e => by rw [← e]; exact hvs
        cases hxs : svInts vs
        · exact (hvs _ hxs).elim
        · refine kup_newTuple F1 N1 (fun D' h2 F2 N2 _ => ?_) (by rw [e1]; exact Nat.le_trans hp.2 (by decide))
          exact k (.t _) _ h2 _ _ (hvs _ hxs) F2 N2 (fun q hq => .tail _ (s1 q hq)) ⟨D', Vs, _, rfl, sv_ints hxs r1, .head _⟩
      case List es pos =>
        obtain ⟨hp, h⟩ := ifT_of h
        simp only [Bool.and_eq_true, decide_eq_true_eq] at hp
        refine List_ (evs_ok iv _ _ h hp.1 m news s _ E F N G ?_)
        intro vs Vs h1 tk1 n1 hvs F1 N1 s1 r1 e1
        have hvs : ∀ o, svInts vs = o → (match o with | some xs => P (.l xs) | none => False) := fun c e => by rw [← e]; exact hvs
        cases hxs : svInts vs
        · exact (hvs _ hxs).elim
        · refine newList_K F1 N1 (fun D' h2 F2 N2 _ => ?_) (by rw [e1]; exact Nat.le_trans hp.2 (by decide))
          exact k (.l _) _ h2 _ _ (hvs _ hxs) F2 N2 (fun q hq => .tail _ (s1 q hq)) ⟨D', Vs, _, rfl, sv_ints hxs r1, .head _⟩
      case Subscript v i pos =>
        obtain ⟨kk, ck, cp, rfl, h⟩ := constI_of h
        refine Subscript_ (iv _ _ h m news s _ E F N G ?_)
        intro x X h1 tk1 n1 hx F1 N1 s1 r1
        obtain ⟨xs, rfl, hx⟩ := onT_of hx
        obtain ⟨hb, hx⟩ := ifT_of hx
        obtain ⟨z, hi, hx⟩ := someI_of hx
        simp only [Bool.and_eq_true, decide_eq_true_eq] at hb
        obtain ⟨D', vs, n', rfl, ia, hm⟩ := r1
        obtain ⟨⟨u, hv⟩, hl⟩ := ints_at ia hi
        have ht := N1.isTup hm
        refine wpAny_Constant_int (tail_any ht.typeIs slot_tuple_getitem.lookup (getItem_tuple ht (by omega) (by omega) (by simpa using seqIdx hb.1 hl) (by simpa using hv) (k (.i _) _ h1 _ n1 hx F1 N1 s1 ⟨u, rfl⟩)) (by with_unfolding_all rfl))
    refine ⟨vv, ?_⟩
    intro e P h m news s Q E F N G k
    cases e <;> try exact h.elim
    case BoolOp op es pos =>
      cases op <;> try exact h.elim
      obtain ⟨x, y, rfl, h⟩ := two1_of h
      refine isTrue_or (it x _ h m news s _ E F N G ?_)
      intro c h1 tk1 n1 hc F1 N1 s1
      cases c
      · refine isTrue_or (it y _ hc m n1 _ _ E F1 N1 (G.sub s1) ?_)
        intro d h2 tk2 n2 hd F2 N2 s2
        cases d
        · exact isTrue_or_nil (k false h2 tk2 n2 hd F2 N2 (fun q hq => s2 q (s1 q hq)))
        · exact k true h2 tk2 n2 hd F2 N2 (fun q hq => s2 q (s1 q hq))
      · exact k true h1 tk1 n1 hc F1 N1 s1
    case UnaryOp op x pos =>
      cases op <;> try exact h.elim
      refine isTrue_not (it x _ h m news s _ E F N G ?_)
      intro c h1 tk1 n1 hc F1 N1 s1
      exact k (!c) h1 tk1 n1 hc F1 N1 s1
    case Compare l ops rs pos =>
      cases ops with
      | nil => exact h.elim
      | cons o1 ops => cases ops with
        | nil => cases rs with
          | nil => exact h.elim
          | cons r rs => cases rs with
            | cons => exact h.elim
            | nil =>
              have h : ∀ b, behindInMarks o1 r = b → (match b with | false => ev K cs O ρ n false l fun a => ev K cs O ρ n false r fun b => cmp K o1 a b fun c => P (.b c) | true => False) := fun b e => by rw [← e]; exact h
              cases hm : behindInMarks o1 r
              · refine wpAny_isTrue_Compare1 (iv l _ (h _ hm) m news s _ E F N G ?_) hm
                intro x X h1 tk1 n1 hx F1 N1 s1 r1
                refine iv r _ hx m n1 _ _ E F1 N1 (G.sub s1) ?_
                intro y Y h2 tk2 n2 hy F2 N2 s2 r2
                exact cmp_ok hX hy h64 (r1.sub s2) r2 F2 N2 fun c hc => wpAny_truthy_bool (k c h2 tk2 n2 hc F2 N2 (fun q hq => s2 q (s1 q hq)))
              · exact (h _ hm).elim
        | cons o2 ops => cases ops with
          | cons => exact h.elim
          | nil => cases rs with
            | nil => exact h.elim
            | cons r1 rs => cases rs with
              | nil => exact h.elim
              | cons r2 rs => cases rs with
                | cons => exact h.elim
                | nil =>
                  have h : ∀ b, behindInMarks o2 r2 = b → (match b with | false => ev K cs O ρ n false l fun a => ev K cs O ρ n false r1 fun b => cmp K o1 a b fun c => br c (ev K cs O ρ n false r2 fun d => cmp K o2 b d fun c => P (.b c)) (P (.b false)) | true => False) := fun b e => by rw [← e]; exact h
                  cases hm : behindInMarks o2 r2
                  · refine isTrue_chain (iv l _ (h _ hm) m news s _ E F N G ?_) hm
                    intro x X h1 tk1 n1 hx F1 N1 s1 e1
                    refine test_link (iv r1 _ hx m n1 _ _ E F1 N1 (G.sub s1) ?_)
                    intro y Y h2 tk2 n2 hy F2 N2 s2 e2
                    refine cmp_ok hX hy h64 (e1.sub s2) e2 F2 N2 fun c hc => wpAny_truthy_bool ?_
                    cases c
                    · exact k false h2 tk2 n2 hc F2 N2 (fun q hq => s2 q (s1 q hq))
                    · refine test_last (iv r2 _ hc m n2 _ _ E F2 N2 (G.sub fun q hq => s2 q (s1 q hq)) ?_)
                      intro z Z h3 tk3 n3 hz F3 N3 s3 e3
                      exact cmp_ok hX hz h64 (e2.sub s3) e3 F3 N3 fun c hc => wpAny_truthy_bool (k c h3 tk3 n3 hc F3 N3 (fun q hq => s3 q (s2 q (s1 q hq))))
                  · exact (h _ hm).elim
    case Call f es ks pos =>
      obtain ⟨x, fp, rfl, h⟩ := fnName_of h
      refine isTrue_plain (iv _ _ h m news s _ E F N G ?_)
      intro x X h1 tk1 n1 hx F1 N1 s1 r1
      obtain ⟨c, rfl, hx⟩ := onB_of hx
      cases r1
      exact wpAny_truthy_bool (k _ h1 tk1 n1 hx F1 N1 s1)
    case Name x pos =>
      refine isTrue_plain (iv _ _ h m news s _ E F N G ?_)
      intro x X h1 tk1 n1 hx F1 N1 s1 r1
      obtain ⟨c, rfl, hx⟩ := onB_of hx
      cases r1
      exact wpAny_truthy_bool (k _ h1 tk1 n1 hx F1 N1 s1)
end
theorem noSwap {e : Expr} {t : Option Expr} {l : Nat} {env : Env} (h : noC e = true) : swapsWith e t l env = pure false := by
  cases e <;> first | rfl | cases h
theorem noC_of {e : Expr} (h : noComp e = true) : noC e = true := by
  cases e <;> first | rfl | cases h
theorem noStores {e : Expr} {es : List Expr} {k : Nat} {p : Pos} {env : Env} (h : noComp e = true) : swappedStores [.Tuple es k p] e env = pure none := by
  cases e <;> first | rfl | cases h
theorem noFold {e : Expr} {env : Env} (h : iterOk e = true) (v : Value) : foldedSetIterable e env v = pure v := by
  cases e <;> first | rfl | cases h
theorem assignEach_name {x : Str} {p : Pos} {r : List Expr} {env : Env} : assignEach (.Name x p :: r) env = (false, assign (.Name x p) env) :: assignEach r env := rfl
theorem isLoc_of {sc : Scope} {x : Str} (h : isLoc sc x = true) : sc.names.lookup x = some .local := by
  have h : ∀ o, sc.names.lookup x = o → (match o with | some .local => true | _ => false) = true := fun o e => by rw [← e]; exact h
  cases e : sc.names.lookup x with
  | none => exact absurd (h _ e) (by decide)
  | some k => cases k <;> first | rfl | exact absurd (h _ e) (by decide)
section
variable {prog : Program} {w : World} {K : Frag} {p : Program} {loose : List Str} {mean : ExcName → Option Value} {mg mb : Str → Option Value} {O : Orc}
  {dp un D : Nat} {gd : Option (List Code)} {cn : Str} {cs : Scope} {a : Addr} {ccd : Value} {outer : List Env} {A₀ : Around} {base g : Heap} {L : Addr}
theorem bindv_of {news : Led} {v : SV} {V : Value} {P : SV → Prop} (h : bindv v P) (_r : Rep news v V) : P v := by
  cases v <;> first | exact h | exact h _ rfl
theorem bindNames_ok (hk : cs.kind = .function) : ∀ (es : List Expr) (xs : List Int) (ρ : Rho) (P : Rho → Prop) (vs : List Value), bindNames cs es xs ρ P → IntsAre vs xs →
    (assignEach es (envX cn cs L a ccd [])).length = vs.length ∧ (assignEach es (envX cn cs L a ccd [])).findIdx? (fun x => x.1) = none ∧
    ∀ (m : Str → Option Value) (news : Led) (s : Shared) (Q : Unit → Shared → Prop) (E : Value → Shared → Prop) (A : Around), Fr g L s.heap m → News g L s.heap news → Good ρ m news →
      (∀ ρ' m' h' tk', P ρ' → (∃ ext, ρ' = ext ++ ρ) → Fr g L h' m' → News g L h' news → Good ρ' m' news → Q () { s with heap := h', toks := tk' }) →
      wpAny (model prog w) A (assignInOrder ((assignEach es (envX cn cs L a ccd [])).map fun x => x.2) vs) Q E s
  | [], [], ρ, P, [], h, .nil => ⟨rfl, rfl, fun m news s Q E A F N G k => assignInOrder_nil (k ρ m s.heap s.toks h ⟨[], rfl⟩ F N G)⟩
  | e :: es, x :: xs, ρ, P, _, h, .cons _ t r => by
    cases e <;> try exact h.elim
    rename_i y q
    obtain ⟨hl, h⟩ := ifT_of (show ifT (isLoc cs y) (∀ z, x = z → bindNames cs es xs ((y, .i z) :: ρ) P) by cases e : isLoc cs y <;> simp only [bindNames, e] at h <;> exact h)
    have h := h x rfl
    obtain ⟨i1, i2, i3⟩ := bindNames_ok hk es xs _ P _ h r
    refine ⟨by rw [assignEach_name]; simp [i1], by rw [assignEach_name]; simp [List.findIdx?_cons, i2], fun m news s Q E A F N G k => ?_⟩
    rw [assignEach_name]
    refine assignInOrder_cons (assign_Name (storeX_L F N (fun h' F' N' => ?_) hk (isLoc_of hl)))
    exact i3 _ news _ Q E A F' N' (G.set ⟨t, rfl⟩) fun ρ' m' h'' tk'' hp hx F'' N'' G'' => k ρ' m' h'' tk'' hp (by obtain ⟨ext, rfl⟩ := hx; exact ⟨ext ++ [(y, .i x)], by simp⟩) F'' N'' G''
  | e :: _, [], _, _, _, h, _ => by cases e <;> exact h.elim
theorem aug_ok {op : Operator} {x y : SV} {X Y : Value} {P : SV → Prop} (h : aug op x y P) {m : Str → Option Value} {news : Led} {s : Shared} {Q E : Value → Shared → Prop} {A : Around}
    (rx : Rep news x X) (ry : Rep news y Y) (F : Fr g L s.heap m) (N : News g L s.heap news) (k : KV news g L m s Q P) : wpAny (model prog w) A (inplaceOp op X Y) Q E s := by
  cases op <;> try exact h.elim
  · obtain ⟨i, rfl, h⟩ := onI_of h; obtain ⟨j, rfl, h⟩ := onI_of h
    obtain ⟨t, rfl⟩ := rx; obtain ⟨u, rfl⟩ := ry
    exact iadd_int (k (.i _) _ s.heap _ news h F N (fun _ q => q) ⟨_, rfl⟩)
  · obtain ⟨i, rfl, h⟩ := onI_of h; obtain ⟨j, rfl, h⟩ := onI_of h
    obtain ⟨t, rfl⟩ := rx; obtain ⟨u, rfl⟩ := ry
    exact isub_int (k (.i _) _ s.heap _ news h F N (fun _ q => q) ⟨_, rfl⟩)
theorem hasStr_mem {x : Str} : ∀ {l : List Str}, hasStr l x = true ↔ x ∈ l
  | [] => by simp [hasStr]
  | y :: r => by
    unfold hasStr
    by_cases e : x = y
    · simp [e]
    · simp [e, hasStr_mem (l := r)]
/-- names that are not stored keep their values behind a turn -/
theorem good_rest {ext ρb : Rho} {m : Str → Option Value} {news : Led} (G : Good (ext ++ ρb) m news) (hd : ∀ q ∈ ρb, ∀ r ∈ ext, q.1 ≠ r.1) : Good ρb m news := by
  intro x v h
  refine G x v ?_
  have hn : ext.lookup x = none := by
    rw [List.lookup_eq_none_iff]
    intro r hr
    obtain ⟨q, hq, e⟩ : ∃ q ∈ ρb, q.1 = x := by
      clear G hd
      induction ρb with
      | nil => simp at h
      | cons b l ih =>
        rw [List.lookup_cons] at h
        by_cases e : x = b.1
        · exact ⟨b, .head _, e.symm⟩
        · have : (x == b.1) = false := by simpa using e
          rw [this] at h
          obtain ⟨q, hq, e⟩ := ih h
          exact ⟨q, .tail _ hq, e⟩
    have := hd q hq r hr
    simpa [← e] using this
  rw [List.lookup_append, hn]
  simpa using h
theorem simple_any {n1 n2 : Led} {v : SV} {V : Value} (h : simpleSV v = true) (r : Rep n1 v V) : Rep n2 v V := by
  cases v <;> first | exact r | cases h
theorem rest0_off {st : List Str} : ∀ {ρ : Rho}, ∀ q ∈ rest0 st ρ, hasStr st q.1 = false ∧ q ∈ ρ
  | [], q, hq => by simp [rest0] at hq
  | r :: ρ, q, hq => by
    unfold rest0 at hq
    cases e : hasStr st r.1
    · rw [e] at hq
      rcases List.mem_cons.mp hq with rfl | hq
      · exact ⟨e, .head _⟩
      · exact ⟨(rest0_off q hq).1, .tail _ (rest0_off q hq).2⟩
    · rw [e] at hq
      exact ⟨(rest0_off q hq).1, .tail _ (rest0_off q hq).2⟩
theorem bad_mem : ∀ {ρ : Rho}, ∀ q ∈ ρ, simpleSV q.2 = false → q.1 ∈ bad ρ
  | r :: ρ, q, hq, h => by
    unfold bad
    rcases List.mem_cons.mp hq with rfl | hq
    · rw [h]
      exact .head _
    · cases e : simpleSV r.2
      · exact .tail _ (bad_mem q hq h)
      · exact bad_mem q hq h
theorem rest0_simple {st : List Str} {ρ : Rho} (q : Str × SV) (hq : q ∈ rest0 (st ++ bad ρ) ρ) : simpleSV q.2 = true := by
  obtain ⟨h1, h2⟩ := rest0_off q hq
  cases e : simpleSV q.2
  · have := hasStr_mem.mpr (List.mem_append_right st (bad_mem q h2 e))
    rw [h1] at this
    cases this
  · rfl
theorem lookup_mem {x : Str} {v : SV} : ∀ {ρ : Rho}, ρ.lookup x = some v → (x, v) ∈ ρ
  | [], h => by simp at h
  | r :: l, h => by
    rw [List.lookup_cons] at h
    by_cases e : x = r.1
    · have eb : (x == r.1) = true := by simpa using e
      rw [eb] at h
      cases h
      rw [e]
      exact .head _
    · have eb : (x == r.1) = false := by simpa using e
      rw [eb] at h
      exact .tail _ (lookup_mem h)
theorem Good.any {ρ : Rho} {m : Str → Option Value} {n1 n2 : Led} (G : Good ρ m n1) (hs : ∀ q ∈ ρ, simpleSV q.2 = true) : Good ρ m n2 := fun x v h => by
  obtain ⟨V, a, b⟩ := G x v h
  exact ⟨V, a, simple_any (hs _ (lookup_mem h)) b⟩
theorem good_rest0 {st : List Str} {ρ : Rho} {m : Str → Option Value} {news : Led} (G : Good ρ m news) : Good (rest0 st ρ) m news := by
  intro x v h
  refine G x v ?_
  have key : ∀ {ρ : Rho}, (rest0 st ρ).lookup x = some v → hasStr st x = false ∧ ρ.lookup x = some v := by
    intro ρ
    induction ρ with
    | nil => intro h; simp [rest0] at h
    | cons r l ih =>
      intro h
      unfold rest0 at h
      rw [List.lookup_cons]
      by_cases e : x = r.1
      · have eb : (x == r.1) = true := by simpa using e
        rw [eb]
        cases e2 : hasStr st r.1
        · rw [e2] at h
          have h : (r :: rest0 st l).lookup x = some v := h
          rw [List.lookup_cons, eb] at h
          exact ⟨e ▸ e2, h⟩
        · rw [e2] at h
          have := (ih h).1
          rw [e, e2] at this
          cases this
      · have eb : (x == r.1) = false := by simpa using e
        rw [eb]
        cases e2 : hasStr st r.1
        · rw [e2] at h
          have h : (r :: rest0 st l).lookup x = some v := h
          rw [List.lookup_cons, eb] at h
          exact ih h
        · rw [e2] at h
          exact ih h
  exact (key h).2
theorem turnEnd_of {st : List Str} {x y : Str} {ρ ρ' ext mid : Rho} {P : Int → Int → Prop} (h : turnEnd st (rest0 st ρ).length x y ρ' P) (e : ρ' = ext ++ (mid ++ rest0 st ρ)) {m : Str → Option Value} {news : Led} (G : Good ρ' m news) :
    ∃ i j, P i j ∧ Good ((x, .i i) :: (y, .i j) :: rest0 st ρ) m news := by
  obtain ⟨ha, h⟩ := ifT_of h
  obtain ⟨i, hi, h⟩ := onO_of h
  obtain ⟨j, hj, h⟩ := onO_of h
  refine ⟨i, j, h, ?_⟩
  have e' : ρ' = (ext ++ mid) ++ rest0 st ρ := by rw [e, List.append_assoc]
  have et : ρ'.take (ρ'.length - (rest0 st ρ).length) = ext ++ mid := by
    rw [e', List.length_append, Nat.add_sub_cancel, List.take_left']
    rfl
  rw [et] at ha
  have G2 : Good (rest0 st ρ) m news := good_rest (e' ▸ G) fun q hq r hr z => by
    have h1 := (rest0_off q hq).1
    have h2 := List.all_eq_true.mp ha r hr
    rw [z, h2] at h1
    cases h1
  intro z v hz
  rw [List.lookup_cons] at hz
  by_cases e1 : z = x
  · subst e1
    simp at hz
    subst hz
    exact G _ _ hi
  · have eb : (z == x) = false := by simpa using e1
    rw [eb, List.lookup_cons] at hz
    by_cases e2 : z = y
    · subst e2
      simp at hz
      subst hz
      exact G _ _ hj
    · have eb2 : (z == y) = false := by simpa using e2
      rw [eb2] at hz
      exact G2 z v hz
theorem rangeOf_of (hX : K.In g) (hT : Top p loose mean mg mb g) (hk : cs.kind = .function) {e : Expr} {P : Int → Nat → Prop} (h : rangeOf K cs e P) : ∃ a0 n b0, P a0 n ∧ Builtin.Range.small a0 b0 1 = true ∧ Builtin.Range.rangeSize a0 b0 1 = (n : Int) ∧
    ∀ (m : Str → Option Value) (news : Led) (s : Shared) (Q E : Value → Shared → Prop), Fr g L s.heap m → News g L s.heap news →
      (∀ h' tk r t₁ u₁ v₁, IsRange h' r a0 b0 1 t₁ u₁ v₁ → Fr g L h' m → News g L h' news → Q (.ref r) { s with heap := h', toks := tk }) →
      wpAny (model prog w) (ktrTop dp un gd cn cs L a ccd [] outer) (eval e (envX cn cs L a ccd [])) Q E s := by
  cases e <;> try exact h.elim
  rename_i f es ks pos
  obtain ⟨x, fp, rfl, h⟩ := fnName_of h
  cases ks with
  | cons => exact h.elim
  | nil =>
    obtain ⟨hc, h9⟩ := ifT_of h
    clear h
    simp only [Bool.and_eq_true, decide_eq_true_eq] at hc
    obtain ⟨⟨rfl, h1⟩, h2⟩ := hc
    have h := h9
    clear h9
    have hx : cs.names.lookup (Str.ofString "range") = some .globalImplicit := by
      split at h1
      · assumption
      · cases h1
    have hn : nsIn K mainGlobals (Str.ofString "range") = some none := by
      split at h2
      · assumption
      · cases h2
    have hname : ∀ (m : Str → Option Value) (s : Shared) (Q E : Value → Shared → Prop), Fr g L s.heap m → Q (.type "range") s → wpAny (model prog w) (ktrTop dp un gd cn cs L a ccd [] outer) (eval (.Name (Str.ofString "range") fp) (envX cn cs L a ccd [])) Q E s :=
      fun m s Q E F q => nameX_B F hX (topRead_of hT) hn boot_range (by decide) q hk hx (by decide)
    have small_ok : ∀ {a b : Int}, 0 ≤ a → a < 100 → 0 ≤ b → b < 100 → Builtin.Range.small a b 1 = true := fun {a b} h1 h2 h3 h4 => small_one (by omega) (by omega) (by omega) (by omega)
    cases es with
    | nil => exact h.elim
    | cons e1 es => cases es with
      | nil =>
        obtain ⟨n, ck, cp, rfl, h5⟩ := constI_of h
        obtain ⟨hb, h6⟩ := ifT_of h5
        simp only [Bool.and_eq_true, decide_eq_true_eq] at hb
        refine ⟨0, n.toNat, n, h6, small_ok (by omega) (by omega) hb.1 hb.2, by rw [rangeSize_nat]; omega, fun m news s Q E F N k => ?_⟩
        refine Call_ (hname m s _ E F ?_)
        refine PySem.Pv.callWith_type1 (args_cons (wpAny_Constant_int (args_nil ?_)) rfl) rfl rfl
        exact range1_rows F N fun h' tk t1 u1 v1 hr F' N' _ => k h' tk _ t1 u1 v1 hr F' N'
      | cons e2 es => cases es with
        | cons => exact h.elim
        | nil =>
          obtain ⟨n, ck, cp, rfl, h5⟩ := constI_of h
          obtain ⟨n2, ck2, cp2, rfl, h6⟩ := constI_of h5
          obtain ⟨hb, h7⟩ := ifT_of h6
          simp only [Bool.and_eq_true, decide_eq_true_eq] at hb
          refine ⟨n, (n2 - n).toNat, n2, h7, small_ok hb.1.1 (by omega) (by omega) hb.2, by rw [rangeSize_nat], fun m news s Q E F N k => ?_⟩
          refine Call_ (hname m s _ E F ?_)
          refine PySem.Pv.callWith_type1 (args_cons (wpAny_Constant_int (args_cons (wpAny_Constant_int (args_nil ?_)) rfl)) rfl) rfl rfl
          exact range2_rows F N fun h' tk t1 u1 v1 hr F' N' _ => k h' tk _ t1 u1 v1 hr F' N'
theorem ws_ok (hB : Below A₀ base outer g) (hX : K.In g) (hT : Top p loose mean mg mb g) (hk : cs.kind = .function) (hd : dp + D < recursionLimit) (hu : un + 8 * D < cLine) (h8 : 8 ≤ D) (hO : OrcOK prog w K p loose mean mg mb O D) {R : SV → Prop} :
    ∀ (n : Nat) (lp : Bool) (st : List Stmt) (ρ : Rho) (kk kb : Rho → Prop), ws K cs O R n lp st ρ kk kb → ∀ (m : Str → Option Value) (news : Led) (s : Shared) (Q : Flow → Shared → Prop), Fr g L s.heap m → News g L s.heap news → Good ρ m news →
      (∀ ρ' m' h' tk' news', kk ρ' → (lp = true → ∃ ext, ρ' = ext ++ ρ) → Fr g L h' m' → News g L h' news' → (∀ q ∈ news, q ∈ news') → Good ρ' m' news' → Q .next { s with heap := h', toks := tk' }) →
      (∀ ρ' m' h' tk' news', kb ρ' → (lp = true → ∃ ext, ρ' = ext ++ ρ) → Fr g L h' m' → News g L h' news' → (∀ q ∈ news, q ∈ news') → Good ρ' m' news' → Q .brk { s with heap := h', toks := tk' }) →
      (∀ v V m' h' tk' news', R v → Fr g L h' m' → News g L h' news' → (∀ q ∈ news, q ∈ news') → Rep news' v V → Q (.ret V) { s with heap := h', toks := tk' }) →
        wpAny (model prog w) (ktrTop dp un gd cn cs L a ccd [] outer) (execs st (envX cn cs L a ccd [])) Q (fun _ _ => False) s
  | 0, _, _, _, _, _, h => h.elim
  | n + 1, lp, [], ρ, kk, kb, h => by
    intro m news s Q F N G k _ _
    exact wpAny_execs_nil (k ρ m s.heap s.toks news h (fun _ => ⟨[], rfl⟩) F N (fun _ q => q) G)
  | n + 1, lp, st :: rest, ρ, kk, kb, h => by
    intro m news s Q F N G k b r
    have iw := ws_ok hB hX hT hk hd hu h8 hO (R := R) n
    obtain ⟨iv, it⟩ := ev_ok (prog := prog) (w := w) (gd := gd) (cn := cn) (a := a) (ccd := ccd) (L := L) (p := p) (loose := loose) (mean := mean) (mg := mg) (mb := mb) hB hX hT hk hd hu h8 hO ρ 30
    -- the rest from a later place
    have go : ∀ (l : List Stmt) (ρ1 : Rho) (k1 : Rho → Prop) (m1 : Str → Option Value) (h1 : Heap) (tk1 : Nat) (n1 : Led) (Q1 : Flow → Shared → Prop), ws K cs O R n lp l ρ1 k1 kb → (lp = true → ∃ ext, ρ1 = ext ++ ρ) → Fr g L h1 m1 → News g L h1 n1 → (∀ q ∈ news, q ∈ n1) → Good ρ1 m1 n1 →
        (∀ ρ' m' h' tk' news', k1 ρ' → (lp = true → ∃ ext, ρ' = ext ++ ρ) → Fr g L h' m' → News g L h' news' → (∀ q ∈ news, q ∈ news') → Good ρ' m' news' → Q1 .next { s with heap := h', toks := tk' }) →
        (∀ ρ' m' h' tk' news', kb ρ' → (lp = true → ∃ ext, ρ' = ext ++ ρ) → Fr g L h' m' → News g L h' news' → (∀ q ∈ news, q ∈ news') → Good ρ' m' news' → Q1 .brk { s with heap := h', toks := tk' }) →
        (∀ v V m' h' tk' news', R v → Fr g L h' m' → News g L h' news' → (∀ q ∈ news, q ∈ news') → Rep news' v V → Q1 (.ret V) { s with heap := h', toks := tk' }) →
        wpAny (model prog w) (ktrTop dp un gd cn cs L a ccd [] outer) (execs l (envX cn cs L a ccd [])) Q1 (fun _ _ => False) { s with heap := h1, toks := tk1 } := by
      intro l ρ1 k1 m1 h1 tk1 n1 Q1 hw he F1 N1 s1 G1 kx bx rx
      exact iw lp l _ k1 kb hw m1 n1 _ Q1 F1 N1 G1
        (fun ρ' m' h' tk' n' hp hx F' N' s' G' => kx ρ' m' h' tk' n' hp (fun hl => by obtain ⟨e1, rfl⟩ := he hl; obtain ⟨e2, rfl⟩ := hx hl; exact ⟨e2 ++ e1, by simp⟩) F' N' (fun q hq => s' q (s1 q hq)) G')
        (fun ρ' m' h' tk' n' hp hx F' N' s' G' => bx ρ' m' h' tk' n' hp (fun hl => by obtain ⟨e1, rfl⟩ := he hl; obtain ⟨e2, rfl⟩ := hx hl; exact ⟨e2 ++ e1, by simp⟩) F' N' (fun q hq => s' q (s1 q hq)) G')
        (fun v V m' h' tk' n' hp F' N' s' r' => rx v V m' h' tk' n' hp F' N' (fun q hq => s' q (s1 q hq)) r')
    have on : ∀ (ρ1 : Rho) (m1 : Str → Option Value) (h1 : Heap) (tk1 : Nat) (n1 : Led), ws K cs O R n lp rest ρ1 kk kb → (lp = true → ∃ ext, ρ1 = ext ++ ρ) → Fr g L h1 m1 → News g L h1 n1 → (∀ q ∈ news, q ∈ n1) → Good ρ1 m1 n1 →
        wpAny (model prog w) (ktrTop dp un gd cn cs L a ccd [] outer) (execs rest (envX cn cs L a ccd [])) Q (fun _ _ => False) { s with heap := h1, toks := tk1 } :=
      fun ρ1 m1 h1 tk1 n1 hw he F1 N1 s1 G1 => go rest ρ1 kk m1 h1 tk1 n1 Q hw he F1 N1 s1 G1 k b r
    have step : ∀ (x : Str) (n1 : Led) (h1 : Heap) (tk1 : Nat) (v : SV) (V : Value), ws K cs O R n lp rest ((x, v) :: ρ) kk kb → isLoc cs x = true → Fr g L h1 m → News g L h1 n1 → (∀ q ∈ news, q ∈ n1) → Rep n1 v V →
        wpAny (model prog w) (ktrTop dp un gd cn cs L a ccd [] outer) (storeName (envX cn cs L a ccd []) x V) (fun _ s' => wpAny (model prog w) (ktrTop dp un gd cn cs L a ccd [] outer) (execs rest (envX cn cs L a ccd [])) Q (fun _ _ => False) s') (fun _ _ => False) { s with heap := h1, toks := tk1 } :=
      fun x n1 h1 tk1 v V hw hl F1 N1 s1 r1 => storeX_L F1 N1 (fun h2 F2 N2 => on _ _ h2 _ n1 hw (fun _ => ⟨[(x, v)], rfl⟩) F2 N2 s1 ((G.sub s1).set r1)) hk (isLoc_of hl)
    -- a body whose end goes on with the rest
    have blk : ∀ (l : List Stmt) (m1 : Str → Option Value) (h1 : Heap) (tk1 : Nat) (n1 : Led), ws K cs O R n lp l ρ (fun ρ' => ws K cs O R n lp rest ρ' kk kb) kb → Fr g L h1 m1 → News g L h1 n1 → (∀ q ∈ news, q ∈ n1) → Good ρ m1 n1 →
        wpAny (model prog w) (ktrTop dp un gd cn cs L a ccd [] outer) (execs l (envX cn cs L a ccd []))
          (fun f s' => match f with | .next => wpAny (model prog w) (ktrTop dp un gd cn cs L a ccd [] outer) (execs rest (envX cn cs L a ccd [])) Q (fun _ _ => False) s' | f => Q f s') (fun _ _ => False) { s with heap := h1, toks := tk1 } :=
      fun l m1 h1 tk1 n1 hw F1 N1 s1 G1 => go l ρ _ m1 h1 tk1 n1 _ hw (fun _ => ⟨[], rfl⟩) F1 N1 s1 G1 (fun ρ' m' h' tk' n' hp hx F' N' s' G' => on ρ' m' h' tk' n' hp hx F' N' s' G') b r
    refine wpAny_execs_cons ?_
    cases st <;> try exact h.elim
    case Return e pos =>
      cases e with
      | none => exact h.elim
      | some e =>
        refine wpAny_Return_some (iv e R h m news s _ _ F N G ?_)
        intro v V h1 tk1 n1 hv F1 N1 s1 r1
        exact r v V m h1 tk1 n1 hv F1 N1 s1 r1
    case Assign ts e pos =>
      cases ts with
      | nil => exact h.elim
      | cons t ts => cases ts with
        | cons => exact h.elim
        | nil =>
          cases t <;> try exact h.elim
          case Name x px =>
            obtain ⟨hb, h⟩ := ifT_of h
            simp only [Bool.and_eq_true] at hb
            refine wpAny_Assign_Name (iv e _ h m news s _ _ F N G ?_) (noSwap hb.1)
            intro v V h1 tk1 n1 hv F1 N1 s1 r1
            exact step x n1 h1 tk1 v V (bindv_of hv r1) hb.2 F1 N1 s1 r1
          case Tuple es kd px =>
            obtain ⟨hb, h⟩ := ifT_of h
            refine Assign_Tuple (iv e _ h m news s _ _ F N G ?_) (by unfold swapsWithSole; exact noSwap (noC_of hb)) (noStores hb)
            intro v V h1 tk1 n1 hv F1 N1 s1 r1
            obtain ⟨xs, rfl, hv⟩ := onT_of hv
            obtain ⟨D', vs, n', rfl, ia, hm⟩ := r1
            obtain ⟨e1, e2, e3⟩ := bindNames_ok (prog := prog) (w := w) (g := g) (cn := cn) (a := a) (ccd := ccd) (L := L) hk _ _ _ _ vs hv ia
            refine unpackN_ F1 N1 (N1.isTup hm) rfl (by simpa using e1) e2 (fun h2 F2 N2 => ?_)
            refine e3 m n1 _ _ _ _ F2 N2 (G.sub s1) ?_
            intro ρ' m' h3 tk3 hp hx F3 N3 G3
            exact on ρ' m' h3 tk3 n1 hp (fun _ => hx) F3 N3 s1 G3
    case AugAssign t op e pos =>
      obtain ⟨x, px, rfl, h⟩ := fnName_of h
      have h : ∀ o, ρ.lookup x = o → (match o with | some v => ifT (isLoc cs x) (ev K cs O ρ 30 false e fun v' => aug op v v' fun r => bindv r fun r => ws K cs O R n lp rest ((x, r) :: ρ) kk kb) | none => False) := fun o q => by rw [← q]; exact h
      cases ho : ρ.lookup x with
      | none => exact (h _ ho).elim
      | some old =>
        obtain ⟨hl, h⟩ := ifT_of (h _ ho)
        obtain ⟨V0, hm, r0⟩ := G _ _ ho
        refine wpAny_AugAssign_Name (wpAny_loadName_local hk (isLoc_of hl) F.ns hm ?_)
        refine iv e _ h m news s _ _ F N G ?_
        intro v V h1 tk1 n1 hv F1 N1 s1 r1
        refine aug_ok hv (r0.sub s1) r1 F1 N1 ?_
        intro v2 V2 h2 tk2 n2 hv2 F2 N2 s2 r2
        exact step x n2 h2 tk2 v2 V2 (bindv_of hv2 r2) hl F2 N2 (fun q hq => s2 q (s1 q hq)) r2
    case If t bd o pos =>
      refine wpAny_If (it t (fun v => onB v fun c => br c (ws K cs O R n lp bd ρ (fun ρ' => ws K cs O R n lp rest ρ' kk kb) kb) (ws K cs O R n lp o ρ (fun ρ' => ws K cs O R n lp rest ρ' kk kb) kb)) h m news s _ _ F N G ?_)
      intro c h1 tk1 n1 hc F1 N1 s1
      cases c
      · exact blk o m h1 tk1 n1 hc F1 N1 s1 (G.sub s1)
      · exact blk bd m h1 tk1 n1 hc F1 N1 s1 (G.sub s1)
    case Expr e pos =>
      obtain ⟨hb, h⟩ := ifT_of h
      refine wpAny_Expr_any (iv e _ h m news s _ _ F N G ?_) ?_ (noSwap hb)
      · intro v V h1 tk1 n1 hv F1 N1 s1 r1
        exact on ρ m h1 tk1 n1 hv (fun _ => ⟨[], rfl⟩) F1 N1 s1 (G.sub s1)
      · show (cs.kind == .module && _) = false
        rw [hk]; rfl
    case Assert t msg pos =>
      have goal : wpAny (model prog w) (ktrTop dp un gd cn cs L a ccd [] outer) (PySem.isTrue t (envX cn cs L a ccd []) (eval t (envX cn cs L a ccd [])))
          (fun c s' => c = true ∧ wpAny (model prog w) (ktrTop dp un gd cn cs L a ccd [] outer) (execs rest (envX cn cs L a ccd [])) Q (fun _ _ => False) s') (fun _ _ => False) s := by
        refine it t (fun v => onB v fun c => c = true ∧ ws K cs O R n lp rest ρ kk kb) h m news s _ _ F N G ?_
        intro c h1 tk1 n1 hc F1 N1 s1
        exact ⟨hc.1, on ρ m h1 tk1 n1 hc.2 (fun _ => ⟨[], rfl⟩) F1 N1 s1 (G.sub s1)⟩
      cases msg with
      | none =>
        refine wpAny_Assert_new rfl (wpAny_mono goal (fun c s' hc => ?_) fun _ _ x => x)
        rw [if_pos hc.1]
        exact hc.2
      | some msg =>
        refine wpAny_Assert_msg_new rfl (wpAny_mono goal (fun c s' hc => ?_) fun _ _ x => x)
        rw [if_pos hc.1]
        exact hc.2
    case Break pos => exact wpAny_Break (b ρ m s.heap s.toks news h (fun _ => ⟨[], rfl⟩) F N (fun _ q => q) G)
    case Try bd hs o f pos =>
      cases hs with
      | nil => exact h.elim
      | cons h0 hs => cases o with
        | cons => exact h.elim
        | nil => cases f with
          | cons => exact h.elim
          | nil =>
            refine wpAny_Try_except (wpAny_mono (blk bd m s.heap s.toks news h F N (fun _ q => q) G) (fun f s' hf => ?_) fun _ _ x => x.elim)
            cases f with
            | next => exact wpAny_execs_nil hf
            | brk => exact hf
            | cont => exact hf
            | ret v => exact hf
    case For t it2 body els pos =>
      obtain ⟨x, px, rfl, h⟩ := fnName_of h
      cases els with
      | cons => exact h.elim
      | nil =>
        obtain ⟨y, z, hc, h⟩ := two1_of h
        obtain ⟨i0, hy, h⟩ := onO_of h
        obtain ⟨j0, hz, h⟩ := onO_of h
        obtain ⟨hb, h⟩ := ifT_of h
        simp only [Bool.and_eq_true, Bool.not_eq_true'] at hb
        obtain ⟨hb, hlp⟩ := hb
        have onL2 : ∀ (ρ1 : Rho) (m1 : Str → Option Value) (h1 : Heap) (tk1 : Nat) (n1 : Led), ws K cs O R n lp rest ρ1 kk kb → Fr g L h1 m1 → News g L h1 n1 → (∀ q ∈ news, q ∈ n1) → Good ρ1 m1 n1 →
            wpAny (model prog w) (ktrTop dp un gd cn cs L a ccd [] outer) (execs rest (envX cn cs L a ccd [])) Q (fun _ _ => False) { s with heap := h1, toks := tk1 } :=
          fun ρ1 m1 h1 tk1 n1 hw F1 N1 s1 G1 => on ρ1 m1 h1 tk1 n1 hw (fun q => by rw [hlp] at q; cases q) F1 N1 s1 G1
        have hE : PassesOwn (model prog w) (ktrTop dp un gd cn cs L a ccd [] outer) (envX cn cs L a ccd []) (fun _ _ => False) := PassesOwn.never
        have hp : ((envX cn cs L a ccd []).scope.kind == .class || ((envX cn cs L a ccd []).scope.kind == .module && (envX cn cs L a ccd []).locals != (envX cn cs L a ccd []).globals)) = false := by
          show (cs.kind == .class || (cs.kind == .module && L != mainGlobals)) = false
          rw [hk]; rfl
        -- one turn
        have turn : ∀ (J : List Int → Int → Int → Prop) (n1 own : Led) (m₁ : Str → Option Value) (h1 : Heap) (tk1 : Nat) (pre : List Int) (v i j : Int) (t : Tok), (∀ q ∈ news, q ∈ n1) →
            ws K cs O R n true body ((x, .i v) :: (y, .i i) :: (z, .i j) :: rest0 (x :: (sto 30 body ++ bad ρ)) ρ)
              (fun ρ' => turnEnd (x :: (sto 30 body ++ bad ρ)) (rest0 (x :: (sto 30 body ++ bad ρ)) ρ).length y z ρ' fun i j => J (pre ++ [v]) i j)
              (fun ρ' => turnEnd (x :: (sto 30 body ++ bad ρ)) (rest0 (x :: (sto 30 body ++ bad ρ)) ρ).length y z ρ' fun i j => ws K cs O R n lp rest ((y, .i i) :: (z, .i j) :: rest0 (x :: (sto 30 body ++ bad ρ)) ρ) kk kb) →
            Good ((y, .i i) :: (z, .i j) :: rest0 (x :: (sto 30 body ++ bad ρ)) ρ) m₁ n1 → Fr g L h1 (fun w => if w = x then some (.int v t) else m₁ w) → News g L h1 (n1 ++ own) →
            wpAny (model prog w) (ktrTop dp un gd cn cs L a ccd [] outer) (execs body (envX cn cs L a ccd []))
              (InvPostN g L (fun m' nx => nx = n1 ∧ ∃ i j, Good ((y, .i i) :: (z, .i j) :: rest0 (x :: (sto 30 body ++ bad ρ)) ρ) m' n1 ∧ J (pre ++ [v]) i j) own (n1.map (·.1)) { s with heap := h1, toks := tk1 }
                (fun f s' => match f with | .next => wpAny (model prog w) (ktrTop dp un gd cn cs L a ccd [] outer) (execs rest (envX cn cs L a ccd [])) Q (fun _ _ => False) s' | f => Q f s')) (fun _ _ => False) { s with heap := h1, toks := tk1 } := by
          intro J n1 own m₁ h1 tk1 pre v i j t sn hw G1 F1 N1
          have back : ∀ {ρ' : Rho} {P : Int → Int → Prop} {m' : Str → Option Value} {n' : Led}, turnEnd (x :: (sto 30 body ++ bad ρ)) (rest0 (x :: (sto 30 body ++ bad ρ)) ρ).length y z ρ' P → (∃ ext, ρ' = ext ++ ((x, .i v) :: (y, .i i) :: (z, .i j) :: rest0 (x :: (sto 30 body ++ bad ρ)) ρ)) → Good ρ' m' n' →
              ∃ i j, P i j ∧ ∀ nn, Good ((y, .i i) :: (z, .i j) :: rest0 (x :: (sto 30 body ++ bad ρ)) ρ) m' nn := by
            intro ρ' P m' n' ht hx G'
            obtain ⟨ext, e⟩ := hx
            obtain ⟨i', j', hp', G2⟩ := turnEnd_of (mid := [(x, .i v), (y, .i i), (z, .i j)]) ht e G'
            refine ⟨i', j', hp', fun nn => G2.any fun q hq => ?_⟩
            rcases List.mem_cons.mp hq with rfl | hq
            · rfl
            rcases List.mem_cons.mp hq with rfl | hq
            · rfl
            exact rest0_simple (st := x :: sto 30 body) q hq
          refine iw true body _ _ _ hw _ (n1 ++ own) _ _ F1 N1 ((G1.sub fun q hq => List.mem_append_left _ hq).set ⟨t, rfl⟩) ?_ ?_ ?_
          · intro ρ' m' h' tk' n' ht hx F' N' s' G'
            obtain ⟨i', j', hj, G2⟩ := back ht (hx rfl) G'
            exact InvEndN.intro F' N' ⟨rfl, i', j', G2 n1, hj⟩ rfl (fun q hq => s' q (List.mem_append_left _ hq)) fun q hq => s' q (List.mem_append_right _ hq)
          · intro ρ' m' h' tk' n' ht hx F' N' s' G'
            obtain ⟨i', j', hj, G2⟩ := back ht (hx rfl) G'
            exact onL2 _ m' h' tk' n' hj F' N' (fun q hq => s' q (List.mem_append_left _ (sn q hq))) (G2 n')
          · intro v' V' m' h' tk' n' hv F' N' s' r'
            exact r v' V' m' h' tk' n' hv F' N' (fun q hq => s' q (List.mem_append_left _ (sn q hq))) r'
        have G0 : ∀ n1, (∀ q ∈ news, q ∈ n1) → Good ((y, .i i0) :: (z, .i j0) :: rest0 (x :: (sto 30 body ++ bad ρ)) ρ) m n1 := fun n1 sn => by
          have Gs := G.sub sn
          have Gr : Good (rest0 (x :: (sto 30 body ++ bad ρ)) ρ) m n1 := good_rest0 Gs
          intro u v hu
          rw [List.lookup_cons] at hu
          by_cases e1 : u = y
          · subst e1
            simp at hu
            subst hu
            exact Gs _ _ hy
          · have eb : (u == y) = false := by simpa using e1
            rw [eb, List.lookup_cons] at hu
            by_cases e2 : u = z
            · subst e2
              simp at hu
              subst hu
              exact Gs _ _ hz
            · have eb2 : (u == z) = false := by simpa using e2
              rw [eb2] at hu
              exact Gr u v hu
        refine For_invV g (isLoc_of hb.2) hp ?_ (noFold hb.1) hE
        cases hr : isRangeE it2 with
        | true =>
          rw [hr] at h
          obtain ⟨a0, len, b0, ⟨J, h0, h1, h2⟩, hsm, hrs, hev⟩ := rangeOf_of (prog := prog) (w := w) (dp := dp) (un := un) (gd := gd) (cn := cn) (a := a) (ccd := ccd) (outer := outer) (L := L) hX hT hk h
          refine hev m news s _ _ F N fun h' tk rr t1 u1 v1 hir F' N' => ?_
          refine wpAny_pyIter_range hir hsm ?_
          have W : Walks prog w (ktrTop dp un gd cn cs L a ccd [] outer) h'.objs.size [h'.objs.size] [h'.objs.size] len (fun i v => i < len ∧ ∃ t, v = .int (a0 + i * 1) t)
            (fun i h => IsRangeIter h h'.objs.size (a0 + (i : Nat) * 1) ((len : Int) - (i : Nat)) 1) := (Walks.range rfl _ a0 1 len).bound
          refine loop_invN (fun i m nx => nx = news ∧ ∃ i' j', Good ((y, .i i') :: (z, .i j') :: rest0 (x :: (sto 30 body ++ bad ρ)) ρ) m news ∧ J ((rangeKs a0 len).take i) i' j') W ?_ ?_ ?_ ?_ (by show IsRangeIter _ _ _ _ _; rw [hrs]; simpa using Heap.get?_push_size _ rfl) (F'.push _) (fun p hp => ⟨Heap.get?_push_of_some _ (N' p hp).1, (N' p hp).2⟩) ⟨rfl, i0, j0, G0 news fun _ q => q, by simpa using h0⟩ ?_ ?_
          · intro hm
            exact absurd F'.ns.lt ((List.mem_singleton.mp hm) ▸ Nat.lt_irrefl _)
          · intro b hb
            rw [List.mem_singleton.mp hb]
            exact next_is_new F'
          · intro p hp hI
            exact absurd (Heap.lt_size (N' p hp).1) ((List.mem_singleton.mp hI) ▸ Nat.lt_irrefl _)
          · intro p hp hI
            exact absurd (Heap.lt_size (N' p hp).1) ((List.mem_singleton.mp hI) ▸ Nat.lt_irrefl _)
          · rintro i v m₁ nx h3 tk3 own hi ⟨_, t, rfl⟩ _ hoff ⟨rfl, i', j', G1, hJ⟩ F1 N1
            have e1 : a0 + (i : Int) * 1 = a0 + (i : Int) := by omega
            rw [e1] at F1
            have hk' : (rangeKs a0 len)[i]? = some (a0 + (i : Int)) := by simp [rangeKs, hi]
            have hs : (rangeKs a0 len).take (i + 1) = (rangeKs a0 len).take i ++ [a0 + (i : Int)] := by simp [List.take_add_one, hk']
            have hlen : ((rangeKs a0 len).take i).length = i := by rw [List.length_take, rangeKs_length]; omega
            rw [hs]
            exact turn J _ own m₁ h3 tk3 _ _ i' j' t (fun _ q => q) (h1 _ _ i' j' (by rw [hlen]) (by rw [hlen]; exact hi) hJ) G1 F1 N1
          · rintro m₁ nx h3 tk3 ⟨rfl, i', j', G1, hJ⟩ F1 N1
            have hl : (rangeKs a0 len).take len = rangeKs a0 len := List.take_of_length_le (Nat.le_of_eq (rangeKs_length _ _))
            rw [hl] at hJ
            exact onL2 _ m₁ h3 tk3 _ (h2 _ i' j' (rangeKs_length _ _) hJ) F1 N1 (fun _ q => q) G1
        | false =>
          rw [hr] at h
          refine iv it2 _ h m news s _ _ F N G ?_
          intro v V h1 tk1 n1 hv F1 N1 s1 r1
          obtain ⟨xs, rfl, J, h0, h2, h3⟩ := onL_of hv
          obtain ⟨D', vs, nn, rfl, ia, hm⟩ := r1
          refine iter_invNL (fun i m nx => nx = n1 ∧ ∃ i' j', Good ((y, .i i') :: (z, .i j') :: rest0 (x :: (sto 30 body ++ bad ρ)) ρ) m n1 ∧ J (xs.take i) i' j') rfl hm ia F1 N1 ⟨rfl, i0, j0, G0 n1 s1, by simpa using h0⟩ ?_ ?_
          · rintro i v t m₁ nx h4 tk4 own hn _ hoff hm9 ⟨rfl, i', j', G1, hJ⟩ F2 N2
            have hs : xs.take (i + 1) = xs.take i ++ [v] := by simp [List.take_add_one, hn]
            have e : xs = xs.take i ++ v :: xs.drop (i + 1) := by
              have ht := List.take_append_drop (i + 1) xs
              rw [hs, List.append_assoc] at ht
              exact ht.symm
            rw [hs]
            refine wpAny_mono (turn J _ own m₁ h4 tk4 _ v i' j' t s1 (h2 _ _ v i' j' e hJ) G1 F2 N2) (fun f s₂ p => ?_) fun _ _ x => x
            have up : InvEndN g L (fun m' nx' => nx' = nx ∧ ∃ i9 j9, Good ((y, .i i9) :: (z, .i j9) :: rest0 (x :: (sto 30 body ++ bad ρ)) ρ) m' nx ∧ J (xs.take i ++ [v]) i9 j9) own (nx.map (·.1)) { s with heap := h4, toks := tk4 } s₂ →
                InvEndN g L (fun m' nx' => (D', listOf vs.toArray nn) ∈ nx' ∧ nx' = nx ∧ ∃ i9 j9, Good ((y, .i i9) :: (z, .i j9) :: rest0 (x :: (sto 30 body ++ bad ρ)) ρ) m' nx ∧ J (xs.take i ++ [v]) i9 j9) own (nx.map (·.1)) { s with heap := h4, toks := tk4 } s₂ := by
              rintro ⟨h', tk', m', news', nx', e', F', N', hn', ho', ha, hS⟩
              refine ⟨h', tk', m', news', nx', e', F', N', hn', ho', ha, ?_, hS⟩
              rw [hS.1]
              exact hm9
            cases f with
            | ret v => exact p
            | brk => exact p
            | next => exact up p
            | cont => exact up p
          · rintro m₁ nx h4 tk4 _ ⟨rfl, i', j', G1, hJ⟩ F2 N2
            rw [List.take_length] at hJ
            exact onL2 _ m₁ h4 tk4 _ (h3 i' j' hJ) F2 N2 s1 G1
end
abbrev Fun := List SV → (SV → Prop) → Prop
noncomputable def orc : List (Addr × Fun) → Orc
  | [], _, _, _ => False
  | (f, F) :: l, g, args, P => (match Nat.beq g f with | true => F args P | false => orc l g args P)
noncomputable def bodyO (o : Obj) : List Stmt := match o.data with
  | .func fd => (match fd.body with | .stmts b => b | _ => [])
  | _ => []
noncomputable def scopeO (o : Obj) : Scope := match o.data with
  | .func fd => fd.scope
  | _ => ⟨.function, [], false, false, []⟩
noncomputable def fnGood (K : Frag) (o : Obj) (ps : List Str) : Bool := match o with
  | ⟨_, _, .func fd, _⟩ => (match fd.body with
    | .stmts _ => codeIn K fd.code fd.qualname && (match fd.scope.kind with | .function => true | _ => false) && !fd.scope.isCoroutine && !fd.scope.isGenerator &&
      fd.scope.names.all (fun x => match x.2 with | .cell => false | _ => true) && ps.all (isLoc fd.scope) && Nat.beq fd.globals mainGlobals && fd.closure.isEmpty && Nat.beq fd.builtins builtinsNs && decide ps.Nodup
    | _ => false)
  | _ => false
noncomputable def fdO (o : Obj) : FuncData := match o.data with
  | .func fd => fd
  | _ => default
abbrev bindsAs (K : Frag) (o : Obj) (ps : List Str) (vs dv : List Value) : Prop := ∀ s : Shared, K.In s.heap → BindsTo s (fdO o) ⟨vs, []⟩ (ps.zip (vs ++ dv))
theorem simple_nil {news : Led} {v : SV} {V : Value} (h : simpleSV v = true) (r : Rep news v V) : Rep [] v V := simple_any h r
theorem simples_nil {news : Led} : ∀ {v : List SV} {V : List Value}, v.all simpleSV = true → Reps news v V → Reps [] v V
  | [], [], _, _ => trivial
  | v :: r, V :: R, h, ⟨a, b⟩ => by
    simp only [List.all_cons, Bool.and_eq_true] at h
    exact ⟨simple_nil h.1 a, simples_nil h.2 b⟩
theorem reps_app {news : Led} : ∀ {v v' : List SV} {V V' : List Value}, Reps news v V → Reps news v' V' → Reps news (v ++ v') (V ++ V')
  | [], _, [], _, _, h => h
  | _ :: _, _, _ :: _, _, ⟨a, b⟩, h => ⟨a, reps_app b h⟩
theorem good0 {news : Led} : ∀ {ps : List Str} {v : List SV} {V : List Value}, ps.Nodup → Reps news v V → Good (ps.zip v) (fun y => (ps.zip V).reverse.lookup y) news
  | [], _, _, _, _ => fun x v h => by simp at h
  | _ :: _, [], [], _, _ => fun x v h => by simp at h
  | q :: ps, v :: vs, V :: Vs, hn, ⟨a, b⟩ => by
    intro x u h
    rw [List.nodup_cons] at hn
    have ih := good0 hn.2 b x u
    rw [List.zip_cons_cons, List.lookup_cons] at h
    show ∃ W, ((q, V) :: ps.zip Vs).reverse.lookup x = some W ∧ Rep news u W
    rw [List.reverse_cons, List.lookup_append]
    by_cases e : x = q
    · subst e
      simp at h
      subst h
      have : (ps.zip Vs).reverse.lookup x = none := by
        rw [List.lookup_eq_none_iff]
        intro y hy
        simp only [List.mem_reverse] at hy
        have hm := (List.of_mem_zip hy).1
        have e2 : ¬ x = y.1 := fun e2 => hn.1 (e2 ▸ hm)
        simpa using e2
      exact ⟨V, by rw [this]; simp, a⟩
    · have eb : (x == q) = false := by simpa using e
      rw [eb] at h
      obtain ⟨W, h1, h2⟩ := ih h
      exact ⟨W, by rw [show (ps.zip Vs).reverse.lookup x = some W from h1]; rfl, h2⟩
section
variable {prog : Program} {w : World} {K : Frag} {p : Program} {loose : List Str} {mean : ExcName → Option Value} {mg mb : Str → Option Value} {O : Orc}
theorem CallOK.mono {f : Addr} {args : List SV} {P : SV → Prop} {d D : Nat} (h : CallOK prog w K p loose mean mg mb f args P d) (hd : d ≤ D) : CallOK prog w K p loose mean mg mb f args P D :=
  fun vs dp un gd cn cs a ccd cl outer A₀ base h₀ L m news s Q E r B F X N T k h1 h2 c => h vs dp un gd cn cs a ccd cl outer A₀ base h₀ L m news s Q E r B F X N T k (by omega) (by omega) c
theorem orc_nil {D : Nat} : OrcOK prog w K p loose mean mg mb (orc []) D := fun _ _ _ h => h.elim
theorem orc_cons {f : Addr} {F : Fun} {l : List (Addr × Fun)} {d D : Nat} (h : ∀ args P, F args P → CallOK prog w K p loose mean mg mb f args P d) (hd : d ≤ D) (r : OrcOK prog w K p loose mean mg mb (orc l) D) :
    OrcOK prog w K p loose mean mg mb (orc ((f, F) :: l)) D := by
  intro g args P hp
  unfold orc at hp
  split at hp
  · rename_i e
    have e := Nat.eq_of_beq_eq_true e
    subst e
    exact (h args P hp).mono hd
  · exact r g args P hp
theorem fn_ok {f : Addr} (o : Obj) (ps : List Str) (df : List SV) (dv : List Value) {D : Nat} {F : Fun} (ho : K.lookup f = some o) (hg : fnGood K o ps = true) (hdf : Reps [] df dv)
    (hO : OrcOK prog w K p loose mean mg mb O D) (h8 : 8 ≤ D)
    (hF : ∀ args P, F args P → args.all simpleSV = true ∧ (∀ vs, vs.length = args.length → bindsAs K o ps vs dv) ∧ ∃ v₀, P v₀ ∧ ws K (scopeO o) O (fun v => v = v₀) 60 false (bodyO o) (ps.zip (args ++ df)) (fun _ => False) (fun _ => False)) :
    ∀ args P, F args P → CallOK prog w K p loose mean mg mb f args P (D + 1) := by
  intro args P hp vs dp un gd cn cs a ccd cl outer A₀ base h₀ L m news s Q E r B F0 X N T hk hd hu c
  obtain ⟨hs, hb, v₀, hv₀, hw⟩ := hF args P hp
  obtain ⟨oc, od, dt, osl⟩ := o
  cases dt <;> try cases hg
  rename_i fd
  obtain ⟨name, qual, params, body, scope, globals, closure, dV, kV, doc, pm, an, cdv, ct, bi⟩ := fd
  cases body <;> try cases hg
  rename_i b
  unfold fnGood at hg
  simp only [Bool.and_eq_true, Bool.not_eq_true', decide_eq_true_eq] at hg
  obtain ⟨⟨⟨⟨⟨⟨⟨⟨⟨h1, h2⟩, h3⟩, h4⟩, h5⟩, h6⟩, h7⟩, h8'⟩, h9⟩, h10⟩ := hg
  have h7 := Nat.eq_of_beq_eq_true h7
  have h9 := Nat.eq_of_beq_eq_true h9
  have h8' : closure = [] := by simpa using h8'
  subst h7 h8' h9
  have hkind : scope.kind = .function := by
    split at h2
    · assumption
    · cases h2
  have hlen : vs.length = args.length := by
    have : ∀ {v : List SV} {V : List Value}, Reps news v V → V.length = v.length := by
      intro v
      induction v with
      | nil => intro V h; cases V with
        | nil => rfl
        | cons => exact h.elim
      | cons x r ih => intro V h; cases V with
        | nil => exact h.elim
        | cons y R => simp [ih h.2]
    exact this r
  have hb := hb vs hlen
  have hloc : ∀ y ∈ ps.zip (vs ++ dv), scope.names.lookup y.1 = some .local := fun y hy => isLoc_of (List.all_eq_true.mp h6 _ (List.of_mem_zip hy).1)
  refine wpAny_call ?_
  refine enter0 B F0 X N T rfl rfl hk ho h1 (by show dp < recursionLimit; omega) (hb s (X.keeps F0.keep)) hloc ?_ h3 h4 hkind ?_
  · intro g' L' h' hG' FG' F' N' B' X' T'
    have G : Good (ps.zip (args ++ df)) (fun y => (ps.zip (vs ++ dv)).reverse.lookup y) [] := good0 h10 (reps_app (simples_nil hs r) hdf)
    refine wpAny_mono (ws_ok (dp := dp + 1) (un := un + 3) (D := D) (gd := gd) (cn := qual) (cs := scope) (a := f) (ccd := cdv) (L := L') (outer := envX cn cs L a ccd cl :: outer) (O := O) (R := fun v => v = v₀) B' X' T' hkind (by omega) (by omega) h8 hO 60 false b _ _ _ hw _ [] _ _ F' N' G ?_ ?_ ?_) (fun _ _ x => x) fun _ _ x => x.elim
    · intro ρ' m' h'' tk'' n'' hf
      exact hf.elim
    · intro ρ' m' h'' tk'' n'' hf
      exact hf.elim
    · intro v V m' h'' tk'' n'' hv F'' N'' _ r''
      refine leaveK_ F'' N'' fun F9 N9 N0 => ?_
      refine c v V h'' tk'' (n'' ++ news) (hv ▸ hv₀) F9 (fun q hq => ?_) (fun q hq => List.mem_append_right _ hq) (r''.sub fun q hq => List.mem_append_left _ hq)
      rcases List.mem_append.mp hq with hq | hq
      · exact N9 q hq
      · exact N0 q hq
  · intro x hx hc
    have := List.all_eq_true.mp h5 x hx
    rw [hc] at this
    cases this
end
theorem len_cons {α : Type} {n : Nat} {l : List α} (h : l.length = n + 1) : ∃ a r, l = a :: r ∧ r.length = n := by
  cases l with
  | nil => cases h
  | cons a r => exact ⟨a, r, rfl, Nat.succ.inj h⟩
section
variable {K : Frag} {o : Obj} {ps : List Str} {dv vs : List Value}
theorem bind1 (h : ∀ a, bindsAs K o ps [a] dv) (vs : List Value) (e0 : vs.length = 1) : bindsAs K o ps vs dv := by
  obtain ⟨a, l1, rfl, e1⟩ := len_cons e0
  obtain rfl := List.eq_nil_of_length_eq_zero e1
  exact h a
theorem bind2 (h : ∀ a b, bindsAs K o ps [a, b] dv) (vs : List Value) (e0 : vs.length = 2) : bindsAs K o ps vs dv := by
  obtain ⟨a, l1, rfl, e1⟩ := len_cons e0
  obtain ⟨b, l2, rfl, e2⟩ := len_cons e1
  obtain rfl := List.eq_nil_of_length_eq_zero e2
  exact h a b
theorem bind3 (h : ∀ a b c, bindsAs K o ps [a, b, c] dv) (vs : List Value) (e0 : vs.length = 3) : bindsAs K o ps vs dv := by
  obtain ⟨a, l1, rfl, e1⟩ := len_cons e0
  obtain ⟨b, l2, rfl, e2⟩ := len_cons e1
  obtain ⟨c, l3, rfl, e3⟩ := len_cons e2
  obtain rfl := List.eq_nil_of_length_eq_zero e3
  exact h a b c
theorem bind4 (h : ∀ a b c d, bindsAs K o ps [a, b, c, d] dv) (vs : List Value) (e0 : vs.length = 4) : bindsAs K o ps vs dv := by
  obtain ⟨a, l1, rfl, e1⟩ := len_cons e0
  obtain ⟨b, l2, rfl, e2⟩ := len_cons e1
  obtain ⟨c, l3, rfl, e3⟩ := len_cons e2
  obtain ⟨d, l4, rfl, e4⟩ := len_cons e3
  obtain rfl := List.eq_nil_of_length_eq_zero e4
  exact h a b c d
theorem bind5 (h : ∀ a b c d f, bindsAs K o ps [a, b, c, d, f] dv) (vs : List Value) (e0 : vs.length = 5) : bindsAs K o ps vs dv := by
  obtain ⟨a, l1, rfl, e1⟩ := len_cons e0
  obtain ⟨b, l2, rfl, e2⟩ := len_cons e1
  obtain ⟨c, l3, rfl, e3⟩ := len_cons e2
  obtain ⟨d, l4, rfl, e4⟩ := len_cons e3
  obtain ⟨f, l5, rfl, e5⟩ := len_cons e4
  obtain rfl := List.eq_nil_of_length_eq_zero e5
  exact h a b c d f
theorem by_word {A : Prop} (B : Prop) (e : A = B) (h : B) : A := e ▸ h
theorem sv1 {a x : Int} (h : a = x) : SV.i a = .i x := h ▸ rfl
theorem svb {a x : Bool} (h : a = x) : SV.b a = .b x := h ▸ rfl
theorem sv2 {a b x y : Int} (h : a = x ∧ b = y) : SV.t [a, b] = .t [x, y] := by obtain ⟨rfl, rfl⟩ := h; rfl
theorem sv3 {a b c x y z : Int} (h : a = x ∧ b = y ∧ c = z) : SV.t [a, b, c] = .t [x, y, z] := by obtain ⟨rfl, rfl, rfl⟩ := h; rfl
theorem svl {a b : List Int} (h : a = b) : SV.l a = .l b := h ▸ rfl
theorem sv5 {a b c d e x y z u v : Int} (h : a = x ∧ b = y ∧ c = z ∧ d = u ∧ e = v) : SV.t [a, b, c, d, e] = .t [x, y, z, u, v] := by obtain ⟨rfl, rfl, rfl, rfl, rfl⟩ := h; rfl
end
noncomputable def In (k : Nat) (F : List Int → (SV → Prop) → Prop) : Fun := fun args P => match svInts args with
  | some l => (match Nat.beq l.length k with | true => F l P | false => False)
  | none => False
noncomputable def Is (z : Str) (G : Fun) : Fun := fun args P => match args.getLast? with
  | some (.s x) => x = z ∧ G args.dropLast P
  | _ => False
noncomputable def Ino (G : Fun) : Fun := fun args P => match args.getLast? with
  | some (.c .none) => G args.dropLast P
  | _ => False
theorem svInts_map : ∀ {args : List SV} {l : List Int}, svInts args = some l → args = l.map .i
  | [], l, h => by cases h; rfl
  | v :: r, l, h => by
    cases v <;> try cases h
    have h : ∀ o, svInts r = o → (match o with | some l' => some (_ :: l') | none => none) = some l := fun o q => by rw [← q]; exact h
    cases e : svInts r with
    | none => exact absurd (h _ e) (by simp)
    | some l' =>
      have h := h _ e
      cases h
      rw [svInts_map e]
      rfl
theorem In_of {k : Nat} {F : List Int → (SV → Prop) → Prop} {args : List SV} {P : SV → Prop} (h : In k F args P) : ∃ l, args = l.map .i ∧ l.length = k ∧ F l P := by
  unfold In at h
  split at h
  · rename_i l e
    split at h
    · rename_i e2
      exact ⟨l, svInts_map e, Nat.eq_of_beq_eq_true e2, h⟩
    · exact h.elim
  · exact h.elim
theorem Is_of {z : Str} {G : Fun} {args : List SV} {P : SV → Prop} (h : Is z G args P) : ∃ l, args = l ++ [.s z] ∧ G l P := by
  unfold Is at h
  split at h
  · rename_i x e
    obtain ⟨rfl, h⟩ := h
    obtain ⟨ys, rfl⟩ := List.getLast?_eq_some_iff.mp e
    exact ⟨ys, rfl, by simpa using h⟩
  · exact h.elim
theorem Ino_of {G : Fun} {args : List SV} {P : SV → Prop} (h : Ino G args P) : ∃ l, args = l ++ [.c .none] ∧ G l P := by
  unfold Ino at h
  split at h
  · rename_i e
    obtain ⟨ys, rfl⟩ := List.getLast?_eq_some_iff.mp e
    exact ⟨ys, rfl, by simpa using h⟩
  · exact h.elim
noncomputable def I1 (F : Int → (SV → Prop) → Prop) : Fun := In 1 fun l => F (l.getD 0 0)
noncomputable def I2 (F : Int → Int → (SV → Prop) → Prop) : Fun := In 2 fun l => F (l.getD 0 0) (l.getD 1 0)
noncomputable def I3 (F : Int → Int → Int → (SV → Prop) → Prop) : Fun := In 3 fun l => F (l.getD 0 0) (l.getD 1 0) (l.getD 2 0)
noncomputable def I4 (F : Int → Int → Int → Int → (SV → Prop) → Prop) : Fun := In 4 fun l => F (l.getD 0 0) (l.getD 1 0) (l.getD 2 0) (l.getD 3 0)
noncomputable def I5 (F : Int → Int → Int → Int → Int → (SV → Prop) → Prop) : Fun := In 5 fun l => F (l.getD 0 0) (l.getD 1 0) (l.getD 2 0) (l.getD 3 0) (l.getD 4 0)
noncomputable def Ib (F : Bool → (SV → Prop) → Prop) : Fun := fun args P => match args with
  | [v] => onB v fun b => F b P
  | _ => False
noncomputable def I1n (F : Int → (SV → Prop) → Prop) : Fun := Ino (I1 F)
noncomputable def I3n (F : Int → Int → Int → (SV → Prop) → Prop) : Fun := Ino (I3 F)
noncomputable def I1s (z : Str) (F : Int → (SV → Prop) → Prop) : Fun := Is z (I1 F)
noncomputable def I3s (z : Str) (F : Int → Int → Int → (SV → Prop) → Prop) : Fun := Is z (I3 F)
section
variable {args : List SV} {P : SV → Prop} {z : Str}
theorem I1_of {F : Int → (SV → Prop) → Prop} (h : I1 F args P) : ∃ a, args = [.i a] ∧ F a P := by
  obtain ⟨l0, rfl, q0, h9⟩ := In_of h
  obtain ⟨a, l1, rfl, q1⟩ := len_cons q0
  obtain rfl := List.eq_nil_of_length_eq_zero q1
  exact ⟨a, rfl, h9⟩
theorem I2_of {F : Int → Int → (SV → Prop) → Prop} (h : I2 F args P) : ∃ a b, args = [.i a, .i b] ∧ F a b P := by
  obtain ⟨l0, rfl, q0, h9⟩ := In_of h
  obtain ⟨a, l1, rfl, q1⟩ := len_cons q0
  obtain ⟨b, l2, rfl, q2⟩ := len_cons q1
  obtain rfl := List.eq_nil_of_length_eq_zero q2
  exact ⟨a, b, rfl, h9⟩
theorem I3_of {F : Int → Int → Int → (SV → Prop) → Prop} (h : I3 F args P) : ∃ a b c, args = [.i a, .i b, .i c] ∧ F a b c P := by
  obtain ⟨l0, rfl, q0, h9⟩ := In_of h
  obtain ⟨a, l1, rfl, q1⟩ := len_cons q0
  obtain ⟨b, l2, rfl, q2⟩ := len_cons q1
  obtain ⟨c, l3, rfl, q3⟩ := len_cons q2
  obtain rfl := List.eq_nil_of_length_eq_zero q3
  exact ⟨a, b, c, rfl, h9⟩
theorem I4_of {F : Int → Int → Int → Int → (SV → Prop) → Prop} (h : I4 F args P) : ∃ a b c d, args = [.i a, .i b, .i c, .i d] ∧ F a b c d P := by
  obtain ⟨l0, rfl, q0, h9⟩ := In_of h
  obtain ⟨a, l1, rfl, q1⟩ := len_cons q0
  obtain ⟨b, l2, rfl, q2⟩ := len_cons q1
  obtain ⟨c, l3, rfl, q3⟩ := len_cons q2
  obtain ⟨d, l4, rfl, q4⟩ := len_cons q3
  obtain rfl := List.eq_nil_of_length_eq_zero q4
  exact ⟨a, b, c, d, rfl, h9⟩
theorem I5_of {F : Int → Int → Int → Int → Int → (SV → Prop) → Prop} (h : I5 F args P) : ∃ a b c d e, args = [.i a, .i b, .i c, .i d, .i e] ∧ F a b c d e P := by
  obtain ⟨l0, rfl, q0, h9⟩ := In_of h
  obtain ⟨a, l1, rfl, q1⟩ := len_cons q0
  obtain ⟨b, l2, rfl, q2⟩ := len_cons q1
  obtain ⟨c, l3, rfl, q3⟩ := len_cons q2
  obtain ⟨d, l4, rfl, q4⟩ := len_cons q3
  obtain ⟨e, l5, rfl, q5⟩ := len_cons q4
  obtain rfl := List.eq_nil_of_length_eq_zero q5
  exact ⟨a, b, c, d, e, rfl, h9⟩
theorem Ib_of {F : Bool → (SV → Prop) → Prop} (h : Ib F args P) : ∃ b, args = [.b b] ∧ F b P := by
  cases args with
  | nil => exact h.elim
  | cons v r => cases r with
    | cons => exact h.elim
    | nil =>
      obtain ⟨b, rfl, h⟩ := onB_of h
      exact ⟨b, rfl, h⟩
theorem I1n_of {F : Int → (SV → Prop) → Prop} (h : I1n F args P) : ∃ a, args = [.i a, .c .none] ∧ F a P := by
  obtain ⟨l, rfl, h1⟩ := Ino_of h
  obtain ⟨a, rfl, h2⟩ := I1_of h1
  exact ⟨_, rfl, h2⟩
theorem I3n_of {F : Int → Int → Int → (SV → Prop) → Prop} (h : I3n F args P) : ∃ a b c, args = [.i a, .i b, .i c, .c .none] ∧ F a b c P := by
  obtain ⟨l, rfl, h1⟩ := Ino_of h
  obtain ⟨a, b, c, rfl, h2⟩ := I3_of h1
  exact ⟨_, _, _, rfl, h2⟩
theorem I1s_of {F : Int → (SV → Prop) → Prop} (h : I1s z F args P) : ∃ a, args = [.i a, .s z] ∧ F a P := by
  obtain ⟨l, rfl, h1⟩ := Is_of h
  obtain ⟨a, rfl, h2⟩ := I1_of h1
  exact ⟨_, rfl, h2⟩
theorem I3s_of {F : Int → Int → Int → (SV → Prop) → Prop} (h : I3s z F args P) : ∃ a b c, args = [.i a, .i b, .i c, .s z] ∧ F a b c P := by
  obtain ⟨l, rfl, h1⟩ := Is_of h
  obtain ⟨a, b, c, rfl, h2⟩ := I3_of h1
  exact ⟨_, _, _, rfl, h2⟩
end
section
variable {prog : Program} {w : World} {K : Frag} {p : Program} {loose : List Str} {mean : ExcName → Option Value} {mg mb : Str → Option Value} {f : Addr} {d : Nat}
/-- between the walker's contracts and the evaluator's -/
theorem ok_ret1I {args : List SV} {x : Int} {P : SV → Prop} (hv : P (.i x)) (h : ∀ vs news, Reps news args vs → Ctr prog w K p loose mean mg mb f vs d (Ret1 fun t => .int x t)) : CallOK prog w K p loose mean mg mb f args P d :=
  fun vs _ _ _ _ _ _ _ _ _ _ _ _ _ _ news _ _ _ r B F X N T hk hd hu c => h vs news r _ _ _ _ _ _ _ _ _ _ _ _ _ _ _ _ _ _ B F X N T hk hd hu
    fun t h' tk' F' N' => c _ _ h' tk' news hv F' N' (fun _ q => q) ⟨t, rfl⟩
theorem ok_ret1B {args : List SV} {x : Bool} {P : SV → Prop} (hv : P (.b x)) (h : ∀ vs news, Reps news args vs → Ctr prog w K p loose mean mg mb f vs d (Ret1 fun _ => .bool x)) : CallOK prog w K p loose mean mg mb f args P d :=
  fun vs _ _ _ _ _ _ _ _ _ _ _ _ _ _ news _ _ _ r B F X N T hk hd hu c => h vs news r _ _ _ _ _ _ _ _ _ _ _ _ _ _ _ _ _ _ B F X N T hk hd hu
    fun _ h' tk' F' N' => c _ _ h' tk' news hv F' N' (fun _ q => q) rfl
theorem ok_ret3 {args : List SV} {x y z : Int} {P : SV → Prop} (hv : P (.t [x, y, z])) (h : ∀ vs news, Reps news args vs → Ctr prog w K p loose mean mg mb f vs d (Ret3 x y z)) : CallOK prog w K p loose mean mg mb f args P d :=
  fun vs _ _ _ _ _ _ _ _ _ _ _ _ _ _ news _ _ _ r B F X N T hk hd hu c => h vs news r _ _ _ _ _ _ _ _ _ _ _ _ _ _ _ _ _ _ B F X N T hk hd hu
    fun _ _ _ _ _ h' tk' F' N' => c _ _ h' tk' _ hv F' N' (fun _ q => .tail _ q) ⟨_, _, _, rfl, .cons _ _ (.cons _ _ (.cons _ _ .nil)), .head _⟩
theorem ok_ret5 {args : List SV} {x y z u v : Int} {P : SV → Prop} (hv : P (.t [x, y, z, u, v])) (h : ∀ vs news, Reps news args vs → Ctr prog w K p loose mean mg mb f vs d (Ret5 x y z u v)) : CallOK prog w K p loose mean mg mb f args P d :=
  fun vs _ _ _ _ _ _ _ _ _ _ _ _ _ _ news _ _ _ r B F X N T hk hd hu c => h vs news r _ _ _ _ _ _ _ _ _ _ _ _ _ _ _ _ _ _ B F X N T hk hd hu
    fun _ _ _ _ _ _ _ h' tk' F' N' => c _ _ h' tk' _ hv F' N' (fun _ q => .tail _ q) ⟨_, _, _, rfl, .cons _ _ (.cons _ _ (.cons _ _ (.cons _ _ (.cons _ _ .nil)))), .head _⟩
theorem ctr_1I {args : List SV} {vs : List Value} {x : Int} (h : CallOK prog w K p loose mean mg mb f args (fun v => v = .i x) d) (r : ∀ news, Reps news args vs) : Ctr prog w K p loose mean mg mb f vs d (Ret1 fun t => .int x t) :=
  fun _ _ _ _ _ _ _ _ _ _ _ _ _ _ news _ _ _ B F X N T hk hd hu c => h vs _ _ _ _ _ _ _ _ _ _ _ _ _ _ news _ _ _ (r news) B F X N T hk hd hu
    fun v V h' tk' n' hv F' N' sub r' => by subst hv; obtain ⟨t, rfl⟩ := r'; exact c t h' tk' F' fun q hq => N' q (sub q hq)
theorem ctr_1B {args : List SV} {vs : List Value} {x : Bool} (h : CallOK prog w K p loose mean mg mb f args (fun v => v = .b x) d) (r : ∀ news, Reps news args vs) : Ctr prog w K p loose mean mg mb f vs d (Ret1 fun _ => .bool x) :=
  fun _ _ _ _ _ _ _ _ _ _ _ _ _ _ news _ _ _ B F X N T hk hd hu c => h vs _ _ _ _ _ _ _ _ _ _ _ _ _ _ news _ _ _ (r news) B F X N T hk hd hu
    fun v V h' tk' n' hv F' N' sub r' => by subst hv; cases r'; exact c 0 h' tk' F' fun q hq => N' q (sub q hq)
theorem news_cons {h₀ : Heap} {L : Addr} {h' : Heap} {n' news : Led} {q0 : Addr × Obj} (N' : News h₀ L h' n') (sub : ∀ q ∈ news, q ∈ n') (hm : q0 ∈ n') : News h₀ L h' (q0 :: news) := fun q hq => by
  rcases List.mem_cons.mp hq with rfl | hq
  · exact N' _ hm
  · exact N' q (sub q hq)
theorem ctr_3 {args : List SV} {vs : List Value} {x y z : Int} (h : CallOK prog w K p loose mean mg mb f args (fun v => v = .t [x, y, z]) d) (r : ∀ news, Reps news args vs) : Ctr prog w K p loose mean mg mb f vs d (Ret3 x y z) :=
  fun _ _ _ _ _ _ _ _ _ _ _ _ _ _ news _ _ _ B F X N T hk hd hu c => h vs _ _ _ _ _ _ _ _ _ _ _ _ _ _ news _ _ _ (r news) B F X N T hk hd hu
    fun v V h' tk' n' hv F' N' sub r' => by
      subst hv
      obtain ⟨D, ws, k, rfl, ia, hm⟩ := r'
      cases ia with | cons _ t1 ia => cases ia with | cons _ t2 ia => cases ia with | cons _ t3 ia => cases ia with | nil => exact c D t1 t2 t3 k h' tk' F' (news_cons N' sub hm)
theorem ctr_5 {args : List SV} {vs : List Value} {x y z u v : Int} (h : CallOK prog w K p loose mean mg mb f args (fun a => a = .t [x, y, z, u, v]) d) (r : ∀ news, Reps news args vs) : Ctr prog w K p loose mean mg mb f vs d (Ret5 x y z u v) :=
  fun _ _ _ _ _ _ _ _ _ _ _ _ _ _ news _ _ _ B F X N T hk hd hu c => h vs _ _ _ _ _ _ _ _ _ _ _ _ _ _ news _ _ _ (r news) B F X N T hk hd hu
    fun v V h' tk' n' hv F' N' sub r' => by
      subst hv
      obtain ⟨D, ws, k, rfl, ia, hm⟩ := r'
      cases ia with | cons _ t1 ia => cases ia with | cons _ t2 ia => cases ia with | cons _ t3 ia => cases ia with | cons _ t4 ia => cases ia with | cons _ t5 ia => cases ia with | nil => exact c D t1 t2 t3 t4 t5 k h' tk' F' (news_cons N' sub hm)
theorem r_i1 {n : Int} {t : Tok} (news : Led) : Reps news [.i n] [.int n t] := ⟨⟨t, rfl⟩, trivial⟩
theorem r_i2 {n m : Int} {t u : Tok} (news : Led) : Reps news [.i n, .i m] [.int n t, .int m u] := ⟨⟨t, rfl⟩, ⟨u, rfl⟩, trivial⟩
theorem r_i3 {n m k : Int} {t u v : Tok} (news : Led) : Reps news [.i n, .i m, .i k] [.int n t, .int m u, .int k v] := ⟨⟨t, rfl⟩, ⟨u, rfl⟩, ⟨v, rfl⟩, trivial⟩
theorem r_i4 {n m k l : Int} {t u v x : Tok} (news : Led) : Reps news [.i n, .i m, .i k, .i l] [.int n t, .int m u, .int k v, .int l x] := ⟨⟨t, rfl⟩, ⟨u, rfl⟩, ⟨v, rfl⟩, ⟨x, rfl⟩, trivial⟩
theorem r_i5 {n m k l j : Int} {t u v x y : Tok} (news : Led) : Reps news [.i n, .i m, .i k, .i l, .i j] [.int n t, .int m u, .int k v, .int l x, .int j y] := ⟨⟨t, rfl⟩, ⟨u, rfl⟩, ⟨v, rfl⟩, ⟨x, rfl⟩, ⟨y, rfl⟩, trivial⟩
theorem mo_intro {r0 : Int} {T R : (List Int → Int → Int → Prop) → Prop} (h0 : 0 ≤ r0) (h : T (MO r0) ∧ R (MO r0)) : ∃ J : List Int → Int → Int → Prop, J [] r0 1 ∧ T J ∧ R J := ⟨MO r0, MO_start h0, h⟩
theorem u_intro {r0 : Int} {T R : (List Int → Int → Int → Prop) → Prop} (h0 : 0 ≤ r0) (h : T (U r0) ∧ R (U r0)) : ∃ J : List Int → Int → Int → Prop, J [] r0 1 ∧ T J ∧ R J := ⟨U r0, U_start h0, h⟩
theorem orl {X : Prop} (h : X) : X ∨ False := .inl h
theorem orr {X : Prop} (h : X) : False ∨ X := .inr h
theorem nbt {l : List Int} (h : (!(l == l)) = true) : False := by simp at h
theorem nbf {l : List Int} (h : (l == l) = false) : False := by simp at h
theorem nbi {x : Int} (h : (x != x) = true) : False := by simp at h
theorem nif {x : Int} (h : (x == x) = false) : False := by simp at h
end
def KOK (w : World) (F : Fun) (f : Addr) (d : Nat) : Prop := ∀ {prog : Program} {p : Program} {loose : List Str} {mean : ExcName → Option Value} {mg mb : Str → Option Value} (args : List SV) (P : SV → Prop), F args P → CallOK prog w (heapK w.params) p loose mean mg mb f args P d
def OOK (w : World) (l : List (Addr × Fun)) (D : Nat) : Prop := ∀ {prog : Program} {p : Program} {loose : List Str} {mean : ExcName → Option Value} {mg mb : Str → Option Value}, OrcOK prog w (heapK w.params) p loose mean mg mb (orc l) D
theorem ook_nil {w : World} {D : Nat} : OOK w [] D := orc_nil
theorem ook_cons {w : World} {f : Addr} {F : Fun} {l : List (Addr × Fun)} {d D : Nat} (h : KOK w F f d) (r : OOK w l D) (hd : Nat.ble d D = true := by rfl) : OOK w ((f, F) :: l) D := fun {_ _ _ _ _ _} => orc_cons h (Nat.le_of_ble_eq_true hd) r
/-- the word of a def's body -/
abbrev WS (w : World) (o : Obj) (l : List (Addr × Fun)) (ρ : Rho) (v : SV) : Prop := ws (heapK w.params) (scopeO o) (orc l) (fun u => u = v) 60 false (bodyO o) ρ (fun _ => False) (fun _ => False)
abbrev FnGood (w : World) (f : Addr) (o : Obj) (ps : List Str) (D : Nat) : Prop := ((heapK w.params).lookup f = some o) ∧ fnGood (heapK w.params) o ps = true ∧ Nat.ble 8 D = true
theorem fnW {w : World} {f : Addr} {o : Obj} {ps : List Str} {df : List SV} {dv : List Value} {l : List (Addr × Fun)} {D : Nat} {F : Fun} (hg : FnGood w f o ps D) (hdf : Reps [] df dv)
    (hO : OOK w l D) (hF : ∀ args P, F args P → args.all simpleSV = true ∧ (∀ vs, vs.length = args.length → bindsAs (heapK w.params) o ps vs dv) ∧ ∃ v₀, P v₀ ∧ WS w o l (ps.zip (args ++ df)) v₀) : KOK w F f (D + 1) :=
  fun {_ _ _ _ _ _} => fn_ok o ps df dv hg.1 hg.2.1 hdf hO (Nat.le_of_ble_eq_true hg.2.2) hF
theorem fnI1 {w : World} {f : Addr} {o : Obj} {ps : List Str} {df : List SV} {dv : List Value} {l : List (Addr × Fun)} {D : Nat} {G : Int → (SV → Prop) → Prop} (hg : FnGood w f o ps D) (hdf : Reps [] df dv)
    (hb : ∀ a, bindsAs (heapK w.params) o ps [a] dv) (hO : OOK w l D) (hF : ∀ a P, G a P → ∃ v₀, P v₀ ∧ WS w o l (ps.zip ([.i a] ++ df)) v₀) : KOK w (I1 G) f (D + 1) :=
  fnW hg hdf hO fun args P h => by
    obtain ⟨a, rfl, h9⟩ := I1_of h
    exact ⟨rfl, bind1 hb, hF a P h9⟩
theorem fnI2 {w : World} {f : Addr} {o : Obj} {ps : List Str} {df : List SV} {dv : List Value} {l : List (Addr × Fun)} {D : Nat} {G : Int → Int → (SV → Prop) → Prop} (hg : FnGood w f o ps D) (hdf : Reps [] df dv)
    (hb : ∀ a b, bindsAs (heapK w.params) o ps [a, b] dv) (hO : OOK w l D) (hF : ∀ a b P, G a b P → ∃ v₀, P v₀ ∧ WS w o l (ps.zip ([.i a, .i b] ++ df)) v₀) : KOK w (I2 G) f (D + 1) :=
  fnW hg hdf hO fun args P h => by
    obtain ⟨a, b, rfl, h9⟩ := I2_of h
    exact ⟨rfl, bind2 hb, hF a b P h9⟩
theorem fnI3 {w : World} {f : Addr} {o : Obj} {ps : List Str} {df : List SV} {dv : List Value} {l : List (Addr × Fun)} {D : Nat} {G : Int → Int → Int → (SV → Prop) → Prop} (hg : FnGood w f o ps D) (hdf : Reps [] df dv)
    (hb : ∀ a b c, bindsAs (heapK w.params) o ps [a, b, c] dv) (hO : OOK w l D) (hF : ∀ a b c P, G a b c P → ∃ v₀, P v₀ ∧ WS w o l (ps.zip ([.i a, .i b, .i c] ++ df)) v₀) : KOK w (I3 G) f (D + 1) :=
  fnW hg hdf hO fun args P h => by
    obtain ⟨a, b, c, rfl, h9⟩ := I3_of h
    exact ⟨rfl, bind3 hb, hF a b c P h9⟩
theorem fnI4 {w : World} {f : Addr} {o : Obj} {ps : List Str} {df : List SV} {dv : List Value} {l : List (Addr × Fun)} {D : Nat} {G : Int → Int → Int → Int → (SV → Prop) → Prop} (hg : FnGood w f o ps D) (hdf : Reps [] df dv)
    (hb : ∀ a b c d, bindsAs (heapK w.params) o ps [a, b, c, d] dv) (hO : OOK w l D) (hF : ∀ a b c d P, G a b c d P → ∃ v₀, P v₀ ∧ WS w o l (ps.zip ([.i a, .i b, .i c, .i d] ++ df)) v₀) : KOK w (I4 G) f (D + 1) :=
  fnW hg hdf hO fun args P h => by
    obtain ⟨a, b, c, d, rfl, h9⟩ := I4_of h
    exact ⟨rfl, bind4 hb, hF a b c d P h9⟩
theorem fnI5 {w : World} {f : Addr} {o : Obj} {ps : List Str} {df : List SV} {dv : List Value} {l : List (Addr × Fun)} {D : Nat} {G : Int → Int → Int → Int → Int → (SV → Prop) → Prop} (hg : FnGood w f o ps D) (hdf : Reps [] df dv)
    (hb : ∀ a b c d e, bindsAs (heapK w.params) o ps [a, b, c, d, e] dv) (hO : OOK w l D) (hF : ∀ a b c d e P, G a b c d e P → ∃ v₀, P v₀ ∧ WS w o l (ps.zip ([.i a, .i b, .i c, .i d, .i e] ++ df)) v₀) : KOK w (I5 G) f (D + 1) :=
  fnW hg hdf hO fun args P h => by
    obtain ⟨a, b, c, d, e, rfl, h9⟩ := I5_of h
    exact ⟨rfl, bind5 hb, hF a b c d e P h9⟩
theorem fnI1n {w : World} {f : Addr} {o : Obj} {ps : List Str} {df : List SV} {dv : List Value} {l : List (Addr × Fun)} {D : Nat} {G : Int → (SV → Prop) → Prop} (hg : FnGood w f o ps D) (hdf : Reps [] df dv)
    (hb : ∀ a b, bindsAs (heapK w.params) o ps [a, b] dv) (hO : OOK w l D) (hF : ∀ a P, G a P → ∃ v₀, P v₀ ∧ WS w o l (ps.zip ([.i a, .c .none] ++ df)) v₀) : KOK w (I1n G) f (D + 1) :=
  fnW hg hdf hO fun args P h => by
    obtain ⟨a, rfl, h9⟩ := I1n_of h
    exact ⟨rfl, bind2 hb, hF a P h9⟩
theorem fnI1s {w : World} {f : Addr} {o : Obj} {ps : List Str} {df : List SV} {dv : List Value} {l : List (Addr × Fun)} {D : Nat} {z : Str} {G : Int → (SV → Prop) → Prop} (hg : FnGood w f o ps D) (hdf : Reps [] df dv)
    (hb : ∀ a b, bindsAs (heapK w.params) o ps [a, b] dv) (hO : OOK w l D) (hF : ∀ a P, G a P → ∃ v₀, P v₀ ∧ WS w o l (ps.zip ([.i a, .s z] ++ df)) v₀) : KOK w (I1s z G) f (D + 1) :=
  fnW hg hdf hO fun args P h => by
    obtain ⟨a, rfl, h9⟩ := I1s_of h
    exact ⟨rfl, bind2 hb, hF a P h9⟩
theorem fnI3n {w : World} {f : Addr} {o : Obj} {ps : List Str} {df : List SV} {dv : List Value} {l : List (Addr × Fun)} {D : Nat} {G : Int → Int → Int → (SV → Prop) → Prop} (hg : FnGood w f o ps D) (hdf : Reps [] df dv)
    (hb : ∀ a b c d, bindsAs (heapK w.params) o ps [a, b, c, d] dv) (hO : OOK w l D) (hF : ∀ a b c P, G a b c P → ∃ v₀, P v₀ ∧ WS w o l (ps.zip ([.i a, .i b, .i c, .c .none] ++ df)) v₀) : KOK w (I3n G) f (D + 1) :=
  fnW hg hdf hO fun args P h => by
    obtain ⟨a, b, c, rfl, h9⟩ := I3n_of h
    exact ⟨rfl, bind4 hb, hF a b c P h9⟩
theorem fnI3s {w : World} {f : Addr} {o : Obj} {ps : List Str} {df : List SV} {dv : List Value} {l : List (Addr × Fun)} {D : Nat} {z : Str} {G : Int → Int → Int → (SV → Prop) → Prop} (hg : FnGood w f o ps D) (hdf : Reps [] df dv)
    (hb : ∀ a b c d, bindsAs (heapK w.params) o ps [a, b, c, d] dv) (hO : OOK w l D) (hF : ∀ a b c P, G a b c P → ∃ v₀, P v₀ ∧ WS w o l (ps.zip ([.i a, .i b, .i c, .s z] ++ df)) v₀) : KOK w (I3s z G) f (D + 1) :=
  fnW hg hdf hO fun args P h => by
    obtain ⟨a, b, c, rfl, h9⟩ := I3s_of h
    exact ⟨rfl, bind4 hb, hF a b c P h9⟩
theorem fnIb {w : World} {f : Addr} {o : Obj} {ps : List Str} {df : List SV} {dv : List Value} {l : List (Addr × Fun)} {D : Nat} {G : Bool → (SV → Prop) → Prop} (hg : FnGood w f o ps D) (hdf : Reps [] df dv)
    (hb : ∀ a, bindsAs (heapK w.params) o ps [a] dv) (hO : OOK w l D) (hF : ∀ a P, G a P → ∃ v₀, P v₀ ∧ WS w o l (ps.zip ([.b a] ++ df)) v₀) : KOK w (Ib G) f (D + 1) :=
  fnW hg hdf hO fun args P h => by
    obtain ⟨a, rfl, h9⟩ := Ib_of h
    exact ⟨rfl, bind1 hb, hF a P h9⟩
theorem pl1 {v : Int → SV} {W : Int → SV → Prop} (h : ∀ a, W a (v a)) : ∀ a (P : SV → Prop), P (v a) → ∃ v₀, P v₀ ∧ W a v₀ := fun a _ q => ⟨_, q, h a⟩
theorem pp1 {R : Int → Prop} {v : Int → SV} {W : Int → SV → Prop} (h : ∀ a, R a → W a (v a)) : ∀ a (P : SV → Prop), R a ∧ P (v a) → ∃ v₀, P v₀ ∧ W a v₀ := fun a _ q => ⟨_, q.2, h a q.1⟩
theorem at1 {A : Int → Int} {v : Int → SV} {W : Int → SV → Prop} (h : ∀ n, W (A n) (v n)) : ∀ a (P : SV → Prop), (∃ n : Int, (a = A n) ∧ P (v n)) → ∃ v₀, P v₀ ∧ W a v₀ := by
  rintro a P ⟨n, rfl, q⟩
  exact ⟨_, q, h n⟩
theorem ap1 {R : Int → Prop} {A : Int → Int} {v : Int → SV} {W : Int → SV → Prop} (h : ∀ n, R n → W (A n) (v n)) : ∀ a (P : SV → Prop), (∃ n : Int, (a = A n) ∧ R n ∧ P (v n)) → ∃ v₀, P v₀ ∧ W a v₀ := by
  rintro a P ⟨n, rfl, r, q⟩
  exact ⟨_, q, h n r⟩
theorem pl2 {v : Int → Int → SV} {W : Int → Int → SV → Prop} (h : ∀ a b, W a b (v a b)) : ∀ a b (P : SV → Prop), P (v a b) → ∃ v₀, P v₀ ∧ W a b v₀ := fun a b _ q => ⟨_, q, h a b⟩
theorem pp2 {R : Int → Int → Prop} {v : Int → Int → SV} {W : Int → Int → SV → Prop} (h : ∀ a b, R a b → W a b (v a b)) : ∀ a b (P : SV → Prop), R a b ∧ P (v a b) → ∃ v₀, P v₀ ∧ W a b v₀ := fun a b _ q => ⟨_, q.2, h a b q.1⟩
theorem at2 {A B : Int → Int} {v : Int → SV} {W : Int → Int → SV → Prop} (h : ∀ n, W (A n) (B n) (v n)) : ∀ a b (P : SV → Prop), (∃ n : Int, (a = A n ∧ b = B n) ∧ P (v n)) → ∃ v₀, P v₀ ∧ W a b v₀ := by
  rintro a b P ⟨n, ⟨rfl, rfl⟩, q⟩
  exact ⟨_, q, h n⟩
theorem ap2 {R : Int → Prop} {A B : Int → Int} {v : Int → SV} {W : Int → Int → SV → Prop} (h : ∀ n, R n → W (A n) (B n) (v n)) : ∀ a b (P : SV → Prop), (∃ n : Int, (a = A n ∧ b = B n) ∧ R n ∧ P (v n)) → ∃ v₀, P v₀ ∧ W a b v₀ := by
  rintro a b P ⟨n, ⟨rfl, rfl⟩, r, q⟩
  exact ⟨_, q, h n r⟩
theorem pl3 {v : Int → Int → Int → SV} {W : Int → Int → Int → SV → Prop} (h : ∀ a b c, W a b c (v a b c)) : ∀ a b c (P : SV → Prop), P (v a b c) → ∃ v₀, P v₀ ∧ W a b c v₀ := fun a b c _ q => ⟨_, q, h a b c⟩
theorem pp3 {R : Int → Int → Int → Prop} {v : Int → Int → Int → SV} {W : Int → Int → Int → SV → Prop} (h : ∀ a b c, R a b c → W a b c (v a b c)) : ∀ a b c (P : SV → Prop), R a b c ∧ P (v a b c) → ∃ v₀, P v₀ ∧ W a b c v₀ := fun a b c _ q => ⟨_, q.2, h a b c q.1⟩
theorem at3 {A B C : Int → Int} {v : Int → SV} {W : Int → Int → Int → SV → Prop} (h : ∀ n, W (A n) (B n) (C n) (v n)) : ∀ a b c (P : SV → Prop), (∃ n : Int, (a = A n ∧ b = B n ∧ c = C n) ∧ P (v n)) → ∃ v₀, P v₀ ∧ W a b c v₀ := by
  rintro a b c P ⟨n, ⟨rfl, rfl, rfl⟩, q⟩
  exact ⟨_, q, h n⟩
theorem ap3 {R : Int → Prop} {A B C : Int → Int} {v : Int → SV} {W : Int → Int → Int → SV → Prop} (h : ∀ n, R n → W (A n) (B n) (C n) (v n)) : ∀ a b c (P : SV → Prop), (∃ n : Int, (a = A n ∧ b = B n ∧ c = C n) ∧ R n ∧ P (v n)) → ∃ v₀, P v₀ ∧ W a b c v₀ := by
  rintro a b c P ⟨n, ⟨rfl, rfl, rfl⟩, r, q⟩
  exact ⟨_, q, h n r⟩
theorem pl4 {v : Int → Int → Int → Int → SV} {W : Int → Int → Int → Int → SV → Prop} (h : ∀ a b c d, W a b c d (v a b c d)) : ∀ a b c d (P : SV → Prop), P (v a b c d) → ∃ v₀, P v₀ ∧ W a b c d v₀ := fun a b c d _ q => ⟨_, q, h a b c d⟩
theorem pp4 {R : Int → Int → Int → Int → Prop} {v : Int → Int → Int → Int → SV} {W : Int → Int → Int → Int → SV → Prop} (h : ∀ a b c d, R a b c d → W a b c d (v a b c d)) : ∀ a b c d (P : SV → Prop), R a b c d ∧ P (v a b c d) → ∃ v₀, P v₀ ∧ W a b c d v₀ := fun a b c d _ q => ⟨_, q.2, h a b c d q.1⟩
theorem at4 {A B C D : Int → Int} {v : Int → SV} {W : Int → Int → Int → Int → SV → Prop} (h : ∀ n, W (A n) (B n) (C n) (D n) (v n)) : ∀ a b c d (P : SV → Prop), (∃ n : Int, (a = A n ∧ b = B n ∧ c = C n ∧ d = D n) ∧ P (v n)) → ∃ v₀, P v₀ ∧ W a b c d v₀ := by
  rintro a b c d P ⟨n, ⟨rfl, rfl, rfl, rfl⟩, q⟩
  exact ⟨_, q, h n⟩
theorem ap4 {R : Int → Prop} {A B C D : Int → Int} {v : Int → SV} {W : Int → Int → Int → Int → SV → Prop} (h : ∀ n, R n → W (A n) (B n) (C n) (D n) (v n)) : ∀ a b c d (P : SV → Prop), (∃ n : Int, (a = A n ∧ b = B n ∧ c = C n ∧ d = D n) ∧ R n ∧ P (v n)) → ∃ v₀, P v₀ ∧ W a b c d v₀ := by
  rintro a b c d P ⟨n, ⟨rfl, rfl, rfl, rfl⟩, r, q⟩
  exact ⟨_, q, h n r⟩
theorem pl5 {v : Int → Int → Int → Int → Int → SV} {W : Int → Int → Int → Int → Int → SV → Prop} (h : ∀ a b c d e, W a b c d e (v a b c d e)) : ∀ a b c d e (P : SV → Prop), P (v a b c d e) → ∃ v₀, P v₀ ∧ W a b c d e v₀ := fun a b c d e _ q => ⟨_, q, h a b c d e⟩
theorem pp5 {R : Int → Int → Int → Int → Int → Prop} {v : Int → Int → Int → Int → Int → SV} {W : Int → Int → Int → Int → Int → SV → Prop} (h : ∀ a b c d e, R a b c d e → W a b c d e (v a b c d e)) : ∀ a b c d e (P : SV → Prop), R a b c d e ∧ P (v a b c d e) → ∃ v₀, P v₀ ∧ W a b c d e v₀ := fun a b c d e _ q => ⟨_, q.2, h a b c d e q.1⟩
theorem at5 {A B C D E : Int → Int} {v : Int → SV} {W : Int → Int → Int → Int → Int → SV → Prop} (h : ∀ n, W (A n) (B n) (C n) (D n) (E n) (v n)) : ∀ a b c d e (P : SV → Prop), (∃ n : Int, (a = A n ∧ b = B n ∧ c = C n ∧ d = D n ∧ e = E n) ∧ P (v n)) → ∃ v₀, P v₀ ∧ W a b c d e v₀ := by
  rintro a b c d e P ⟨n, ⟨rfl, rfl, rfl, rfl, rfl⟩, q⟩
  exact ⟨_, q, h n⟩
theorem ap5 {R : Int → Prop} {A B C D E : Int → Int} {v : Int → SV} {W : Int → Int → Int → Int → Int → SV → Prop} (h : ∀ n, R n → W (A n) (B n) (C n) (D n) (E n) (v n)) : ∀ a b c d e (P : SV → Prop), (∃ n : Int, (a = A n ∧ b = B n ∧ c = C n ∧ d = D n ∧ e = E n) ∧ R n ∧ P (v n)) → ∃ v₀, P v₀ ∧ W a b c d e v₀ := by
  rintro a b c d e P ⟨n, ⟨rfl, rfl, rfl, rfl, rfl⟩, r, q⟩
  exact ⟨_, q, h n r⟩
theorem plb {v : Bool → SV} {W : Bool → SV → Prop} (h : ∀ a, W a (v a)) : ∀ a (P : SV → Prop), P (v a) → ∃ v₀, P v₀ ∧ W a v₀ := fun a _ q => ⟨_, q, h a⟩
theorem pl2l {k : Int} {R : Int → Prop} {v : Int → SV} {W : Int → Int → SV → Prop} (h : ∀ a, R a → W a k (v a)) : ∀ a b (P : SV → Prop), b = k ∧ R a ∧ P (v a) → ∃ v₀, P v₀ ∧ W a b v₀ := by
  rintro a b P ⟨rfl, r, q⟩
  exact ⟨_, q, h a r⟩
theorem ctrS_of {prog : Program} {w : World} {K : Frag} {p : Program} {loose : List Str} {mean : ExcName → Option Value} {mg mb : Str → Option Value} {f : Addr} {d : Nat} {vs : List Value} {Ret : Heap → Addr → (Str → Option Value) → Led → Shared → (Value → Shared → Prop) → Prop} (h : Ctr prog w K p loose mean mg mb f vs d Ret) : CtrS prog w K p loose mean mg mb f vs d Ret :=
  fun dp un gd cn cs a ccd A₀ base h₀ L m news s Q E B F X N T _ _ hk hd hu c => h dp un gd cn cs a ccd [] [] A₀ base h₀ L m news s Q E B F X N T hk hd hu c
theorem entry_unchain : entryFor table "proto.unchain" = some Builtin.«proto.unchain» := entryFor_of_fast (by kernel_rfl)
set_option maxRecDepth 100000 in
set_option maxHeartbeats 2000000 in
/-- «raise ValueError(..) from e» in the clause that holds e -/
theorem raise_from {prog : Program} {w : World} {A : Around} {E : Value → Shared → Prop} {s : Shared} {env : Env} {x c : Sem Value} {e : Addr} {Q : Flow → Shared → Prop} (hh : A.handled = some (.ref e))
    (h : wpAny (model prog w) A x (fun v s₁ => ∃ (e2 t : Addr) (oe : Obj) (a0 : Value) (T : Addr), v = .ref e2 ∧ s₁.heap.get? e2 = some { cls := .type "ValueError", data := .fields #[.ref t, .none, .none, .none, .bool false, .none] } ∧ e2 ≠ e ∧
      s₁.heap.get? e = some oe ∧ oe.cls = .type "AssertionError" ∧ oe.data = .fields #[a0, .ref T, .none, .none, .bool false, .none] ∧
      wpAny (model prog w) A c (fun cv s₂ => cv = .ref e ∧ s₂ = s₁ ∧
        ∀ h', (∀ b, b ≠ e2 → h'.get? b = s₁.heap.get? b) → h'.get? e2 = some { cls := .type "ValueError", data := .fields #[.ref t, .none, .ref e, .ref e, .bool true, .none] } → E (.ref e2) { s₁ with heap := h' }) E s₁) E s) :
    wpAny (model prog w) A (raiseStmt env (some x) (some c)) Q E s := by
  unfold raiseStmt
  refine wpAny_bind (wpAny_mono h (fun v s₁ h₁ => ?_) fun _ _ x => x)
  obtain ⟨e2, t, ⟨ocls, odd, odata, osl⟩, a0, T, rfl, he2, hne, he, hc1, hd1, hk⟩ := h₁
  simp only at hc1 hd1
  subst hc1 hd1
  refine wpAny_bind (wpAny_holding (wpAny_mono hk (fun cv s₂ h₂ => ?_) fun _ _ x => x))
  obtain ⟨rfl, e9, hE⟩ := h₂
  subst e9
  obtain ⟨hp, g, d, tk, os⟩ := s₂
  have hsub := (PySem.F.excRaise_ValueError).isExc
  have hmeta := (PySem.F.excRaise_ValueError).plainMeta
  have hsubA : isSubtype (.type "AssertionError") (.type "BaseException") = pure true := PySem.F.isExc_AssertionError
  repeat (first | refine wpAny_loadPart he2 ?_ | refine wpAny_loadPart he ?_ | wp_step)
  unfold raiseNew
  refine wpAny_bind (wpAny_handled ?_)
  rw [hh]
  dsimp only
  have hb : (Value.ref e != Value.ref e2) = true := by simp [Ne.symm hne]
  rw [if_pos hb]
  have he2' : hp.get? e2 = some { cls := .type "ValueError", data := .fields #[.ref t, .none, .none, .none, .bool false, .none] } := he2
  have he' : hp.get? e = some { cls := .type "AssertionError", dict := odd, data := .fields #[a0, .ref T, .none, .none, .bool false, .none], slots := osl } := he
  have u1 : (hp.update e2 (Obj.mapFields fun x => x.setIfInBounds 3 (Value.ref e))).get? e2 = some { cls := .type "ValueError", data := .fields #[.ref t, .none, .none, .ref e, .bool false, .none] } := Heap.get?_update_self _ he2' rfl
  have u2 : ((hp.update e2 (Obj.mapFields fun x => x.setIfInBounds 3 (Value.ref e))).update e2 (Obj.mapFields fun x => x.setIfInBounds 4 (Value.bool true))).get? e2 = some { cls := .type "ValueError", data := .fields #[.ref t, .none, .none, .ref e, .bool true, .none] } := Heap.get?_update_self _ u1 rfl
  have u3 : ((hp.update e2 (Obj.mapFields fun x => x.setIfInBounds 3 (Value.ref e))).update e2 (Obj.mapFields fun x => x.setIfInBounds 4 (Value.bool true))).get? e = some { cls := .type "AssertionError", dict := odd, data := .fields #[a0, .ref T, .none, .none, .bool false, .none], slots := osl } := by
    rw [Heap.get?_update_other _ _ hne, Heap.get?_update_other _ _ hne]; exact he'
  have o2 : ∀ b, b ≠ e2 → ((hp.update e2 (Obj.mapFields fun x => x.setIfInBounds 3 (Value.ref e))).update e2 (Obj.mapFields fun x => x.setIfInBounds 4 (Value.bool true))).get? b = hp.get? b := fun b hb => by
    rw [Heap.get?_update_other _ _ (Ne.symm hb), Heap.get?_update_other _ _ (Ne.symm hb)]
  revert u2 u3 o2
  generalize (hp.update e2 (Obj.mapFields fun x => x.setIfInBounds 3 (Value.ref e))).update e2 (Obj.mapFields fun x => x.setIfInBounds 4 (Value.bool true)) = H
  intro u2 u3 o2
  refine wpAny_bind (wpAny_holding (wpAny_runValue (codeAny_builtin entry_unchain ?_)))
  unfold Builtin.«proto.unchain»
  dsimp only
  refine wpAny_bind (wpAny_field (x := Value.none) u3 rfl rfl ?_)
  rw [if_pos (show (Value.none == Value.none) = true from by decide)]
  refine wpAny_bind (wpAny_pure ?_)
  refine wpAny_pure ?_
  dsimp only
  have fin : ∀ h', h' = H.update e2 (Obj.mapFields fun x => x.setIfInBounds 2 (Value.ref e)) → E (Value.ref e2) { heap := h', gens := g, drawn := d, toks := tk, os := os } := fun h' q => by
    subst q
    exact hE _ (fun b hb => (Heap.get?_update_other _ _ (Ne.symm hb)).trans (o2 b hb)) (Heap.get?_update_self _ u2 rfl)
  unfold updateField
  refine wpAny_bind (wpAny_bind (wpAny_load u2 ?_))
  dsimp only
  rw [if_pos (show 2 < (#[Value.ref t, Value.none, Value.none, Value.ref e, Value.bool true, Value.none] : Array Value).size from by simp)]
  refine wpAny_update u2 ?_
  exact wpAny_throw (fin _ rfl)
/-- the record of an exception that was noted once, in no other one's chain -/
def EX (B h : Heap) (e : Addr) (cls : Value) : Prop :=
  ∃ (oe : Obj) (a0 : Value) (T : Addr) (oT : Obj) (ts : Array Value), h.get? e = some oe ∧ oe.cls = cls ∧ oe.data = .fields #[a0, .ref T, .none, .none, .bool false, .none] ∧ B.get? T = none ∧ T ≠ e ∧ h.get? T = some oT ∧ oT.data = .fields ts ∧ 3 < ts.size
section
variable {M : Model} {A : Around} {E : Value → Shared → Prop} {s : Shared} {B : Heap} {env : Env} {outer : List Env} {L e : Addr} {oe : Obj} {a0 : Value} {cls : Value} {Q : Unit → Shared → Prop}
theorem note_first (hfr : A.frames = some (env :: outer)) (hl : s.heap.FunFrames B (env :: outer)) (hf : env.frame = some L) (he : s.heap.get? e = some oe) (hkb : B.StaysIn s.heap) (hen : B.get? e = none)
    (hd : oe.data = .fields #[a0, .none, .none, .none, .bool false, .none])
    (h : ∀ h', B.StaysIn h' → h'.FunFrames B (env :: outer) → EX B h' e oe.cls → (∀ b o, s.heap.get? b = some o → (∀ vs, o.data ≠ .fields vs) → ∃ sl, h'.get? b = some { o with slots := sl }) → Q () { s with heap := h' }) :
    wpAny M A (noteFrame (.ref e) env) Q E s := by
  have hene : e ∉ (env :: outer).filterMap (·.frame) := fun hm => by
    obtain ⟨_, o, ho, hnf⟩ := hl.mem hm
    rw [he] at ho; injection ho with ho; subst ho; exact hnf _ hd
  unfold noteFrame
  simp only [hf]
  refine wpAny_bind (wpAny_field (x := Value.none) he hd rfl ?_)
  rw [if_neg (by decide)]
  refine wpAny_bind (wpAny_frameOf_fun hfr hl hf fun h₁ hs₁ => ?_)
  refine wpAny_bind (wpAny_entryPlaceOf fun pl hpl => ?_)
  unfold EntryCells.newEntry newFields
  refine wpAny_bind (wpAny_newObj_type ?_ (hpl.sizeOk5 _ _ _ _ _))
  have he₁ : h₁.get? e = some oe := (hs₁.2.1 e hene).trans he
  have kb₁ : B.StaysIn h₁ := fun b o hbo => (hs₁.2.1 b fun hm => by rw [(hl.mem hm).1] at hbo; cases hbo).trans (hkb b o hbo)
  have hTe : h₁.objs.size ≠ e := Nat.ne_of_gt (Heap.lt_size he₁)
  refine wpAny_setField (Heap.get?_push_of_some _ he₁) hd (by simp) (h _ (fun b o hbo => ?_) (hl.of_keeps fun b o hb hnf => ?_) ?_ fun b o hb hnf => ?_)
  · have hbe : b ≠ e := fun q => by rw [q, hen] at hbo; cases hbo
    rw [Heap.get?_update_other _ _ (Ne.symm hbe)]
    exact Heap.get?_push_of_some _ (kb₁ b o hbo)
  · have hbe : b ≠ e := fun q => by rw [q, he] at hb; injection hb with hb; subst hb; exact hnf _ hd
    obtain ⟨sl, hs⟩ := hs₁.2.2 b o hb
    refine ⟨{ o with slots := sl }, ?_, rfl⟩
    rw [Heap.get?_update_other _ _ (Ne.symm hbe)]
    exact Heap.get?_push_of_some _ hs
  · refine ⟨_, a0, h₁.objs.size, _, _, Heap.get?_update_self _ (Heap.get?_push_of_some _ he₁) (Obj.isFreed_of_fields (Obj.data_mapFields hd _)), Obj.cls_mapFields _ _, Obj.data_mapFields hd _, ?_, hTe, by rw [Heap.get?_update_other _ _ (Ne.symm hTe)]; exact Heap.get?_push_size h₁ rfl, rfl, ?_⟩
    · exact kb₁.fresh
    · simp
  · have hbe : b ≠ e := fun q => by rw [q, he] at hb; injection hb with hb; subst hb; exact hnf _ hd
    obtain ⟨sl, hs⟩ := hs₁.2.2 b o hb
    refine ⟨sl, ?_⟩
    rw [Heap.get?_update_other _ _ (Ne.symm hbe)]
    exact Heap.get?_push_of_some _ hs
theorem flight_none {l : List Env} (hkb : B.StaysIn s.heap) (hl : s.heap.FunFrames B l) (hx : EX B s.heap e cls)
    (h : ∀ h', B.StaysIn h' → h'.FunFrames B l → EX B h' e cls → (∀ b o, s.heap.get? b = some o → (∀ vs, o.data ≠ .fields vs) → h'.get? b = some o) → Q () { s with heap := h' }) :
    wpAny M A (setFlight (.ref e) none) Q E s := by
  obtain ⟨oe, a0, T, oT, ts, he, hc, hd, hnT, hTe, hT, hdT, hsz⟩ := hx
  have other : ∀ b, b ≠ T → (s.heap.update T (Obj.mapFields (·.setIfInBounds 3 ((none : Option Addr).elim Value.none fun f => rawInt f)))).get? b = s.heap.get? b :=
    fun b hb => Heap.get?_update_other _ _ (Ne.symm hb)
  have noRecord : ∀ b o, s.heap.get? b = some o → (∀ vs, o.data ≠ .fields vs) → b ≠ T := fun b o hb hnf q => by
    rw [q, hT] at hb; injection hb with hb; subst hb; exact hnf ts hdT
  unfold setFlight
  refine wpAny_bind (wpAny_field (x := Value.ref T) he hd rfl ?_)
  rw [if_pos (show (Value.ref T != Value.none) = true from by simp)]
  refine wpAny_setField hT hdT hsz (h _ (fun b o hbo => (other b fun q => by rw [q, hnT] at hbo; cases hbo).trans (hkb b o hbo))
    (hl.of_keeps fun b o hb hnf => ⟨o, (other b (noRecord b o hb hnf)).trans hb, rfl⟩) ?_ fun b o hb hnf => (other b (noRecord b o hb hnf)).trans hb)
  exact ⟨oe, a0, T, _, _, (other e (Ne.symm hTe)).trans he, hc, hd, hnT, hTe, Heap.get?_update_self _ hT (Obj.isFreed_of_fields (Obj.data_mapFields hdT _)), Obj.data_mapFields hdT _, by simpa using hsz⟩
end
theorem funs_same {B h h' : Heap} {L : Addr} {m m' : Str → Option Value} (hn : h'.Ns L m') (hs : Heap.SameBut L h h') : ∀ {l : List Env}, h.FunFrames B l → h'.FunFrames B l
  | [], _ => trivial
  | env :: r, ⟨hk, ⟨L', o, hf, hb, ho, hd⟩, hr⟩ => by
    refine ⟨hk, ?_, funs_same (m := m) hn hs hr⟩
    by_cases q : L' = L
    · subst q
      obtain ⟨o', es, ep, ho', hd', _⟩ := hn
      exact ⟨L', o', hf, hb, ho', fun vs e => by rw [hd'] at e; cases e⟩
    · exact ⟨L', o, hf, hb, (hs.2 L' q).trans ho, hd⟩
theorem fields_ne {h : Heap} {L b : Addr} {m : Str → Option Value} {o : Obj} {vs : Array Value} (hn : h.Ns L m) (hb : h.get? b = some o) (hd : o.data = .fields vs) : b ≠ L := fun q => by
  obtain ⟨o', es, ep, ho', hd', _⟩ := hn
  rw [q, ho'] at hb
  injection hb with hb
  rw [hb, hd] at hd'
  cases hd'
theorem EX.same {B h h' : Heap} {L e : Addr} {cls : Value} {m : Str → Option Value} (x : EX B h e cls) (hn : h.Ns L m) (hs : Heap.SameBut L h h') : EX B h' e cls := by
  obtain ⟨oe, a0, T, oT, ts, he, hc, hd, hnT, hTe, hT, hdT, hsz⟩ := x
  exact ⟨oe, a0, T, oT, ts, (hs.2 e (fields_ne hn he hd)).trans he, hc, hd, hnT, hTe, (hs.2 T (fields_ne hn hT hdT)).trans hT, hdT, hsz⟩
theorem EX.keeps {B h h' : Heap} {e : Addr} {cls : Value} (x : EX B h e cls) (k : ∀ b o, h.get? b = some o → h'.get? b = some o) : EX B h' e cls := by
  obtain ⟨oe, a0, T, oT, ts, he, hc, hd, hnT, hTe, hT, hdT, hsz⟩ := x
  exact ⟨oe, a0, T, oT, ts, k _ _ he, hc, hd, hnT, hTe, k _ _ hT, hdT, hsz⟩
theorem traced_same {B h h' : Heap} {L e : Addr} {cls a0 fl : Value} {m : Str → Option Value} (x : h.TracedAtW B e cls a0 fl) (hn : h.Ns L m) (hs : Heap.SameBut L h h') : h'.TracedAtW B e cls a0 fl := by
  obtain ⟨oe, vs, T, oT, ts, he, hc, hd, h1, hnT, hTe, hT, hdT, h3⟩ := x
  exact ⟨oe, vs, T, oT, ts, (hs.2 e (fields_ne hn he hd)).trans he, hc, hd, h1, hnT, hTe, (hs.2 T (fields_ne hn hT hdT)).trans hT, hdT, h3⟩
section
variable {M : Model} {A : Around} {E : Value → Shared → Prop} {s : Shared} {B : Heap} {env : Env} {outer : List Env} {L e : Addr} {oe : Obj} {a0 cls fl : Value} {Q : Unit → Shared → Prop}
theorem note_firstW {vs : Array Value} (hfr : A.frames = some (env :: outer)) (hl : s.heap.FunFrames B (env :: outer)) (hf : env.frame = some L) (he : s.heap.get? e = some oe) (hkb : B.StaysIn s.heap) (hen : B.get? e = none)
    (hd : oe.data = .fields vs) (h1 : vs[1]? = some .none) (h0 : vs[0]? = some a0) (h : ∀ h', Heap.NotedW B (env :: outer) e oe.cls a0 (rawInt L) s.heap h' → Q () { s with heap := h' }) :
    wpAny M A (noteFrame (.ref e) env) Q E s := by
  unfold noteFrame
  simp only [hf]
  refine wpAny_bind (wpAny_field he hd h1 ?_)
  rw [if_neg (by decide)]
  exact wpAny_entryW hfr hl hf he hkb hen hd (Array.getElem?_eq_some_iff.mp h1).1 h0 h
theorem setFlight_again {l : List Env} (R : Heap.HeldW B l e cls a0 L s.heap)
    (h : ∀ h', Heap.HeldW B l e cls a0 L h' → (∀ b o, s.heap.get? b = some o → (∀ vs, o.data ≠ .fields vs) → h'.get? b = some o) → Q () { s with heap := h' }) : wpAny M A (setFlight (.ref e) (some L)) Q E s := by
  obtain ⟨hkb, hen, hl, oe, vs, T, oT, ts, he, hcls, hd, h1, hnT, hTe, hT, hdT, h3⟩ := R
  have hsz3 : 3 < ts.size := (Array.getElem?_eq_some_iff.mp h3).1
  have other : ∀ b, b ≠ T → (s.heap.update T (Obj.mapFields (·.setIfInBounds 3 ((some L).elim Value.none fun f => rawInt f)))).get? b = s.heap.get? b :=
    fun b hb => Heap.get?_update_other _ _ (Ne.symm hb)
  have noRecord : ∀ b o, s.heap.get? b = some o → (∀ vs, o.data ≠ .fields vs) → b ≠ T := fun b o hb hnf q => by
    rw [q, hT] at hb; injection hb with hb; subst hb; exact hnf ts hdT
  unfold setFlight
  refine wpAny_bind (wpAny_field he hd h1 ?_)
  rw [if_pos (show (Value.ref T != Value.none) = true from by simp)]
  refine wpAny_setField hT hdT hsz3 (h _ ⟨fun b o hbo => (other b fun q => by rw [q, hnT] at hbo; cases hbo).trans (hkb b o hbo), hen,
    hl.of_keeps fun b o hb hnf => ⟨o, (other b (noRecord b o hb hnf)).trans hb, rfl⟩, ?_⟩ fun b o hb hnf => (other b (noRecord b o hb hnf)).trans hb)
  exact ⟨oe, vs, T, _, _, (other e (Ne.symm hTe)).trans he, hcls, hd, h1, hnT, hTe, Heap.get?_update_self _ hT (Obj.isFreed_of_fields (Obj.data_mapFields hdT _)), Obj.data_mapFields hdT _, by simp [hsz3]⟩
end
section
variable {prog : Program} {w : World} {A₀ : Around} {E : Value → Shared → Prop} {s : Shared} {base g h : Heap} {outer : List Env} {L a e : Addr} {m : Str → Option Value} {name : Str} {scope : Scope} {cd : Value}
  {n : Str} {np np2 np3 cp cpos rpos pos : Pos} {ck : Nat} {msg : Str} {Q : Flow → Shared → Prop} {news : List (Addr × Obj)} {KF : Frag}
  {p : Program} {loose : List Str} {mean : ExcName → Option Value} {mg mb : Str → Option Value}
set_option maxHeartbeats 2000000 in
theorem pos_clause (K : Below A₀ base outer g) (hx : Heap.NewExc h s.heap e "AssertionError") (F : Fr g L h m) (N : News g L h news) (XB : KF.In base) (TB : Top p loose mean mg mb base)
    (hk : scope.kind = .function)
    (ex1 : nsIn KF mainGlobals (Str.ofString "AssertionError") = some none) (ex2 : nsIn KF mainGlobals (Str.ofString "ValueError") = some none)
    (hloc : (envOf name scope L a cd).kindOf n = some .local) (hx1 : (envOf name scope L a cd).kindOf (Str.ofString "AssertionError") = some .globalImplicit) (hx2 : (envOf name scope L a cd).kindOf (Str.ofString "ValueError") = some .globalImplicit)
    (hnd : (n == Str.ofString "__debug__") = false)
    (k : ∀ G m' h' e2 t tk tkm, RaisedH base G (envOf name scope L a cd :: outer) L e2 (.type "ValueError") t [.str msg tkm] news h' → Fr g L G m' → G.UpToSlots h' → E (.ref e2) { s with heap := h', toks := tk }) :
    wpAny (model prog w) (A₀.deeper (envOf name scope L a cd)) (noteFrame (.ref e) (envOf name scope L a cd)) (fun _ s₂ => wpAny (model prog w) (A₀.deeper (envOf name scope L a cd)) (setFlight (.ref e) none) (fun _ s₃ =>
      wpAny (model prog w) (A₀.deeper (envOf name scope L a cd)) (handleBy (.ref e) (envOf name scope L a cd) [.ExceptHandler (some (.Name (Str.ofString "AssertionError") np)) (some n)
        [.Raise (some (.Call (.Name (Str.ofString "ValueError") np2) [.Constant (.str msg) ck cp] [] cpos)) (some (.Name n np3)) rpos] pos]) Q E s₃) E s₂) E s := by
  have K' := K.push (name := name) (a := a) (cd := cd) F hk
  have hin : ∀ env ∈ (envOf name scope L a cd :: outer), ∀ b, env.frame = some b → b ∈ (envOf name scope L a cd :: outer).filterMap (·.frame) := fun env he b hb => List.mem_filterMap.mpr ⟨env, he, hb⟩
  have hLm : L ∈ (envOf name scope L a cd :: outer).filterMap (·.frame) := hin _ (.head _) L rfl
  generalize hfs : (envOf name scope L a cd :: outer).filterMap (·.frame) = fs at hin hLm
  obtain ⟨B, hB⟩ : ∃ B, B = hideAll h fs := ⟨_, rfl⟩
  have st : base.StaysIn B := fun b o q => by
    rw [hB]
    refine hideAll_get _ (K'.stays b o q) fun hm => ?_
    rw [← hfs] at hm
    rw [(K'.frames.mem hm).1] at q
    cases q
  have sg : ∀ b o, h.get? b = some o → b ∉ fs → B.get? b = some o := fun b o q nm => by
    rw [hB]
    exact hideAll_get _ q nm
  have ofB : ∀ b o, B.get? b = some o → h.get? b = some o := fun b o q => by
    rw [hB] at q
    exact of_hideAll _ q
  have hBL : B.get? L = none := by rw [hB]; exact hideAll_none _ hLm
  have nfr : ∀ q ∈ news, q.1 ∉ fs := fun q hq hm => by
    rw [← hfs] at hm
    obtain ⟨env, he, hf⟩ := List.mem_filterMap.mp hm
    rcases List.mem_cons.mp he with rfl | he
    · exact (N q hq).2.1 (Option.some.inj hf).symm
    · obtain ⟨o, ho, _⟩ := (K.frames.mem (List.mem_filterMap.mpr ⟨env, he, hf⟩)).2
      rw [(N q hq).2.2] at ho; cases ho
  obtain ⟨ob, tp, he, hcls, hd⟩ := hx.there
  have hen : B.get? e = none := by
    cases q : B.get? e with
    | none => rfl
    | some o => have := ofB _ _ q; rw [hx.new] at this; cases this
  have kb : B.StaysIn s.heap := fun b o q => hx.keeps b o (ofB b o q)
  have fl0 : h.FunFrames B (envOf name scope L a cd :: outer) := by
    rw [hB]; exact funFrames_hide K'.frames hin
  have fl1 : s.heap.FunFrames B (envOf name scope L a cd :: outer) := fl0.of_keeps fun b o hb _ => ⟨o, hx.keeps b o hb, rfl⟩
  have hfrm := Around.frames_deeper (env := envOf name scope L a cd) K.stack
  refine note_first hfrm fl1 rfl he kb hen hd fun h2 kb2 fl2 x2 up2 => ?_
  refine flight_none kb2 fl2 x2 fun h3 kb3 fl3 x3 up3 => ?_
  have u2 : h.UpToSlots h2 := (Heap.UpToSlots.of_keeps hx.keeps).trans up2
  have u3 : h.UpToSlots h3 := u2.trans fun b o hb hn => ⟨o.slots, up3 b o hb hn⟩
  obtain ⟨g5, T5, F5, K5⟩ := kts_ground (name := name) (scope := scope) (a := a) (cd := cd) (B := B) K F (fun b o q nm => sg b o q (by rw [← hfs]; exact nm)) kb3 u3
  have X5 : KF.In g5 := XB.keeps K5.stays
  have P5 : TopRead p loose mg mb g5 := topRead_of (TB.keeps K5.stays)
  have ty3 : ({ s with heap := h3 } : Shared).TypeIs (.ref e) "AssertionError" := by
    obtain ⟨oe, _, _, _, _, he3, hc3, _⟩ := x3
    exact ⟨oe, he3, hc3.trans hcls⟩
  refine wpAny_handleBy_builtin_as (X := "AssertionError") (T := "AssertionError") (b := true) PySem.F.isExc_AssertionError PySem.F.notTuple_AssertionError (by rw [isSubtype_type]; kernel_rfl!)
    (name_B F5 X5 P5 ex1 PyProof.Rows.Boot.«AssertionError» (by decide) ⟨rfl, ty3, ?_⟩ hk hx1 (by decide))
  rw [if_pos rfl]
  refine flight_none kb3 fl3 x3 fun h4 kb4 fl4 x4 up4 => ?_
  have u4 : h.UpToSlots h4 := u3.trans fun b o hb hn => ⟨o.slots, up4 b o hb hn⟩
  have ns4 : h4.Ns L m := u4.ns F.ns
  have hpn : ((envOf name scope L a cd).scope.kind == .class || ((envOf name scope L a cd).scope.kind == .module && (envOf name scope L a cd).locals != (envOf name scope L a cd).globals)) = false := by
    show (scope.kind == .class || (scope.kind == .module && L != mainGlobals)) = false
    rw [hk]; rfl
  refine wpAny_storeName_local hloc ns4 (fun h5 ns5 hs5 => ?_) hpn
  have ns5 : h5.Ns L (fun y => if y = n then some (.ref e) else m y) := ns5
  have hs5 : Heap.SameBut L h4 h5 := hs5
  have ne5 : ∀ b o, B.get? b = some o → b ≠ L := fun b o q e => by rw [e, hBL] at q; cases q
  have kb5 : B.StaysIn h5 := fun b o q => (hs5.2 b (ne5 b o q)).trans (kb4 b o q)
  have fl5 : h5.FunFrames B (envOf name scope L a cd :: outer) := funs_same (m := m) ns5 hs5 fl4
  have x5 := x4.same ns4 hs5
  refine wpAny_execs_cons ?_
  rw [arm_exec_Raise]
  refine wpAny_bind (wpAny_standAt (raise_from (e := e) rfl (wpAny_bind (wpAny_mono (Q := fun v s₁ => ∃ h6 tk e2, v = .ref e2 ∧ s₁ = { s with heap := h6, toks := tk } ∧ ∃ tkm, Heap.MadeExc h5 h6 e2 "ValueError" [.str msg tkm]) ?call (fun v s₁ hv => wpAny_bind (wpAny_standAt (wpAny_pure ?_))) fun _ _ x => x))))
  case call =>
    have FF : ∃ g', Fr g' L h5 (fun y => if y = n then some (.ref e) else m y) ∧ KF.In g' ∧ TopRead p loose mg mb g' := by
      obtain ⟨g6, T6, F6, K6⟩ := kts_ground (name := name) (scope := scope) (a := a) (cd := cd) (B := B) K F (fun b o q nm => sg b o q (by rw [← hfs]; exact nm)) kb4 u4
      exact ⟨g6, F6.set ns5 hs5, XB.keeps K6.stays, topRead_of (TB.keeps K6.stays)⟩
    obtain ⟨g6, F6, X6, P6⟩ := FF
    refine Call_ (name_B F6 X6 P6 ex2 PyProof.Rows.Boot.«ValueError» (by decide) ?_ hk hx2 (by decide))
    refine PySem.Pv.callWith_type1 (args_cons (Constant_str (args_nil ?_))) rfl rfl
    exact wpAny_call_exc PySem.F.excCall_ValueError fun h6 e2 hm => ⟨h6, _, e2, rfl, rfl, _, hm⟩
  obtain ⟨h6, tk, e2, rfl, rfl, tkm, hm⟩ := hv
  obtain ⟨t, he2, htn, ht⟩ := hm.there
  have x6 := x5.keeps hm.keeps
  obtain ⟨oe, a0, T, oT, ts, hee, hec, hed, hnT, hTe, hT, hdT, hsz⟩ := x6
  have hne : e2 ≠ e := fun q => by
    obtain ⟨_, _, _, _, _, he5, _⟩ := x5
    have := hm.new
    rw [q, he5] at this
    cases this
  refine ⟨e2, t, oe, a0, T, rfl, he2, hne, hee, hec.trans hcls, hed, ?_⟩
  have ns6 : h6.Ns L (fun y => if y = n then some (.ref e) else m y) := by
    obtain ⟨o, es, ep, ho, r⟩ := ns5
    exact ⟨o, es, ep, hm.keeps _ _ ho, r⟩
  refine wpAny_bind (wpAny_Name (wpAny_loadName_local hk hloc ns6 (v := .ref e) (by simp) (wpAny_bind (wpAny_standAt (wpAny_pure ⟨rfl, rfl, fun h7 o7 he7 => ?_⟩)))) hnd)
  have hB5 : ∀ b, h5.get? b = none → B.get? b = none := fun b q => by
    cases q2 : B.get? b with
    | none => rfl
    | some o => have := kb5 _ _ q2; rw [q] at this; cases this
  have hen2 : B.get? e2 = none := hB5 _ hm.new
  have htB : B.get? t = none := hB5 _ htn
  have hte : t ≠ e2 := fun q => by
    rw [q, he2] at ht
    injection ht with ht
    injection ht with h1 _ _ _
    injection h1 with h1
    exact absurd h1 (by decide)
  have kb7 : B.StaysIn h7 := fun b o q => (o7 b fun q2 => by rw [q2, hen2] at q; cases q).trans (hm.keeps _ _ (kb5 b o q))
  have fl7 : h7.FunFrames B (envOf name scope L a cd :: outer) := fl5.of_keeps fun b o hb hn => ⟨o, (o7 b fun q2 => by rw [q2, hm.new] at hb; cases hb).trans (hm.keeps _ _ hb), rfl⟩
  have hLe2 : L ≠ e2 := fun q => by
    obtain ⟨o, es, ep, ho, _⟩ := ns5
    rw [q, hm.new] at ho
    cases ho
  have ns7 : h7.Ns L (fun y => if y = n then some (.ref e) else m y) := by
    obtain ⟨o, es, ep, ho, r⟩ := ns6
    exact ⟨o, es, ep, (o7 L hLe2).trans ho, r⟩
  have tup7 : h7.TupAt t [.str msg tkm] := ⟨_, _, (o7 t hte).trans ht, rfl, rfl⟩
  refine note_firstW hfrm fl7 rfl he7 kb7 hen2 rfl rfl rfl fun h8 n8 => ?_
  obtain ⟨kb8, fl8, tr8, up8⟩ := n8
  have ns8 : h8.Ns L (fun y => if y = n then some (.ref e) else m y) := Heap.UpToSlots.ns up8 ns7
  have tup8 : h8.TupAt t [.str msg tkm] := tup7.of_slots up8
  refine wpAny_nameGoes hloc ns8 hpn fun h9 m9 ns9 hs9 => ?_
  have ns9 : h9.Ns L m9 := ns9
  have hs9 : Heap.SameBut L h8 h9 := hs9
  have kb9 : B.StaysIn h9 := fun b o q => (hs9.2 b (ne5 b o q)).trans (kb8 b o q)
  have fl9 : h9.FunFrames B (envOf name scope L a cd :: outer) := funs_same (m := m) ns9 hs9 fl8
  have tr9 := traced_same tr8 ns8 hs9
  have htL : t ≠ L := fun q => by
    obtain ⟨o, es, ep, ho, _⟩ := ns5
    rw [q, ho] at htn
    cases htn
  have tup9 : h9.TupAt t [.str msg tkm] := by
    obtain ⟨o, k0, ho, r⟩ := tup8
    exact ⟨o, k0, (hs9.2 t htL).trans ho, r⟩
  have H9 : Heap.HeldW B (envOf name scope L a cd :: outer) e2 (.type "ValueError") (.ref t) L h9 := ⟨kb9, hen2, fl9, tr9⟩
  have fin : ∀ h10 tk', Heap.HeldW B (envOf name scope L a cd :: outer) e2 (.type "ValueError") (.ref t) L h10 → (∀ b o, h9.get? b = some o → (∀ vs, o.data ≠ .fields vs) → h10.get? b = some o) → E (.ref e2) { s with heap := h10, toks := tk' } := by
    intro h10 tk' H10 u10
    obtain ⟨oL, es, ep, hoL, hdL, rL⟩ := ns9
    obtain ⟨o0, es0, ep0, ho0, hd0, r0⟩ := F.ns
    have nL : L ∉ news.map (·.1) := fun q => by
      obtain ⟨p, hp, e⟩ := List.mem_map.mp q
      exact (N p hp).2.1 e
    have free : ∀ es ep (o : Obj), o.data = .dict es ep → o.isFreed = false := fun es ep o hd => by
      obtain ⟨_, _, dt, _⟩ := o
      simp only at hd
      subst hd
      rfl
    have hGL : ((hideAll h (news.map (·.1))).update L fun _ => oL).get? L = some oL := Heap.get?_update_self _ (hideAll_get _ ho0 nL) (free _ _ _ hdL)
    have hGo : ∀ b, b ≠ L → ((hideAll h (news.map (·.1))).update L fun _ => oL).get? b = (hideAll h (news.map (·.1))).get? b := fun b hb => Heap.get?_update_other _ _ (Ne.symm hb)
    have gL : g.get? L = none := kts_self F
    generalize hG : (hideAll h (news.map (·.1))).update L (fun _ => oL) = G at hGL hGo
    have R : RaisedH base G (envOf name scope L a cd :: outer) L e2 (.type "ValueError") t [.str msg tkm] news h10 := by
      refine ⟨⟨B, st, fun b o q nm => ?_, fun q hq => ⟨sg _ _ (N q hq).1 (nfr q hq), ?_, fresh_of_stays K.stays (N q hq).2.2⟩, H10, htB⟩, ?_⟩
      · have hbL : b ≠ L := fun z => nm (by rw [z, hfs]; exact hLm)
        rw [hGo b hbL] at q
        exact sg b o (of_hideAll _ q) (by rw [← hfs]; exact nm)
      · rw [hGo q.1 (N q hq).2.1]
        exact hideAll_none _ (List.mem_map_of_mem hq)
      · obtain ⟨o, k0, ho, hc0, hd0⟩ := tup9
        exact ⟨o, k0, u10 _ _ ho (fun vs e => by rw [hd0] at e; cases e), hc0, hd0⟩
    have FG : Fr g L G m9 := by
      refine ⟨⟨oL, es, ep, hGL, hdL, rL⟩, fun b o q => ?_, F.above⟩
      have hbL : b ≠ L := fun z => by rw [z, gL] at q; cases q
      rw [hGo b hbL]
      refine hideAll_get _ (F.keep b o q) fun hm => ?_
      obtain ⟨p, hp, e⟩ := List.mem_map.mp hm
      rw [← e, (N p hp).2.2] at q
      cases q
    have UG : G.UpToSlots h10 := fun b o q hn => by
      by_cases hbL : b = L
      · subst hbL
        rw [hGL] at q
        cases q
        exact ⟨_, u10 _ _ hoL hn⟩
      · rw [hGo b hbL] at q
        have q := of_hideAll _ q
        obtain ⟨s4, q4⟩ := u4 b o q hn
        have q5 := (hs5.2 b hbL).trans q4
        have q6 := hm.keeps _ _ q5
        have hb2 : b ≠ e2 := fun z => by rw [z, hm.new] at q5; cases q5
        have q7 := (o7 b hb2).trans q6
        obtain ⟨s8, q8⟩ := up8 b _ q7 hn
        exact ⟨s8, u10 _ _ ((hs9.2 b hbL).trans q8) hn⟩
    exact k G m9 h10 e2 t tk' tkm R FG UG
  have fld : ∀ hh, Heap.HeldW B (envOf name scope L a cd :: outer) e2 (.type "ValueError") (.ref t) L hh → ∃ oe vs T, hh.get? e2 = some oe ∧ oe.data = .fields vs ∧ vs[1]? = some (.ref T) := fun hh H => by
    obtain ⟨_, _, _, oe, vs, T, _, _, he, _, hd, h1, _⟩ := H
    exact ⟨oe, vs, T, he, hd, h1⟩
  obtain ⟨o9, v9, T9, ho9, hd9, h19⟩ := fld _ H9
  unfold PySem.passOn
  refine wpAny_bind (wpAny_field ho9 hd9 h19 ?_)
  rw [if_neg (show ¬ ((Value.ref T9 == Value.none) = true) from by simp)]
  refine wpAny_bind (setFlight_again H9 fun h10 H10 u10 => wpAny_throw ?_)
  unfold notedBy
  refine wpAny_noteFrame_againW rfl H10.2.2.2 ?_
  unfold cameBackBy
  obtain ⟨o10, v10, T10, ho10, hd10, h110⟩ := fld _ H10
  refine wpAny_bind (wpAny_field ho10 hd10 h110 ?_)
  rw [if_neg (show ¬ ((Value.ref T10 == Value.none) = true) from by simp)]
  exact setFlight_again H10 fun h11 H11 u11 => fin h11 _ H11 fun b o hb hn => u11 _ _ (u10 _ _ hb hn) hn
end
/-- a call of a def that catches what a callee raises: the callers' frames are marked behind it -/
abbrev CtrR (prog : Program) (w : World) (K : Frag) (p : Program) (loose : List Str) (mean : ExcName → Option Value) (mg mb : Str → Option Value) (f : Addr) (vs : List Value) (dep : Nat) : Prop :=
  ∀ (dp un : Nat) (gd : Option (List Code)) (cn : Str) (cs : Scope) (a : Addr) (ccd : Value) (outer : List Env) (A₀ : Around) (base g₀ h₀ : Heap) (L : Addr) (m : Str → Option Value) (news : Led) (s : Shared) (Q E : Value → Shared → Prop),
    Below A₀ base outer h₀ → Fr h₀ L s.heap m → K.In h₀ → News h₀ L s.heap news → Top p loose mean mg mb h₀ → K.In base → Top p loose mean mg mb base → KtsDicts (outer.filterMap (·.frame)) h₀ → KtsTurn (outer.filterMap (·.frame)) g₀ h₀ → cs.kind = .function →
    dp + dep < recursionLimit → un + 8 * dep < cLine →
    (∀ h₁ h' tk', KtsTurn (outer.filterMap (·.frame)) g₀ h₁ → Fr h₁ L h' m → News h₁ L h' news → Below A₀ base outer h₁ → K.In h₁ → Top p loose mean mg mb h₁ → KtsDicts (outer.filterMap (·.frame)) h₁ → Q (.bool true) { s with heap := h', toks := tk' }) →
      wpAny (model prog w) (ktrTop dp un gd cn cs L a ccd [] outer) (call (.ref f) vs) Q E s
theorem useR {prog : Program} {w : World} {A₀ : Around} {s : Shared} {K : Frag} {L : Addr} {g₀ h₀ base : Heap} {m mg mb : Str → Option Value} {news : Led} {p : Program} {loose : List Str} {mean : ExcName → Option Value} {f : Addr} {vs : List Value} {dep : Nat} {dp un : Nat} {gd : Option (List Code)} {cn : Str} {cs : Scope} {a : Addr} {ccd : Value} {outer : List Env} {Q E : Value → Shared → Prop}
    (C : CtrR prog w K p loose mean mg mb f vs dep) (B : Below A₀ base outer h₀) (F : Fr h₀ L s.heap m) (X : K.In h₀) (N : News h₀ L s.heap news) (T : Top p loose mean mg mb h₀) (XB : K.In base) (TB : Top p loose mean mg mb base)
    (D : KtsDicts (outer.filterMap (·.frame)) h₀) (T0 : KtsTurn (outer.filterMap (·.frame)) g₀ h₀) (hk : cs.kind = .function) (hd : dp + dep < recursionLimit) (hu : un + 8 * dep < cLine)
    (h : ∀ h₁ h' tk', KtsTurn (outer.filterMap (·.frame)) g₀ h₁ → Fr h₁ L h' m → News h₁ L h' news → Below A₀ base outer h₁ → K.In h₁ → Top p loose mean mg mb h₁ → KtsDicts (outer.filterMap (·.frame)) h₁ → Q (.bool true) { s with heap := h', toks := tk' }) :
    wpAny (model prog w) (ktrTop dp un gd cn cs L a ccd [] outer) (call (.ref f) vs) Q E s := C _ _ _ _ _ _ _ _ _ _ _ _ _ _ _ _ _ _ B F X N T XB TB D T0 hk hd hu h
noncomputable def O21 : Obj := o21.1
noncomputable def O28 : Obj := o28.1
noncomputable def O36 : Obj := o36.1
noncomputable def O43 : Obj := o43.1
noncomputable def O50 : Obj := o50.1
noncomputable def O58 : Obj := o58.1
noncomputable def O65 : Obj := o65.1
noncomputable def O72 : Obj := o72.1
noncomputable def O79 : Obj := o79.1
noncomputable def O86 : Obj := o86.1
noncomputable def O93 : Obj := o93.1
noncomputable def O100 : Obj := o100.1
noncomputable def O108 : Obj := o108.1
noncomputable def O115 : Obj := o115.1
noncomputable def O123 : Obj := o123.1
noncomputable def O131 : Obj := o131.1
noncomputable def O139 : Obj := o139.1
noncomputable def O147 : Obj := o147.1
noncomputable def O155 : Obj := o155.1
noncomputable def O163 : Obj := o163.1
noncomputable def O170 : Obj := o170.1
noncomputable def O177 : Obj := o177.1
noncomputable def O184 : Obj := o184.1
noncomputable def O191 : Obj := o191.1
noncomputable def O198 : Obj := o198.1
noncomputable def O205 : Obj := o205.1
noncomputable def O212 : Obj := o212.1
noncomputable def O219 : Obj := o219.1
noncomputable def O226 : Obj := o226.1
noncomputable def O233 : Obj := o233.1
noncomputable def O240 : Obj := o240.1
noncomputable def O247 : Obj := o247.1
noncomputable def O254 : Obj := o254.1
noncomputable def O261 : Obj := o261.1
noncomputable def O268 : Obj := o268.1
noncomputable def O275 : Obj := o275.1
noncomputable def O282 : Obj := o282.1
noncomputable def O289 : Obj := o289.1
noncomputable def O296 : Obj := o296.1
noncomputable def O303 : Obj := o303.1
noncomputable def O310 : Obj := o310.1
noncomputable def O317 : Obj := o317.1
noncomputable def O324 : Obj := o324.1
noncomputable def O331 : Obj := o331.1
noncomputable def O338 : Obj := o338.1
noncomputable def O359 : Obj := o359.1
noncomputable def O366 : Obj := o366.1
noncomputable def O373 : Obj := o373.1
noncomputable def O380 : Obj := o380.1
noncomputable def O387 : Obj := o387.1
noncomputable def O394 : Obj := o394.1
noncomputable def O401 : Obj := o401.1
noncomputable def O408 : Obj := o408.1
noncomputable def O415 : Obj := o415.1
noncomputable def O422 : Obj := o422.1
noncomputable def O436 : Obj := o436.1
noncomputable def O443 : Obj := o443.1
noncomputable def O450 : Obj := o450.1
theorem reps4 {news : Led} {x y z q : SV} : ∀ {Vs : List Value}, Reps news [x, y, z, q] Vs → ∃ X Y Z W, Vs = [X, Y, Z, W] ∧ Rep news x X ∧ Rep news y Y ∧ Rep news z Z ∧ Rep news q W
  | [X, Y, Z, W], ⟨a, b, c, d, _⟩ => ⟨X, Y, Z, W, rfl, a, b, c, d⟩
example : (fun (_ : PySem.W.OpenLaw) (_ : Params → Frag) => True) PySem.Challenge.rw_ja0025_01 Mine.heapK := by k_fill; trivial

local macro_rules | `(tactic| k_room) => `(tactic| first | exact roomE (by assumption) | ktr_room)
local macro_rules | `(tactic| ke_room) => `(tactic| first | exact roomK (by assumption) (by decide) | ktr_units)
local macro_rules | `(tactic| walk_at "call ref") => `(tactic| k_extra "call ref")
local macro_rules | `(tactic| walk_at "subscriptTail") => `(tactic| k_extra "subscriptTail")
local macro_rules | `(tactic| walk_at "compareOp In int ref") => `(tactic| (k_here; (with_reducible show wpAny _ _ (compareOp CmpOp.In (Value.int _ _) (Value.ref _)) _ _ _); k_dflt (refine' in_topTup ?F ?X ?l ?i ?_; (case F => k_asm); (case X => k_asm); (case l => k_is); (case i => l_ints); k_whole)))
noncomputable def F_isleap : Fun := I1 fun y P => P (SV.b (leapB y))
set_option maxHeartbeats 400000 in
theorem l_isleap (w : World) (y : Int) : WS w O21 [] [(Str.ofString "year", .i y)] (SV.b (leapB y)) := by
  refine by_word ((br (((y % (4 : Int)) : Int) == (0 : Int)) (br (((y % (100 : Int)) : Int) != (0 : Int)) (SV.b true = SV.b (leapB y)) (SV.b (((y % (400 : Int)) : Int) == (0 : Int)) = SV.b (leapB y))) (SV.b false = SV.b (leapB y)))) (by kernel_rfl!) ?_
  repeat' (first | assumption | (refine br_of ?_ ?_) | (refine And.intro ?_ ?_) | intro _)
  all_goals ((try simp only [decide_eq_true_eq, decide_eq_false_iff_not, beq_iff_eq, bne_iff_ne, ne_eq, beq_eq_false_iff_ne, bne_eq_false_iff_eq, Bool.not_true, Bool.not_false, Bool.not_eq_true', Bool.not_eq_false', reduceCtorEq] at *); refine svb ?_; unfold leapB; rw [Bool.eq_iff_iff]; simp only [beq_iff_eq, decide_eq_true_eq, true_iff, iff_true, false_iff, iff_false, Bool.false_eq_true]; omega)
theorem k_isleap {w : World} : KOK w F_isleap 21 9 :=
  fnI1 (o := O21) (ps := [Str.ofString "year"]) (df := []) (dv := []) ⟨by kernel_rfl!, by kernel_rfl!, rfl⟩ trivial (fun a s X => BindsTo.of_eq rfl) ook_nil (pl1 (l_isleap w))
noncomputable def F_trunc4 : Fun := I2 fun x b P => b = 4 ∧ (0 ≤ x) ∧ P (SV.i (x / 4))
set_option maxHeartbeats 400000 in
theorem l_trunc4 (w : World) (x : Int) (hp : 0 ≤ x) : WS w O28 [] [(Str.ofString "a", .i x), (Str.ofString "b", .i (4 : Int))] (SV.i (x / 4)) := by
  refine by_word ((∀ share0 : Int, ((if x < 0 then -x else x) / (if (4 : Int) < 0 then -(4 : Int) else (4 : Int))) = share0 → (br ((decide ((x : Int) < (0 : Int))) == (decide (((4 : Int) : Int) < (0 : Int)))) (SV.i share0 = SV.i (x / 4)) (SV.i (-share0) = SV.i (x / 4))))) (by kernel_rfl!) ?_
  repeat' (first | assumption | (refine br_of ?_ ?_) | (refine And.intro ?_ ?_) | intro _)
  all_goals ((try subst_vars); refine sv1 ?_)
  all_goals (simp at *; first | omega | (split <;> omega))
theorem k_trunc4 {w : World} : KOK w F_trunc4 28 9 :=
  fnI2 (o := O28) (ps := [Str.ofString "a", Str.ofString "b"]) (df := []) (dv := []) ⟨by kernel_rfl!, by kernel_rfl!, rfl⟩ trivial (fun a b s X => BindsTo.of_eq rfl) ook_nil (pl2l (l_trunc4 w))
noncomputable def F_trunc1461 : Fun := I2 fun x b P => b = 1461 ∧ (0 ≤ x) ∧ P (SV.i (x / 1461))
set_option maxHeartbeats 400000 in
theorem l_trunc1461 (w : World) (x : Int) (hp : 0 ≤ x) : WS w O28 [] [(Str.ofString "a", .i x), (Str.ofString "b", .i (1461 : Int))] (SV.i (x / 1461)) := by
  refine by_word ((∀ share0 : Int, ((if x < 0 then -x else x) / (if (1461 : Int) < 0 then -(1461 : Int) else (1461 : Int))) = share0 → (br ((decide ((x : Int) < (0 : Int))) == (decide (((1461 : Int) : Int) < (0 : Int)))) (SV.i share0 = SV.i (x / 1461)) (SV.i (-share0) = SV.i (x / 1461))))) (by kernel_rfl!) ?_
  repeat' (first | assumption | (refine br_of ?_ ?_) | (refine And.intro ?_ ?_) | intro _)
  all_goals ((try subst_vars); refine sv1 ?_)
  all_goals (simp at *; first | omega | (split <;> omega))
theorem k_trunc1461 {w : World} : KOK w F_trunc1461 28 9 :=
  fnI2 (o := O28) (ps := [Str.ofString "a", Str.ofString "b"]) (df := []) (dv := []) ⟨by kernel_rfl!, by kernel_rfl!, rfl⟩ trivial (fun a b s X => BindsTo.of_eq rfl) ook_nil (pl2l (l_trunc1461 w))
noncomputable def F_trunc365 : Fun := I2 fun x b P => b = 365 ∧ (0 ≤ x) ∧ P (SV.i (x / 365))
set_option maxHeartbeats 400000 in
theorem l_trunc365 (w : World) (x : Int) (hp : 0 ≤ x) : WS w O28 [] [(Str.ofString "a", .i x), (Str.ofString "b", .i (365 : Int))] (SV.i (x / 365)) := by
  refine by_word ((∀ share0 : Int, ((if x < 0 then -x else x) / (if (365 : Int) < 0 then -(365 : Int) else (365 : Int))) = share0 → (br ((decide ((x : Int) < (0 : Int))) == (decide (((365 : Int) : Int) < (0 : Int)))) (SV.i share0 = SV.i (x / 365)) (SV.i (-share0) = SV.i (x / 365))))) (by kernel_rfl!) ?_
  repeat' (first | assumption | (refine br_of ?_ ?_) | (refine And.intro ?_ ?_) | intro _)
  all_goals ((try subst_vars); refine sv1 ?_)
  all_goals (simp at *; first | omega | (split <;> omega))
theorem k_trunc365 {w : World} : KOK w F_trunc365 28 9 :=
  fnI2 (o := O28) (ps := [Str.ofString "a", Str.ofString "b"]) (df := []) (dv := []) ⟨by kernel_rfl!, by kernel_rfl!, rfl⟩ trivial (fun a b s X => BindsTo.of_eq rfl) ook_nil (pl2l (l_trunc365 w))
noncomputable def F_trunc30 : Fun := I2 fun x b P => b = 30 ∧ (0 ≤ x) ∧ P (SV.i (x / 30))
set_option maxHeartbeats 400000 in
theorem l_trunc30 (w : World) (x : Int) (hp : 0 ≤ x) : WS w O28 [] [(Str.ofString "a", .i x), (Str.ofString "b", .i (30 : Int))] (SV.i (x / 30)) := by
  refine by_word ((∀ share0 : Int, ((if x < 0 then -x else x) / (if (30 : Int) < 0 then -(30 : Int) else (30 : Int))) = share0 → (br ((decide ((x : Int) < (0 : Int))) == (decide (((30 : Int) : Int) < (0 : Int)))) (SV.i share0 = SV.i (x / 30)) (SV.i (-share0) = SV.i (x / 30))))) (by kernel_rfl!) ?_
  repeat' (first | assumption | (refine br_of ?_ ?_) | (refine And.intro ?_ ?_) | intro _)
  all_goals ((try subst_vars); refine sv1 ?_)
  all_goals (simp at *; first | omega | (split <;> omega))
theorem k_trunc30 {w : World} : KOK w F_trunc30 28 9 :=
  fnI2 (o := O28) (ps := [Str.ofString "a", Str.ofString "b"]) (df := []) (dv := []) ⟨by kernel_rfl!, by kernel_rfl!, rfl⟩ trivial (fun a b s X => BindsTo.of_eq rfl) ook_nil (pl2l (l_trunc30 w))
noncomputable def F_trunc10 : Fun := I2 fun x b P => b = 10 ∧ (0 ≤ x) ∧ P (SV.i (x / 10))
set_option maxHeartbeats 400000 in
theorem l_trunc10 (w : World) (x : Int) (hp : 0 ≤ x) : WS w O28 [] [(Str.ofString "a", .i x), (Str.ofString "b", .i (10 : Int))] (SV.i (x / 10)) := by
  refine by_word ((∀ share0 : Int, ((if x < 0 then -x else x) / (if (10 : Int) < 0 then -(10 : Int) else (10 : Int))) = share0 → (br ((decide ((x : Int) < (0 : Int))) == (decide (((10 : Int) : Int) < (0 : Int)))) (SV.i share0 = SV.i (x / 10)) (SV.i (-share0) = SV.i (x / 10))))) (by kernel_rfl!) ?_
  repeat' (first | assumption | (refine br_of ?_ ?_) | (refine And.intro ?_ ?_) | intro _)
  all_goals ((try subst_vars); refine sv1 ?_)
  all_goals (simp at *; first | omega | (split <;> omega))
theorem k_trunc10 {w : World} : KOK w F_trunc10 28 9 :=
  fnI2 (o := O28) (ps := [Str.ofString "a", Str.ofString "b"]) (df := []) (dv := []) ⟨by kernel_rfl!, by kernel_rfl!, rfl⟩ trivial (fun a b s X => BindsTo.of_eq rfl) ook_nil (pl2l (l_trunc10 w))
noncomputable def F_trunc367 : Fun := I2 fun x b P => b = 367 ∧ (0 ≤ x) ∧ P (SV.i (x / 367))
set_option maxHeartbeats 400000 in
theorem l_trunc367 (w : World) (x : Int) (hp : 0 ≤ x) : WS w O28 [] [(Str.ofString "a", .i x), (Str.ofString "b", .i (367 : Int))] (SV.i (x / 367)) := by
  refine by_word ((∀ share0 : Int, ((if x < 0 then -x else x) / (if (367 : Int) < 0 then -(367 : Int) else (367 : Int))) = share0 → (br ((decide ((x : Int) < (0 : Int))) == (decide (((367 : Int) : Int) < (0 : Int)))) (SV.i share0 = SV.i (x / 367)) (SV.i (-share0) = SV.i (x / 367))))) (by kernel_rfl!) ?_
  repeat' (first | assumption | (refine br_of ?_ ?_) | (refine And.intro ?_ ?_) | intro _)
  all_goals ((try subst_vars); refine sv1 ?_)
  all_goals (simp at *; first | omega | (split <;> omega))
theorem k_trunc367 {w : World} : KOK w F_trunc367 28 9 :=
  fnI2 (o := O28) (ps := [Str.ofString "a", Str.ofString "b"]) (df := []) (dv := []) ⟨by kernel_rfl!, by kernel_rfl!, rfl⟩ trivial (fun a b s X => BindsTo.of_eq rfl) ook_nil (pl2l (l_trunc367 w))
noncomputable def F_trunc : Fun := I2 fun x b P => ((b = 4 ∨ b = 1461 ∨ b = 365 ∨ b = 30 ∨ b = 10 ∨ b = 367) ∧ 0 ≤ x) ∧ P (SV.i (x / b))
theorem k_trunc {w : World} : KOK w F_trunc 28 9 := by
  intro prog p loose mean mg mb
  intro args P h
  obtain ⟨x, b, rfl, ⟨h | h | h | h | h | h, hx⟩, hv⟩ := I2_of h
  · exact k_trunc4 _ P ⟨h, hx, by subst h; exact hv⟩
  · exact k_trunc1461 _ P ⟨h, hx, by subst h; exact hv⟩
  · exact k_trunc365 _ P ⟨h, hx, by subst h; exact hv⟩
  · exact k_trunc30 _ P ⟨h, hx, by subst h; exact hv⟩
  · exact k_trunc10 _ P ⟨h, hx, by subst h; exact hv⟩
  · exact k_trunc367 _ P ⟨h, hx, by subst h; exact hv⟩
noncomputable def F_legal_date_gregorian : Fun := I3 fun y m d P => (1 ≤ d ∧ d ≤ gLen y m) ∧ P (SV.b (true))
set_option maxHeartbeats 400000 in
theorem l_legal_date_gregorian (w : World) (y : Int) (m : Int) (d : Int) (hp : 1 ≤ d ∧ d ≤ gLen y m) : WS w O36 [(21, F_isleap)] [(Str.ofString "year", .i y), (Str.ofString "month", .i m), (Str.ofString "day", .i d)] (SV.b (true)) := by
  refine by_word ((br ((m : Int) == (2 : Int)) (br (leapB y) (∀ daysinmonth0 : Int, (29 : Int) = daysinmonth0 → (br (decide (((0 : Int) : Int) < d)) (br (!(decide ((d : Int) ≤ daysinmonth0))) False (SV.b true = SV.b (true))) False)) (∀ daysinmonth1 : Int, (28 : Int) = daysinmonth1 → (br (decide (((0 : Int) : Int) < d)) (br (!(decide ((d : Int) ≤ daysinmonth1))) False (SV.b true = SV.b (true))) False))) (br (([4, 6, 9, 11] : List Int).any (· == m)) (∀ daysinmonth2 : Int, (30 : Int) = daysinmonth2 → (br (decide (((0 : Int) : Int) < d)) (br (!(decide ((d : Int) ≤ daysinmonth2))) False (SV.b true = SV.b (true))) False)) (∀ daysinmonth3 : Int, (31 : Int) = daysinmonth3 → (br (decide (((0 : Int) : Int) < d)) (br (!(decide ((d : Int) ≤ daysinmonth3))) False (SV.b true = SV.b (true))) False))))) (by kernel_rfl!) ?_
  repeat' (first | assumption | (refine br_of ?_ ?_) | (refine And.intro ?_ ?_) | intro _)
  all_goals ((try subst_vars); (try simp only [decide_eq_true_eq, decide_eq_false_iff_not, beq_iff_eq, bne_iff_ne, ne_eq, beq_eq_false_iff_ne, bne_eq_false_iff_eq, Bool.not_true, Bool.not_false, Bool.not_eq_true', Bool.not_eq_false', reduceCtorEq] at *))
  all_goals first | rfl | (exfalso; first | exact absurd (gLen_no1 hp (by assumption) (by assumption)) (by assumption) | exact absurd (gLen_no2 hp (by assumption) (by assumption)) (by assumption) | exact absurd (gLen_no3 hp (by assumption) (by assumption)) (by assumption) | exact absurd (gLen_no4 hp (by assumption)) (by assumption) | omega)
theorem k_legal_date_gregorian {w : World} : KOK w F_legal_date_gregorian 36 10 :=
  fnI3 (o := O36) (ps := [Str.ofString "year", Str.ofString "month", Str.ofString "day"]) (df := []) (dv := []) ⟨by kernel_rfl!, by kernel_rfl!, rfl⟩ trivial (fun a b c s X => BindsTo.of_eq rfl) (ook_cons k_isleap ook_nil) (pp3 (l_legal_date_gregorian w))
noncomputable def F_to_jd_gregorian : Fun := I3 fun y m d P => (1 ≤ d ∧ d ≤ gLen y m) ∧ P (SV.i (gJd y m d))
set_option maxHeartbeats 400000 in
theorem l_to_jd_gregorian (w : World) (y : Int) (m : Int) (d : Int) (hp : 1 ≤ d ∧ d ≤ gLen y m) : WS w O43 [(21, F_isleap), (36, F_legal_date_gregorian)] [(Str.ofString "year", .i y), (Str.ofString "month", .i m), (Str.ofString "day", .i d)] (SV.i (gJd y m d)) := by
  refine by_word (((1 ≤ d ∧ d ≤ gLen y m) ∧ (br (decide ((m : Int) ≤ (2 : Int))) (∀ leap_adj0 : Int, (0 : Int) = leap_adj0 → (SV.i (((((((1721426 : Int) - (1 : Int)) + ((365 : Int) * (y - (1 : Int)))) + ((y - (1 : Int)) / (4 : Int))) + (-((y - (1 : Int)) / (100 : Int)))) + ((y - (1 : Int)) / (400 : Int))) + ((((((367 : Int) * m) - (362 : Int)) / (12 : Int)) + leap_adj0) + d)) = SV.i (gJd y m d))) (br (leapB y) (∀ leap_adj1 : Int, (-(1 : Int)) = leap_adj1 → (SV.i (((((((1721426 : Int) - (1 : Int)) + ((365 : Int) * (y - (1 : Int)))) + ((y - (1 : Int)) / (4 : Int))) + (-((y - (1 : Int)) / (100 : Int)))) + ((y - (1 : Int)) / (400 : Int))) + ((((((367 : Int) * m) - (362 : Int)) / (12 : Int)) + leap_adj1) + d)) = SV.i (gJd y m d))) (∀ leap_adj2 : Int, (-(2 : Int)) = leap_adj2 → (SV.i (((((((1721426 : Int) - (1 : Int)) + ((365 : Int) * (y - (1 : Int)))) + ((y - (1 : Int)) / (4 : Int))) + (-((y - (1 : Int)) / (100 : Int)))) + ((y - (1 : Int)) / (400 : Int))) + ((((((367 : Int) * m) - (362 : Int)) / (12 : Int)) + leap_adj2) + d)) = SV.i (gJd y m d))))))) (by kernel_rfl!) ?_
  repeat' (first | assumption | (refine br_of ?_ ?_) | (refine And.intro ?_ ?_) | intro _)
  all_goals ((try subst_vars); (try simp only [decide_eq_true_eq, decide_eq_false_iff_not, beq_iff_eq, bne_iff_ne, ne_eq, beq_eq_false_iff_ne, bne_eq_false_iff_eq, Bool.not_true, Bool.not_false, Bool.not_eq_true', Bool.not_eq_false', reduceCtorEq] at *); refine sv1 ?_; unfold gJd jan1 cum lp; simp [*] <;> omega)
theorem k_to_jd_gregorian {w : World} : KOK w F_to_jd_gregorian 43 11 :=
  fnI3 (o := O43) (ps := [Str.ofString "year", Str.ofString "month", Str.ofString "day"]) (df := []) (dv := []) ⟨by kernel_rfl!, by kernel_rfl!, rfl⟩ trivial (fun a b c s X => BindsTo.of_eq rfl) (ook_cons k_isleap (ook_cons k_legal_date_gregorian ook_nil)) (pp3 (l_to_jd_gregorian w))
noncomputable def F_to_jd_gregorian_at : Fun := I3 fun y m d P => ∃ n : Int, (y = gY n ∧ m = gM n ∧ d = gD n) ∧ P (SV.i (n))
theorem k_to_jd_gregorian_at {w : World} : KOK w F_to_jd_gregorian_at 43 11 := by
  intro prog p loose mean mg mb
  intro args P h
  obtain ⟨y, m, d, rfl, n, ⟨rfl, rfl, rfl⟩, hv⟩ := I3_of h
  refine k_to_jd_gregorian _ P ⟨(g_spec n).2.1, ?_⟩
  exact (congrArg (fun z => P (.i z)) ((g_spec n).2.2)).mpr hv
noncomputable def F_from_jd_gregorian : Fun := I1 fun n P => P (SV.t [(gY n), (gM n), (gD n)])
set_option maxHeartbeats 400000 in
theorem l_from_jd_gregorian (w : World) (n : Int) : WS w O50 [(21, F_isleap), (43, F_to_jd_gregorian)] [(Str.ofString "jd", .i n)] (SV.t [(gY n), (gM n), (gD n)]) := by
  refine by_word ((∀ wjd0 : Int, n = wjd0 → (∀ depoch0 : Int, (wjd0 - (1721426 : Int)) = depoch0 → (∀ quadricent0 : Int, (depoch0 / (146097 : Int)) = quadricent0 → (∀ dqc0 : Int, (depoch0 % (146097 : Int)) = dqc0 → (∀ cent0 : Int, (dqc0 / (36524 : Int)) = cent0 → (∀ dcent0 : Int, (dqc0 % (36524 : Int)) = dcent0 → (∀ quad0 : Int, (dcent0 / (1461 : Int)) = quad0 → (∀ dquad0 : Int, (dcent0 % (1461 : Int)) = dquad0 → (∀ yindex0 : Int, (dquad0 / (365 : Int)) = yindex0 → (∀ year0 : Int, ((((quadricent0 * (400 : Int)) + (cent0 * (100 : Int))) + (quad0 * (4 : Int))) + yindex0) = year0 → (br ((cent0 : Int) == (4 : Int)) ((1 ≤ (1 : Int) ∧ (1 : Int) ≤ gLen year0 (1 : Int)) ∧ (∀ yearday0 : Int, (wjd0 - (gJd year0 (1 : Int) (1 : Int))) = yearday0 → (br (decide ((yearday0 : Int) < ((58 : Int) + (if (leapB year0) = true then 1 else 0)))) (∀ leap_adj0 : Int, (0 : Int) = leap_adj0 → (∀ month0 : Int, ((((yearday0 + leap_adj0) * (12 : Int)) + (373 : Int)) / (367 : Int)) = month0 → ((1 ≤ (1 : Int) ∧ (1 : Int) ≤ gLen year0 month0) ∧ (∀ day0 : Int, ((wjd0 - (gJd year0 month0 (1 : Int))) + (1 : Int)) = day0 → (SV.t [year0, month0, day0] = SV.t [(gY n), (gM n), (gD n)]))))) (br (leapB year0) (∀ leap_adj1 : Int, (1 : Int) = leap_adj1 → (∀ month1 : Int, ((((yearday0 + leap_adj1) * (12 : Int)) + (373 : Int)) / (367 : Int)) = month1 → ((1 ≤ (1 : Int) ∧ (1 : Int) ≤ gLen year0 month1) ∧ (∀ day1 : Int, ((wjd0 - (gJd year0 month1 (1 : Int))) + (1 : Int)) = day1 → (SV.t [year0, month1, day1] = SV.t [(gY n), (gM n), (gD n)]))))) (∀ leap_adj2 : Int, (2 : Int) = leap_adj2 → (∀ month2 : Int, ((((yearday0 + leap_adj2) * (12 : Int)) + (373 : Int)) / (367 : Int)) = month2 → ((1 ≤ (1 : Int) ∧ (1 : Int) ≤ gLen year0 month2) ∧ (∀ day2 : Int, ((wjd0 - (gJd year0 month2 (1 : Int))) + (1 : Int)) = day2 → (SV.t [year0, month2, day2] = SV.t [(gY n), (gM n), (gD n)]))))))))) (br (!((yindex0 : Int) == (4 : Int))) (∀ year1 : Int, (year0 + (1 : Int)) = year1 → ((1 ≤ (1 : Int) ∧ (1 : Int) ≤ gLen year1 (1 : Int)) ∧ (∀ yearday1 : Int, (wjd0 - (gJd year1 (1 : Int) (1 : Int))) = yearday1 → (br (decide ((yearday1 : Int) < ((58 : Int) + (if (leapB year1) = true then 1 else 0)))) (∀ leap_adj3 : Int, (0 : Int) = leap_adj3 → (∀ month3 : Int, ((((yearday1 + leap_adj3) * (12 : Int)) + (373 : Int)) / (367 : Int)) = month3 → ((1 ≤ (1 : Int) ∧ (1 : Int) ≤ gLen year1 month3) ∧ (∀ day3 : Int, ((wjd0 - (gJd year1 month3 (1 : Int))) + (1 : Int)) = day3 → (SV.t [year1, month3, day3] = SV.t [(gY n), (gM n), (gD n)]))))) (br (leapB year1) (∀ leap_adj4 : Int, (1 : Int) = leap_adj4 → (∀ month4 : Int, ((((yearday1 + leap_adj4) * (12 : Int)) + (373 : Int)) / (367 : Int)) = month4 → ((1 ≤ (1 : Int) ∧ (1 : Int) ≤ gLen year1 month4) ∧ (∀ day4 : Int, ((wjd0 - (gJd year1 month4 (1 : Int))) + (1 : Int)) = day4 → (SV.t [year1, month4, day4] = SV.t [(gY n), (gM n), (gD n)]))))) (∀ leap_adj5 : Int, (2 : Int) = leap_adj5 → (∀ month5 : Int, ((((yearday1 + leap_adj5) * (12 : Int)) + (373 : Int)) / (367 : Int)) = month5 → ((1 ≤ (1 : Int) ∧ (1 : Int) ≤ gLen year1 month5) ∧ (∀ day5 : Int, ((wjd0 - (gJd year1 month5 (1 : Int))) + (1 : Int)) = day5 → (SV.t [year1, month5, day5] = SV.t [(gY n), (gM n), (gD n)])))))))))) ((1 ≤ (1 : Int) ∧ (1 : Int) ≤ gLen year0 (1 : Int)) ∧ (∀ yearday2 : Int, (wjd0 - (gJd year0 (1 : Int) (1 : Int))) = yearday2 → (br (decide ((yearday2 : Int) < ((58 : Int) + (if (leapB year0) = true then 1 else 0)))) (∀ leap_adj6 : Int, (0 : Int) = leap_adj6 → (∀ month6 : Int, ((((yearday2 + leap_adj6) * (12 : Int)) + (373 : Int)) / (367 : Int)) = month6 → ((1 ≤ (1 : Int) ∧ (1 : Int) ≤ gLen year0 month6) ∧ (∀ day6 : Int, ((wjd0 - (gJd year0 month6 (1 : Int))) + (1 : Int)) = day6 → (SV.t [year0, month6, day6] = SV.t [(gY n), (gM n), (gD n)]))))) (br (leapB year0) (∀ leap_adj7 : Int, (1 : Int) = leap_adj7 → (∀ month7 : Int, ((((yearday2 + leap_adj7) * (12 : Int)) + (373 : Int)) / (367 : Int)) = month7 → ((1 ≤ (1 : Int) ∧ (1 : Int) ≤ gLen year0 month7) ∧ (∀ day7 : Int, ((wjd0 - (gJd year0 month7 (1 : Int))) + (1 : Int)) = day7 → (SV.t [year0, month7, day7] = SV.t [(gY n), (gM n), (gD n)]))))) (∀ leap_adj8 : Int, (2 : Int) = leap_adj8 → (∀ month8 : Int, ((((yearday2 + leap_adj8) * (12 : Int)) + (373 : Int)) / (367 : Int)) = month8 → ((1 ≤ (1 : Int) ∧ (1 : Int) ≤ gLen year0 month8) ∧ (∀ day8 : Int, ((wjd0 - (gJd year0 month8 (1 : Int))) + (1 : Int)) = day8 → (SV.t [year0, month8, day8] = SV.t [(gY n), (gM n), (gD n)])))))))))))))))))))))) (by kernel_rfl!) ?_
  repeat' (first | assumption | (refine br_of ?_ ?_) | (refine And.intro ?_ ?_) | intro _)
  all_goals (skip; (try simp only [decide_eq_true_eq, decide_eq_false_iff_not, beq_iff_eq, bne_iff_ne, ne_eq, beq_eq_false_iff_ne, bne_eq_false_iff_eq, Bool.not_true, Bool.not_false, Bool.not_eq_true', Bool.not_eq_false', reduceCtorEq] at *))
  all_goals first
    | (exact Int.le_refl 1)
    | (exact gLen_pos _ _)
    | (exact sv3 (g_fin1 (by assumption) (g_w0 (by assumption) (by assumption) (by assumption) (by assumption) (by assumption) (by assumption) (by assumption) (by assumption) (by assumption) (by assumption) (by first | exact .inl (by assumption) | exact .inr (by assumption))) (by assumption) (by assumption) (by assumption) (by assumption) (by assumption)))
    | (exact sv3 (g_fin1 (by assumption) (g_w1 (by assumption) (by assumption) (by assumption) (by assumption) (by assumption) (by assumption) (by assumption) (by assumption) (by assumption) (by assumption) (by assumption) (by assumption) (by assumption)) (by assumption) (by assumption) (by assumption) (by assumption) (by assumption)))
    | (exact sv3 (g_fin2 (by assumption) (g_w0 (by assumption) (by assumption) (by assumption) (by assumption) (by assumption) (by assumption) (by assumption) (by assumption) (by assumption) (by assumption) (by first | exact .inl (by assumption) | exact .inr (by assumption))) (by assumption) (by assumption) (by assumption) (by assumption) (by assumption) (by assumption)))
    | (exact sv3 (g_fin2 (by assumption) (g_w1 (by assumption) (by assumption) (by assumption) (by assumption) (by assumption) (by assumption) (by assumption) (by assumption) (by assumption) (by assumption) (by assumption) (by assumption) (by assumption)) (by assumption) (by assumption) (by assumption) (by assumption) (by assumption) (by assumption)))
    | (exact sv3 (g_fin3 (by assumption) (g_w0 (by assumption) (by assumption) (by assumption) (by assumption) (by assumption) (by assumption) (by assumption) (by assumption) (by assumption) (by assumption) (by first | exact .inl (by assumption) | exact .inr (by assumption))) (by assumption) (by assumption) (by assumption) (by assumption) (by assumption) (by assumption)))
    | (exact sv3 (g_fin3 (by assumption) (g_w1 (by assumption) (by assumption) (by assumption) (by assumption) (by assumption) (by assumption) (by assumption) (by assumption) (by assumption) (by assumption) (by assumption) (by assumption) (by assumption)) (by assumption) (by assumption) (by assumption) (by assumption) (by assumption) (by assumption)))
    | contradiction
    | (simp; done)

theorem k_from_jd_gregorian {w : World} : KOK w F_from_jd_gregorian 50 12 :=
  fnI1 (o := O50) (ps := [Str.ofString "jd"]) (df := []) (dv := []) ⟨by kernel_rfl!, by kernel_rfl!, rfl⟩ trivial (fun a s X => BindsTo.of_eq rfl) (ook_cons k_isleap (ook_cons k_to_jd_gregorian ook_nil)) (pl1 (l_from_jd_gregorian w))
noncomputable def F_leap_julian : Fun := I1 fun y P => P (SV.b (decide (y % 4 = 0)))
set_option maxHeartbeats 400000 in
theorem l_leap_julian (w : World) (y : Int) : WS w O58 [] [(Str.ofString "year", .i y)] (SV.b (decide (y % 4 = 0))) := by
  refine by_word ((SV.b (((y % (4 : Int)) : Int) == (0 : Int)) = SV.b (decide (y % 4 = 0)))) (by kernel_rfl!) ?_
  repeat' (first | assumption | (refine br_of ?_ ?_) | (refine And.intro ?_ ?_) | intro _)
  all_goals rfl
theorem k_leap_julian {w : World} : KOK w F_leap_julian 58 9 :=
  fnI1 (o := O58) (ps := [Str.ofString "year"]) (df := []) (dv := []) ⟨by kernel_rfl!, by kernel_rfl!, rfl⟩ trivial (fun a s X => BindsTo.of_eq rfl) ook_nil (pl1 (l_leap_julian w))
noncomputable def F_month_length : Fun := I2 fun y m P => P (SV.i (jLen y m))
set_option maxHeartbeats 400000 in
theorem l_month_length (w : World) (y : Int) (m : Int) : WS w O65 [(58, F_leap_julian)] [(Str.ofString "year", .i y), (Str.ofString "month", .i m)] (SV.i (jLen y m)) := by
  refine by_word ((br ((m : Int) == (2 : Int)) (br (decide (y % 4 = 0)) (∀ daysinmonth0 : Int, (29 : Int) = daysinmonth0 → (SV.i daysinmonth0 = SV.i (jLen y m))) (∀ daysinmonth1 : Int, (28 : Int) = daysinmonth1 → (SV.i daysinmonth1 = SV.i (jLen y m)))) (br (([4, 6, 9, 11] : List Int).any (· == m)) (∀ daysinmonth2 : Int, (30 : Int) = daysinmonth2 → (SV.i daysinmonth2 = SV.i (jLen y m))) (∀ daysinmonth3 : Int, (31 : Int) = daysinmonth3 → (SV.i daysinmonth3 = SV.i (jLen y m)))))) (by kernel_rfl!) ?_
  repeat' (first | assumption | (refine br_of ?_ ?_) | (refine And.intro ?_ ?_) | intro _)
  all_goals ((try subst_vars); (try simp only [decide_eq_true_eq, decide_eq_false_iff_not, beq_iff_eq, bne_iff_ne, ne_eq, beq_eq_false_iff_ne, bne_eq_false_iff_eq, Bool.not_true, Bool.not_false, Bool.not_eq_true', Bool.not_eq_false', reduceCtorEq] at *))
  all_goals first
    | (exact sv1 (jLen_1 (by assumption) (by assumption)))
    | (exact sv1 (jLen_2 (by assumption) (by assumption)))
    | (exact sv1 (jLen_3 (by assumption) (by assumption)))
    | (exact sv1 (jLen_4 (by assumption) (by assumption)))
    | contradiction
    | (simp; done)

theorem k_month_length {w : World} : KOK w F_month_length 65 10 :=
  fnI2 (o := O65) (ps := [Str.ofString "year", Str.ofString "month"]) (df := []) (dv := []) ⟨by kernel_rfl!, by kernel_rfl!, rfl⟩ trivial (fun a b s X => BindsTo.of_eq rfl) (ook_cons k_leap_julian ook_nil) (pl2 (l_month_length w))
noncomputable def F_legal_date_julian : Fun := I3 fun y m d P => (1 ≤ d ∧ d ≤ jLen y m) ∧ P (SV.b (true))
set_option maxHeartbeats 400000 in
theorem l_legal_date_julian (w : World) (y : Int) (m : Int) (d : Int) (hp : 1 ≤ d ∧ d ≤ jLen y m) : WS w O72 [(65, F_month_length)] [(Str.ofString "year", .i y), (Str.ofString "month", .i m), (Str.ofString "day", .i d)] (SV.b (true)) := by
  refine by_word ((∀ daysinmonth0 : Int, (jLen y m) = daysinmonth0 → (br (decide (((0 : Int) : Int) < d)) (br (!(decide ((d : Int) ≤ daysinmonth0))) False (SV.b true = SV.b (true))) False))) (by kernel_rfl!) ?_
  repeat' (first | assumption | (refine br_of ?_ ?_) | (refine And.intro ?_ ?_) | intro _)
  all_goals ((try subst_vars); (try simp only [decide_eq_true_eq, decide_eq_false_iff_not, beq_iff_eq, bne_iff_ne, ne_eq, beq_eq_false_iff_ne, bne_eq_false_iff_eq, Bool.not_true, Bool.not_false, Bool.not_eq_true', Bool.not_eq_false', reduceCtorEq] at *))
  all_goals first
    | (rfl)
    | (exfalso; omega)
    | contradiction
    | (simp; done)

theorem k_legal_date_julian {w : World} : KOK w F_legal_date_julian 72 11 :=
  fnI3 (o := O72) (ps := [Str.ofString "year", Str.ofString "month", Str.ofString "day"]) (df := []) (dv := []) ⟨by kernel_rfl!, by kernel_rfl!, rfl⟩ trivial (fun a b c s X => BindsTo.of_eq rfl) (ook_cons k_month_length ook_nil) (pp3 (l_legal_date_julian w))
noncomputable def F_to_jd_julian : Fun := I3 fun y m d P => ((1 ≤ m ∧ m ≤ 12) ∧ 1 ≤ d ∧ d ≤ jLen y m) ∧ P (SV.i (jJd y m d))
set_option maxHeartbeats 400000 in
theorem l_to_jd_julian (w : World) (y : Int) (m : Int) (d : Int) (hp : (1 ≤ m ∧ m ≤ 12) ∧ 1 ≤ d ∧ d ≤ jLen y m) : WS w O86 [(72, F_legal_date_julian)] [(Str.ofString "year", .i y), (Str.ofString "month", .i m), (Str.ofString "day", .i d)] (SV.i (jJd y m d)) := by
  refine by_word (((1 ≤ d ∧ d ≤ jLen y m) ∧ (br (decide ((m : Int) ≤ (2 : Int))) (∀ year0 : Int, (y - (1 : Int)) = year0 → (∀ month0 : Int, (m + (12 : Int)) = month0 → (SV.i ((((((1461 : Int) * (year0 + (4716 : Int))) / (4 : Int)) + (((306001 : Int) * (month0 + (1 : Int))) / (10000 : Int))) + d) - (1524 : Int)) = SV.i (jJd y m d)))) (SV.i ((((((1461 : Int) * (y + (4716 : Int))) / (4 : Int)) + (((306001 : Int) * (m + (1 : Int))) / (10000 : Int))) + d) - (1524 : Int)) = SV.i (jJd y m d))))) (by kernel_rfl!) ?_
  repeat' (first | assumption | (refine br_of ?_ ?_) | (refine And.intro ?_ ?_) | intro _)
  all_goals ((try subst_vars); (try simp only [decide_eq_true_eq, decide_eq_false_iff_not, beq_iff_eq, bne_iff_ne, ne_eq, beq_eq_false_iff_ne, bne_eq_false_iff_eq, Bool.not_true, Bool.not_false, Bool.not_eq_true', Bool.not_eq_false', reduceCtorEq] at *))
  all_goals first
    | (exact hp.2.1)
    | (exact hp.2.2)
    | (refine sv1 ?_; rw [jJd_form (by omega)]; first | rw [if_pos (by assumption)] | rw [if_neg (by assumption)])
    | contradiction
    | (simp; done)

theorem k_to_jd_julian {w : World} : KOK w F_to_jd_julian 86 12 :=
  fnI3 (o := O86) (ps := [Str.ofString "year", Str.ofString "month", Str.ofString "day"]) (df := []) (dv := []) ⟨by kernel_rfl!, by kernel_rfl!, rfl⟩ trivial (fun a b c s X => BindsTo.of_eq rfl) (ook_cons k_legal_date_julian ook_nil) (pp3 (l_to_jd_julian w))
noncomputable def F_to_jd_julian_at : Fun := I3 fun y m d P => ∃ n : Int, (y = jY n ∧ m = jM n ∧ d = jD n) ∧ P (SV.i (n))
theorem k_to_jd_julian_at {w : World} : KOK w F_to_jd_julian_at 86 12 := by
  intro prog p loose mean mg mb
  intro args P h
  obtain ⟨y, m, d, rfl, n, ⟨rfl, rfl, rfl⟩, hv⟩ := I3_of h
  refine k_to_jd_julian _ P ⟨⟨(j_spec n).1, (j_spec n).2.1⟩, ?_⟩
  exact (congrArg (fun z => P (.i z)) ((j_spec n).2.2)).mpr hv
noncomputable def F_from_jd_julian : Fun := I1 fun n P => P (SV.t [(jY n), (jM n), (jD n)])
set_option maxHeartbeats 400000 in
theorem l_from_jd_julian (w : World) (n : Int) : WS w O79 [] [(Str.ofString "jd", .i n)] (SV.t [(jY n), (jM n), (jD n)]) := by
  refine by_word ((∀ a0 : Int, n = a0 → (∀ b0 : Int, (a0 + (1524 : Int)) = b0 → (∀ c0 : Int, ((((20 : Int) * b0) - (2442 : Int)) / (7305 : Int)) = c0 → (∀ d0 : Int, (((1461 : Int) * c0) / (4 : Int)) = d0 → (∀ e0 : Int, (((b0 - d0) * (10000 : Int)) / (306001 : Int)) = e0 → (br (decide ((e0 : Int) < (14 : Int))) (∀ month0 : Int, (e0 - (1 : Int)) = month0 → (br (decide ((2 : Int) < (month0 : Int))) (∀ year0 : Int, (c0 - (4716 : Int)) = year0 → (∀ day0 : Int, ((b0 - d0) - (((306001 : Int) * e0) / (10000 : Int))) = day0 → (SV.t [year0, month0, day0] = SV.t [(jY n), (jM n), (jD n)]))) (∀ year1 : Int, (c0 - (4715 : Int)) = year1 → (∀ day1 : Int, ((b0 - d0) - (((306001 : Int) * e0) / (10000 : Int))) = day1 → (SV.t [year1, month0, day1] = SV.t [(jY n), (jM n), (jD n)]))))) (∀ month1 : Int, (e0 - (13 : Int)) = month1 → (br (decide ((2 : Int) < (month1 : Int))) (∀ year2 : Int, (c0 - (4716 : Int)) = year2 → (∀ day2 : Int, ((b0 - d0) - (((306001 : Int) * e0) / (10000 : Int))) = day2 → (SV.t [year2, month1, day2] = SV.t [(jY n), (jM n), (jD n)]))) (∀ year3 : Int, (c0 - (4715 : Int)) = year3 → (∀ day3 : Int, ((b0 - d0) - (((306001 : Int) * e0) / (10000 : Int))) = day3 → (SV.t [year3, month1, day3] = SV.t [(jY n), (jM n), (jD n)])))))))))))) (by kernel_rfl!) ?_
  repeat' (first | assumption | (refine br_of ?_ ?_) | (refine And.intro ?_ ?_) | intro _)
  all_goals (skip; (try simp only [decide_eq_true_eq, decide_eq_false_iff_not, beq_iff_eq, bne_iff_ne, ne_eq, beq_eq_false_iff_ne, bne_eq_false_iff_eq, Bool.not_true, Bool.not_false, Bool.not_eq_true', Bool.not_eq_false', reduceCtorEq] at *))
  all_goals first
    | (exact sv3 (j_fin (by assumption) (by assumption) (by assumption) (by assumption) (by assumption) (by first | exact j_mA (by assumption) (by assumption) | exact j_mB (by assumption) (by assumption)) (by first | exact j_yA (by assumption) (by assumption) | exact j_yB (by assumption) (by assumption)) (by assumption)))
    | contradiction
    | (simp; done)

theorem k_from_jd_julian {w : World} : KOK w F_from_jd_julian 79 9 :=
  fnI1 (o := O79) (ps := [Str.ofString "jd"]) (df := []) (dv := []) ⟨by kernel_rfl!, by kernel_rfl!, rfl⟩ trivial (fun a s X => BindsTo.of_eq rfl) ook_nil (pl1 (l_from_jd_julian w))
noncomputable def F_from_gregorian_julian : Fun := I3 fun y m d P => ∃ n : Int, (y = gY n ∧ m = gM n ∧ d = gD n) ∧ P (SV.t [(jY n), (jM n), (jD n)])
set_option maxHeartbeats 400000 in
theorem l_from_gregorian_julian (w : World) (n : Int) : WS w O93 [(43, F_to_jd_gregorian_at), (79, F_from_jd_julian)] [(Str.ofString "year", .i (gY n)), (Str.ofString "month", .i (gM n)), (Str.ofString "day", .i (gD n))] (SV.t [(jY n), (jM n), (jD n)]) := by
  refine by_word ((∃ n0 : Int, ((gY n) = gY n0 ∧ (gM n) = gM n0 ∧ (gD n) = gD n0) ∧ (SV.t [(jY (n0)), (jM (n0)), (jD (n0))] = SV.t [(jY n), (jM n), (jD n)]))) (by kernel_rfl!) ?_
  repeat' (first | assumption | rfl | (refine br_of ?_ ?_) | (refine And.intro ?_ ?_) | (refine Exists.intro n ?_) | (intro x h; subst h) | intro _)
theorem k_from_gregorian_julian {w : World} : KOK w F_from_gregorian_julian 93 12 :=
  fnI3 (o := O93) (ps := [Str.ofString "year", Str.ofString "month", Str.ofString "day"]) (df := []) (dv := []) ⟨by kernel_rfl!, by kernel_rfl!, rfl⟩ trivial (fun a b c s X => BindsTo.of_eq rfl) (ook_cons k_to_jd_gregorian_at (ook_cons k_from_jd_julian ook_nil)) (at3 (l_from_gregorian_julian w))
noncomputable def F_to_gregorian_julian : Fun := I3 fun y m d P => ∃ n : Int, (y = jY n ∧ m = jM n ∧ d = jD n) ∧ P (SV.t [(gY n), (gM n), (gD n)])
set_option maxHeartbeats 400000 in
theorem l_to_gregorian_julian (w : World) (n : Int) : WS w O100 [(86, F_to_jd_julian_at), (50, F_from_jd_gregorian)] [(Str.ofString "year", .i (jY n)), (Str.ofString "month", .i (jM n)), (Str.ofString "day", .i (jD n))] (SV.t [(gY n), (gM n), (gD n)]) := by
  refine by_word ((∃ n0 : Int, ((jY n) = jY n0 ∧ (jM n) = jM n0 ∧ (jD n) = jD n0) ∧ (SV.t [(gY (n0)), (gM (n0)), (gD (n0))] = SV.t [(gY n), (gM n), (gD n)]))) (by kernel_rfl!) ?_
  repeat' (first | assumption | rfl | (refine br_of ?_ ?_) | (refine And.intro ?_ ?_) | (refine Exists.intro n ?_) | (intro x h; subst h) | intro _)
theorem k_to_gregorian_julian {w : World} : KOK w F_to_gregorian_julian 100 13 :=
  fnI3 (o := O100) (ps := [Str.ofString "year", Str.ofString "month", Str.ofString "day"]) (df := []) (dv := []) ⟨by kernel_rfl!, by kernel_rfl!, rfl⟩ trivial (fun a b c s X => BindsTo.of_eq rfl) (ook_cons k_to_jd_julian_at (ook_cons k_from_jd_gregorian ook_nil)) (at3 (l_to_gregorian_julian w))
noncomputable def F_leap_armenian : Fun := I1 fun y P => (533 ≤ y) ∧ P (SV.b (decide (y % 4 = 0)))
set_option maxHeartbeats 400000 in
theorem l_leap_armenian (w : World) (y : Int) (hp : 533 ≤ y) : WS w O115 [] [(Str.ofString "year", .i y)] (SV.b (decide (y % 4 = 0))) := by
  refine by_word ((br (decide ((y : Int) < (533 : Int))) (SV.b false = SV.b (decide (y % 4 = 0))) (SV.b (((y % (4 : Int)) : Int) == (0 : Int)) = SV.b (decide (y % 4 = 0))))) (by kernel_rfl!) ?_
  repeat' (first | assumption | (refine br_of ?_ ?_) | (refine And.intro ?_ ?_) | intro _)
  all_goals ((try subst_vars); (try simp only [decide_eq_true_eq, decide_eq_false_iff_not, beq_iff_eq, bne_iff_ne, ne_eq, beq_eq_false_iff_ne, bne_eq_false_iff_eq, Bool.not_true, Bool.not_false, Bool.not_eq_true', Bool.not_eq_false', reduceCtorEq] at *))
  all_goals first
    | (exfalso; omega)
    | (rfl)
    | contradiction
    | (simp; done)

theorem k_leap_armenian {w : World} : KOK w F_leap_armenian 115 9 :=
  fnI1 (o := O115) (ps := [Str.ofString "year"]) (df := []) (dv := []) ⟨by kernel_rfl!, by kernel_rfl!, rfl⟩ trivial (fun a s X => BindsTo.of_eq rfl) ook_nil (pp1 (l_leap_armenian w))
section
set_option maxRecDepth 100000 in
set_option maxHeartbeats 4000000 in
theorem c_valid_mov {prog w p loose mean mg mb} (y m d : Int) (t u v : Tok) (hp : (1 ≤ m ∧ m ≤ 13) ∧ 1 ≤ y ∧ 1 ≤ d ∧ d ≤ 30 ∧ (m = 13 → d ≤ 5)) : Ctr prog w (heapK w.params) p loose mean mg mb 108 [.int y t, .int m u, .int d v, .none] 9 (Ret1 (fun _ => .bool (true))) := by
  k_with_none
  intro dp un gd cn cs a ccd cl outer A₀ base h₀ L m' news s Q E hB hF hK hN hT hk hd hu hret
  refine wpAny_call ?_
  k_dflt (((refine' enter0 ?k1 ?k2 ?k3 ?k4 ?k5 ?kA ?kF ?kK ?k6 ?k7 ?k8 ?k9 ?kB ?_ ?c2 ?c3 ?c4 ?c5; (case kA => exact rfl); (case kF => exact rfl); (case kK => assumption); (case k1 => k_asm); (case k2 => k_asm); (case k3 => k_asm); (case k4 => k_asm); (case k5 => k_asm); (case k6 => k_is); (case k7 => k_is); (case k8 => first | exact roomE hd | ktr_room); (case k9 => first | exact BindsTo.of_eq rfl | exact binds_K (by k_in) rfl (by k_is) rfl rfl rfl); (case c5 => decide); (case kB => exact locs rfl); (case c2 => exact rfl); (case c3 => exact rfl); (case c4 => exact rfl); k_whole; intro g' L' h' hG' FG' F' N' B' X' T'; (try dsimp only); (try k_lift B'); (try k_fold))))
  k_steps
  all_goals ((((try intro kN2); (try dsimp only); first | refine' fin1I (by assumption) (by k_asm) (by assumption) ?_ | refine' fin1B (by assumption) (by k_asm) (by assumption) ?_ | ((rename News _ _ _ (_ :: _) => kN1); first | refine' fin3 (by assumption) (by k_asm) (by assumption) kN1 (by k_mem) ?_ | refine' fin2 (by assumption) (by k_asm) (by assumption) kN1 (by k_mem) ?_ | refine' fin5 (by assumption) (by k_asm) (by assumption) kN1 (by k_mem) ?_ | refine' finL (by assumption) (by k_asm) (by assumption) kN1 (by k_mem) ?_))); rfl)
end
noncomputable def F_valid_mov : Fun := I3n fun y m d P => ((1 ≤ m ∧ m ≤ 13) ∧ 1 ≤ y ∧ 1 ≤ d ∧ d ≤ 30 ∧ (m = 13 → d ≤ 5)) ∧ P (SV.b (true))
theorem k_valid_mov {w : World} : KOK w F_valid_mov 108 9 := by
  intro prog p loose mean mg mb
  intro args P h
  obtain ⟨y, m, d, rfl, hp, hv⟩ := I3n_of h
  refine ok_ret1B hv fun vs news r => ?_
  obtain ⟨V1, V2, V3, V4, rfl, ⟨t, rfl⟩, ⟨u, rfl⟩, ⟨v, rfl⟩, h4⟩ := reps4 r
  cases h4
  exact c_valid_mov y m d t u v hp
theorem c_leap_armenian {prog w p loose mean mg mb} (y : Int) (t : Tok) (hp : 533 ≤ y) : Ctr prog w (heapK w.params) p loose mean mg mb 115 [.int y t] 9 (Ret1 (fun _ => .bool (decide (y % 4 = 0)))) :=
  ctr_1B (args := [.i y]) (k_leap_armenian _ _ (by exact ⟨hp, rfl⟩)) fun news => r_i1 news
section
set_option maxRecDepth 100000 in
set_option maxHeartbeats 4000000 in
theorem c_valid_sar {prog w p loose mean mg mb} (y m d : Int) (t u v z : Tok) (hp : (1 ≤ m ∧ m ≤ 13) ∧ 533 ≤ y ∧ 1 ≤ d ∧ d ≤ 30 ∧ (m = 13 → y % 4 = 0 → d ≤ 6) ∧ (m = 13 → y % 4 ≠ 0 → d ≤ 5)) : Ctr prog w (heapK w.params) p loose mean mg mb 108 [.int y t, .int m u, .int d v, .str (Str.ofString "sarkawag") z] 10 (Ret1 (fun _ => .bool (true))) := by
  k_with_none
  k_with "call ref" => (k_here; k_dflt (refine' use (c_leap_armenian _ _ ?kp) ?k1 ?k2 ?k3 ?k4 ?k5 ?kK ?kd ?ku ?_; (case kp => (first | assumption | omega | with_reducible exact ⟨Int.le_refl 1, gLen_pos _ _⟩ | with_reducible exact a_pre (by assumption) | with_reducible exact s_pre (by assumption) | with_reducible exact s_pos (by assumption) | with_reducible exact s_pos3 (by assumption) (by assumption) | with_reducible exact p_pre (by assumption) | with_reducible exact ind_pre _ _ | with_reducible exact o_pre0 | with_reducible exact o_pre1 | with_reducible exact o_pre2 (by assumption) | with_reducible exact o_tr (by decide) | (law_clear; (try (simp (disch := decide) only [Int.fmod_eq_emod_of_nonneg, Int.fdiv_eq_ediv_of_nonneg] at *)); omega))); (case k1 => k_asm); (case k2 => k_asm); (case k3 => k_asm); (case k4 => k_asm); (case k5 => k_asm); (case kK => first | exact rfl | assumption); (case kd => first | exact roomD hd (by decide) | ktr_room); (case ku => first | exact roomU hu (by decide) | ktr_units); k_whole); intro t9 h9 tk9 F9 N9; (try dsimp only); (try k_sweep); (try k_fold); walk_say "CONTRACT leap_armenian")
  intro dp un gd cn cs a ccd cl outer A₀ base h₀ L m' news s Q E hB hF hK hN hT hk hd hu hret
  refine wpAny_call ?_
  k_dflt (((refine' enter0 ?k1 ?k2 ?k3 ?k4 ?k5 ?kA ?kF ?kK ?k6 ?k7 ?k8 ?k9 ?kB ?_ ?c2 ?c3 ?c4 ?c5; (case kA => exact rfl); (case kF => exact rfl); (case kK => assumption); (case k1 => k_asm); (case k2 => k_asm); (case k3 => k_asm); (case k4 => k_asm); (case k5 => k_asm); (case k6 => k_is); (case k7 => k_is); (case k8 => first | exact roomE hd | ktr_room); (case k9 => first | exact BindsTo.of_eq rfl | exact binds_K (by k_in) rfl (by k_is) rfl rfl rfl); (case c5 => decide); (case kB => exact locs rfl); (case c2 => exact rfl); (case c3 => exact rfl); (case c4 => exact rfl); k_whole; intro g' L' h' hG' FG' F' N' B' X' T'; (try dsimp only); (try k_lift B'); (try k_fold))))
  k_steps
  all_goals ((((try intro kN2); (try dsimp only); first | refine' fin1I (by assumption) (by k_asm) (by assumption) ?_ | refine' fin1B (by assumption) (by k_asm) (by assumption) ?_ | ((rename News _ _ _ (_ :: _) => kN1); first | refine' fin3 (by assumption) (by k_asm) (by assumption) kN1 (by k_mem) ?_ | refine' fin2 (by assumption) (by k_asm) (by assumption) kN1 (by k_mem) ?_ | refine' fin5 (by assumption) (by k_asm) (by assumption) kN1 (by k_mem) ?_ | refine' finL (by assumption) (by k_asm) (by assumption) kN1 (by k_mem) ?_))); rfl)
end
noncomputable def F_valid_sar : Fun := I3s (Str.ofString "sarkawag") fun y m d P => ((1 ≤ m ∧ m ≤ 13) ∧ 533 ≤ y ∧ 1 ≤ d ∧ d ≤ 30 ∧ (m = 13 → y % 4 = 0 → d ≤ 6) ∧ (m = 13 → y % 4 ≠ 0 → d ≤ 5)) ∧ P (SV.b (true))
theorem k_valid_sar {w : World} : KOK w F_valid_sar 108 10 := by
  intro prog p loose mean mg mb
  intro args P h
  obtain ⟨y, m, d, rfl, hp, hv⟩ := I3s_of h
  refine ok_ret1B hv fun vs news r => ?_
  obtain ⟨V1, V2, V3, V4, rfl, ⟨t, rfl⟩, ⟨u, rfl⟩, ⟨v, rfl⟩, h4⟩ := reps4 r
  obtain ⟨z, rfl⟩ := h4
  exact c_valid_sar y m d t u v z hp
noncomputable def F_to_jd_arm3 : Fun := I3 fun y m d P => ∃ n : Int, (y = aY n ∧ m = aM n ∧ d = aD n) ∧ (1922868 ≤ n) ∧ P (SV.i (n))
set_option maxHeartbeats 400000 in
theorem l_to_jd_arm3 (w : World) (n : Int) (hp : 1922868 ≤ n) : WS w O123 [(108, F_valid_mov)] [(Str.ofString "year", .i (aY n)), (Str.ofString "month", .i (aM n)), (Str.ofString "day", .i (aD n)), (Str.ofString "method", .c .none)] (SV.i (n)) := by
  refine by_word ((((1 ≤ (aM n) ∧ (aM n) ≤ 13) ∧ 1 ≤ (aY n) ∧ 1 ≤ (aD n) ∧ (aD n) ≤ 30 ∧ ((aM n) = 13 → (aD n) ≤ 5)) ∧ (∀ yeardays0 : Int, ((((aM n) - (1 : Int)) * (30 : Int)) + (aD n)) = yeardays0 → (SV.i (((1922502 : Int) + ((365 : Int) * (aY n))) + yeardays0) = SV.i (n))))) (by kernel_rfl!) ?_
  repeat' (first | assumption | exact a_pre hp | exact s_pre hp | exact s_pos hp | exact s_pos3 hp (by simpa using (by assumption)) | (refine br_of ?_ ?_) | (refine And.intro ?_ ?_) | intro _)
  all_goals ((try subst_vars); (try simp only [decide_eq_true_eq, decide_eq_false_iff_not, beq_iff_eq, bne_iff_ne, ne_eq, beq_eq_false_iff_ne, bne_eq_false_iff_eq, Bool.not_true, Bool.not_false, Bool.not_eq_true', Bool.not_eq_false', reduceCtorEq] at *))
  all_goals first
    | (exact a_pre hp)
    | (refine sv1 ?_; rw [aY_eq, aM_eq, aD_eq]; omega)
    | contradiction
    | (simp; done)

theorem k_to_jd_arm3 {w : World} : KOK w F_to_jd_arm3 123 10 :=
  fnI3 (o := O123) (ps := [Str.ofString "year", Str.ofString "month", Str.ofString "day", Str.ofString "method"]) (df := [.c .none]) (dv := [.none]) ⟨by kernel_rfl!, by kernel_rfl!, rfl⟩ ⟨rfl, trivial⟩ (fun a b c s X => binds_K (o := o116) X rfl (by kernel_rfl!) rfl rfl rfl) (ook_cons k_valid_mov ook_nil) (ap3 (l_to_jd_arm3 w))
noncomputable def F_to_jd_arm4 : Fun := I3n fun y m d P => ∃ n : Int, (y = aY n ∧ m = aM n ∧ d = aD n) ∧ (1922868 ≤ n) ∧ P (SV.i (n))
set_option maxHeartbeats 400000 in
theorem l_to_jd_arm4 (w : World) (n : Int) (hp : 1922868 ≤ n) : WS w O123 [(108, F_valid_mov)] [(Str.ofString "year", .i (aY n)), (Str.ofString "month", .i (aM n)), (Str.ofString "day", .i (aD n)), (Str.ofString "method", .c .none)] (SV.i (n)) := by
  refine by_word ((((1 ≤ (aM n) ∧ (aM n) ≤ 13) ∧ 1 ≤ (aY n) ∧ 1 ≤ (aD n) ∧ (aD n) ≤ 30 ∧ ((aM n) = 13 → (aD n) ≤ 5)) ∧ (∀ yeardays0 : Int, ((((aM n) - (1 : Int)) * (30 : Int)) + (aD n)) = yeardays0 → (SV.i (((1922502 : Int) + ((365 : Int) * (aY n))) + yeardays0) = SV.i (n))))) (by kernel_rfl!) ?_
  repeat' (first | assumption | exact a_pre hp | exact s_pre hp | exact s_pos hp | exact s_pos3 hp (by simpa using (by assumption)) | (refine br_of ?_ ?_) | (refine And.intro ?_ ?_) | intro _)
  all_goals ((try subst_vars); (try simp only [decide_eq_true_eq, decide_eq_false_iff_not, beq_iff_eq, bne_iff_ne, ne_eq, beq_eq_false_iff_ne, bne_eq_false_iff_eq, Bool.not_true, Bool.not_false, Bool.not_eq_true', Bool.not_eq_false', reduceCtorEq] at *))
  all_goals first
    | (exact a_pre hp)
    | (refine sv1 ?_; rw [aY_eq, aM_eq, aD_eq]; omega)
    | contradiction
    | (simp; done)

theorem k_to_jd_arm4 {w : World} : KOK w F_to_jd_arm4 123 10 :=
  fnI3n (o := O123) (ps := [Str.ofString "year", Str.ofString "month", Str.ofString "day", Str.ofString "method"]) (df := []) (dv := []) ⟨by kernel_rfl!, by kernel_rfl!, rfl⟩ trivial (fun a b c d s X => binds_K (o := o116) X rfl (by kernel_rfl!) rfl rfl rfl) (ook_cons k_valid_mov ook_nil) (ap3 (l_to_jd_arm4 w))
noncomputable def F_to_jd_sar : Fun := I3s (Str.ofString "sarkawag") fun y m d P => ∃ n : Int, (y = sY n ∧ m = sM n ∧ d = sD n) ∧ (2117212 ≤ n) ∧ P (SV.i (n))
set_option maxHeartbeats 400000 in
theorem l_to_jd_sar (w : World) (n : Int) (hp : 2117212 ≤ n) : WS w O123 [(108, F_valid_sar), (28, F_trunc)] [(Str.ofString "year", .i (sY n)), (Str.ofString "month", .i (sM n)), (Str.ofString "day", .i (sD n)), (Str.ofString "method", .s (Str.ofString "sarkawag"))] (SV.i (n)) := by
  refine by_word (((Str.ofString "sarkawag" = Str.ofString "sarkawag") ∧ ((1 ≤ (sM n) ∧ (sM n) ≤ 13) ∧ 533 ≤ (sY n) ∧ 1 ≤ (sD n) ∧ (sD n) ≤ 30 ∧ ((sM n) = 13 → (sY n) % 4 = 0 → (sD n) ≤ 6) ∧ ((sM n) = 13 → (sY n) % 4 ≠ 0 → (sD n) ≤ 5)) ∧ (∀ yeardays0 : Int, ((((sM n) - (1 : Int)) * (30 : Int)) + (sD n)) = yeardays0 → (∀ yeardelta0 : Int, ((sY n) - (533 : Int)) = yeardelta0 → ((((4 : Int) = 4 ∨ (4 : Int) = 1461 ∨ (4 : Int) = 365 ∨ (4 : Int) = 30 ∨ (4 : Int) = 10 ∨ (4 : Int) = 367) ∧ 0 ≤ yeardelta0) ∧ (∀ leapdays0 : Int, (yeardelta0 / (4 : Int)) = leapdays0 → (SV.i ((((2117211 : Int) + ((365 : Int) * yeardelta0)) + leapdays0) + yeardays0) = SV.i (n)))))))) (by kernel_rfl!) ?_
  repeat' (first | assumption | exact a_pre hp | exact s_pre hp | exact s_pos hp | exact s_pos3 hp (by simpa using (by assumption)) | (refine br_of ?_ ?_) | (refine And.intro ?_ ?_) | intro _)
  all_goals ((try subst_vars); (try simp only [decide_eq_true_eq, decide_eq_false_iff_not, beq_iff_eq, bne_iff_ne, ne_eq, beq_eq_false_iff_ne, bne_eq_false_iff_eq, Bool.not_true, Bool.not_false, Bool.not_eq_true', Bool.not_eq_false', reduceCtorEq] at *))
  all_goals first
    | (exact a_pre hp)
    | (exact sv1 s_jd)
    | exact s_pos hp
    | omega
    | rfl
    | contradiction
    | (simp; done)

theorem k_to_jd_sar {w : World} : KOK w F_to_jd_sar 123 11 :=
  fnI3s (o := O123) (ps := [Str.ofString "year", Str.ofString "month", Str.ofString "day", Str.ofString "method"]) (df := []) (dv := []) ⟨by kernel_rfl!, by kernel_rfl!, rfl⟩ trivial (fun a b c d s X => binds_K (o := o116) X rfl (by kernel_rfl!) rfl rfl rfl) (ook_cons k_valid_sar (ook_cons k_trunc ook_nil)) (ap3 (l_to_jd_sar w))
noncomputable def F_from_jd_arm1 : Fun := I1 fun n P => (1922868 ≤ n) ∧ P (SV.t [(aY n), (aM n), (aD n)])
set_option maxHeartbeats 400000 in
theorem l_from_jd_arm1 (w : World) (n : Int) (hp : 1922868 ≤ n) : WS w O131 [(28, F_trunc)] [(Str.ofString "jd", .i n), (Str.ofString "method", .c .none)] (SV.t [(aY n), (aM n), (aD n)]) := by
  refine by_word ((∀ dc0 : Int, (n - (1922502 : Int)) = dc0 → (br (decide ((dc0 : Int) < (0 : Int))) False ((((365 : Int) = 4 ∨ (365 : Int) = 1461 ∨ (365 : Int) = 365 ∨ (365 : Int) = 30 ∨ (365 : Int) = 10 ∨ (365 : Int) = 367) ∧ 0 ≤ (dc0 - (1 : Int))) ∧ (∀ years0 : Int, ((dc0 - (1 : Int)) / (365 : Int)) = years0 → ((((30 : Int) = 4 ∨ (30 : Int) = 1461 ∨ (30 : Int) = 365 ∨ (30 : Int) = 30 ∨ (30 : Int) = 10 ∨ (30 : Int) = 367) ∧ 0 ≤ ((dc0 - (1 : Int)) % (365 : Int))) ∧ (∀ months0 : Int, (((dc0 - (1 : Int)) % (365 : Int)) / (30 : Int)) = months0 → (∀ days0 : Int, ((dc0 - ((365 : Int) * years0)) - ((30 : Int) * months0)) = days0 → (SV.t [years0, (months0 + (1 : Int)), days0] = SV.t [(aY n), (aM n), (aD n)]))))))))) (by kernel_rfl!) ?_
  repeat' (first | assumption | (refine br_of ?_ ?_) | (refine And.intro ?_ ?_) | intro _)
  all_goals (skip; (try simp only [decide_eq_true_eq, decide_eq_false_iff_not, beq_iff_eq, bne_iff_ne, ne_eq, beq_eq_false_iff_ne, bne_eq_false_iff_eq, Bool.not_true, Bool.not_false, Bool.not_eq_true', Bool.not_eq_false', reduceCtorEq] at *))
  all_goals first
    | (exact tr365)
    | (exact tr30)
    | (exact sv3 (a_from (by assumption) (by assumption) (by assumption) (by assumption)))
    | (exact fmod_pos (by decide))
    | (omega)
    | contradiction
    | (simp; done)

theorem k_from_jd_arm1 {w : World} : KOK w F_from_jd_arm1 131 10 :=
  fnI1 (o := O131) (ps := [Str.ofString "jd", Str.ofString "method"]) (df := [.c .none]) (dv := [.none]) ⟨by kernel_rfl!, by kernel_rfl!, rfl⟩ ⟨rfl, trivial⟩ (fun a s X => binds_K (o := o124) X rfl (by kernel_rfl!) rfl rfl rfl) (ook_cons k_trunc ook_nil) (pp1 (l_from_jd_arm1 w))
noncomputable def F_from_jd_arm2 : Fun := I1n fun n P => (1922868 ≤ n) ∧ P (SV.t [(aY n), (aM n), (aD n)])
set_option maxHeartbeats 400000 in
theorem l_from_jd_arm2 (w : World) (n : Int) (hp : 1922868 ≤ n) : WS w O131 [(28, F_trunc)] [(Str.ofString "jd", .i n), (Str.ofString "method", .c .none)] (SV.t [(aY n), (aM n), (aD n)]) := by
  refine by_word ((∀ dc0 : Int, (n - (1922502 : Int)) = dc0 → (br (decide ((dc0 : Int) < (0 : Int))) False ((((365 : Int) = 4 ∨ (365 : Int) = 1461 ∨ (365 : Int) = 365 ∨ (365 : Int) = 30 ∨ (365 : Int) = 10 ∨ (365 : Int) = 367) ∧ 0 ≤ (dc0 - (1 : Int))) ∧ (∀ years0 : Int, ((dc0 - (1 : Int)) / (365 : Int)) = years0 → ((((30 : Int) = 4 ∨ (30 : Int) = 1461 ∨ (30 : Int) = 365 ∨ (30 : Int) = 30 ∨ (30 : Int) = 10 ∨ (30 : Int) = 367) ∧ 0 ≤ ((dc0 - (1 : Int)) % (365 : Int))) ∧ (∀ months0 : Int, (((dc0 - (1 : Int)) % (365 : Int)) / (30 : Int)) = months0 → (∀ days0 : Int, ((dc0 - ((365 : Int) * years0)) - ((30 : Int) * months0)) = days0 → (SV.t [years0, (months0 + (1 : Int)), days0] = SV.t [(aY n), (aM n), (aD n)]))))))))) (by kernel_rfl!) ?_
  repeat' (first | assumption | (refine br_of ?_ ?_) | (refine And.intro ?_ ?_) | intro _)
  all_goals (skip; (try simp only [decide_eq_true_eq, decide_eq_false_iff_not, beq_iff_eq, bne_iff_ne, ne_eq, beq_eq_false_iff_ne, bne_eq_false_iff_eq, Bool.not_true, Bool.not_false, Bool.not_eq_true', Bool.not_eq_false', reduceCtorEq] at *))
  all_goals first
    | (exact tr365)
    | (exact tr30)
    | (exact sv3 (a_from (by assumption) (by assumption) (by assumption) (by assumption)))
    | (exact fmod_pos (by decide))
    | (omega)
    | contradiction
    | (simp; done)

theorem k_from_jd_arm2 {w : World} : KOK w F_from_jd_arm2 131 10 :=
  fnI1n (o := O131) (ps := [Str.ofString "jd", Str.ofString "method"]) (df := []) (dv := []) ⟨by kernel_rfl!, by kernel_rfl!, rfl⟩ trivial (fun a b s X => binds_K (o := o124) X rfl (by kernel_rfl!) rfl rfl rfl) (ook_cons k_trunc ook_nil) (pp1 (l_from_jd_arm2 w))
noncomputable def F_from_jd_sar : Fun := I1s (Str.ofString "sarkawag") fun n P => (2117212 ≤ n) ∧ P (SV.t [(sY n), (sM n), (sD n)])
set_option maxHeartbeats 400000 in
theorem l_from_jd_sar (w : World) (n : Int) (hp : 2117212 ≤ n) : WS w O131 [(28, F_trunc)] [(Str.ofString "jd", .i n), (Str.ofString "method", .s (Str.ofString "sarkawag"))] (SV.t [(sY n), (sM n), (sD n)]) := by
  refine by_word ((∀ dc0 : Int, (n - (2117211 : Int)) = dc0 → (br (decide ((dc0 : Int) < (0 : Int))) False ((((1461 : Int) = 4 ∨ (1461 : Int) = 1461 ∨ (1461 : Int) = 365 ∨ (1461 : Int) = 30 ∨ (1461 : Int) = 10 ∨ (1461 : Int) = 367) ∧ 0 ≤ ((4 : Int) * dc0)) ∧ (∀ years0 : Int, (((4 : Int) * dc0) / (1461 : Int)) = years0 → ((((4 : Int) = 4 ∨ (4 : Int) = 1461 ∨ (4 : Int) = 365 ∨ (4 : Int) = 30 ∨ (4 : Int) = 10 ∨ (4 : Int) = 367) ∧ 0 ≤ years0) ∧ (∀ yeardays0 : Int, (dc0 - (((365 : Int) * years0) + (years0 / (4 : Int)))) = yeardays0 → (br ((yeardays0 : Int) == (0 : Int)) (br (((years0 % (4 : Int)) : Int) == (0 : Int)) (∀ yeardays1 : Int, (366 : Int) = yeardays1 → (∀ years1 : Int, (years0 - (1 : Int)) = years1 → ((((30 : Int) = 4 ∨ (30 : Int) = 1461 ∨ (30 : Int) = 365 ∨ (30 : Int) = 30 ∨ (30 : Int) = 10 ∨ (30 : Int) = 367) ∧ 0 ≤ (yeardays1 - (1 : Int))) ∧ (∀ months0 : Int, ((yeardays1 - (1 : Int)) / (30 : Int)) = months0 → (∀ days0 : Int, (yeardays1 - ((30 : Int) * months0)) = days0 → (SV.t [(years1 + (533 : Int)), (months0 + (1 : Int)), days0] = SV.t [(sY n), (sM n), (sD n)])))))) (∀ yeardays2 : Int, (365 : Int) = yeardays2 → (∀ years2 : Int, (years0 - (1 : Int)) = years2 → ((((30 : Int) = 4 ∨ (30 : Int) = 1461 ∨ (30 : Int) = 365 ∨ (30 : Int) = 30 ∨ (30 : Int) = 10 ∨ (30 : Int) = 367) ∧ 0 ≤ (yeardays2 - (1 : Int))) ∧ (∀ months1 : Int, ((yeardays2 - (1 : Int)) / (30 : Int)) = months1 → (∀ days1 : Int, (yeardays2 - ((30 : Int) * months1)) = days1 → (SV.t [(years2 + (533 : Int)), (months1 + (1 : Int)), days1] = SV.t [(sY n), (sM n), (sD n)]))))))) ((((30 : Int) = 4 ∨ (30 : Int) = 1461 ∨ (30 : Int) = 365 ∨ (30 : Int) = 30 ∨ (30 : Int) = 10 ∨ (30 : Int) = 367) ∧ 0 ≤ (yeardays0 - (1 : Int))) ∧ (∀ months2 : Int, ((yeardays0 - (1 : Int)) / (30 : Int)) = months2 → (∀ days2 : Int, (yeardays0 - ((30 : Int) * months2)) = days2 → (SV.t [(years0 + (533 : Int)), (months2 + (1 : Int)), days2] = SV.t [(sY n), (sM n), (sD n)])))))))))))) (by kernel_rfl!) ?_
  repeat' (first | assumption | (refine br_of ?_ ?_) | (refine And.intro ?_ ?_) | intro _)
  all_goals (skip; (try simp only [decide_eq_true_eq, decide_eq_false_iff_not, beq_iff_eq, bne_iff_ne, ne_eq, beq_eq_false_iff_ne, bne_eq_false_iff_eq, Bool.not_true, Bool.not_false, Bool.not_eq_true', Bool.not_eq_false', reduceCtorEq] at *))
  all_goals first
    | (exact tr1461)
    | (exact tr30)
    | (exact tr4)
    | (rfl)
    | (exact sv3 (s_fin1 (by assumption) (by assumption) (by assumption) (by assumption) (by assumption) (by assumption) (by assumption) (by assumption) (by assumption) (by assumption)))
    | (exact sv3 (s_fin2 (by assumption) (by assumption) (by assumption) (by assumption) (by assumption) (by assumption) (by assumption) (by assumption) (by assumption) (by assumption)))
    | (exact sv3 (s_fin3 (by assumption) (by assumption) (by assumption) (by assumption) (by assumption) (by assumption) (by assumption)))
    | (exact s_finz hp (by assumption) (by assumption) (by assumption) (by assumption))
    | (exact c_pos (k := 1461) (by omega) (by decide) (by assumption))
    | (exfalso; omega)
    | (omega)
    | contradiction
    | (simp; done)

theorem k_from_jd_sar {w : World} : KOK w F_from_jd_sar 131 10 :=
  fnI1s (o := O131) (ps := [Str.ofString "jd", Str.ofString "method"]) (df := []) (dv := []) ⟨by kernel_rfl!, by kernel_rfl!, rfl⟩ trivial (fun a b s X => binds_K (o := o124) X rfl (by kernel_rfl!) rfl rfl rfl) (ook_cons k_trunc ook_nil) (pp1 (l_from_jd_sar w))
noncomputable def F_to_julian_mov : Fun := I3 fun y m d P => ∃ n : Int, (y = aY n ∧ m = aM n ∧ d = aD n) ∧ (1922868 ≤ n) ∧ P (SV.t [(jY n), (jM n), (jD n)])
set_option maxHeartbeats 400000 in
theorem l_to_julian_mov (w : World) (n : Int) (hp : 1922868 ≤ n) : WS w O139 [(123, F_to_jd_arm4), (79, F_from_jd_julian)] [(Str.ofString "year", .i (aY n)), (Str.ofString "month", .i (aM n)), (Str.ofString "day", .i (aD n)), (Str.ofString "method", .c .none)] (SV.t [(jY n), (jM n), (jD n)]) := by
  refine by_word ((∃ n0 : Int, ((aY n) = aY n0 ∧ (aM n) = aM n0 ∧ (aD n) = aD n0) ∧ (1922868 ≤ n0) ∧ (SV.t [(jY (n0)), (jM (n0)), (jD (n0))] = SV.t [(jY n), (jM n), (jD n)]))) (by kernel_rfl!) ?_
  repeat' (first | assumption | rfl | (refine br_of ?_ ?_) | (refine And.intro ?_ ?_) | (refine Exists.intro n ?_) | (intro x h; subst h) | intro _)
theorem k_to_julian_mov {w : World} : KOK w F_to_julian_mov 139 11 :=
  fnI3 (o := O139) (ps := [Str.ofString "year", Str.ofString "month", Str.ofString "day", Str.ofString "method"]) (df := [.c .none]) (dv := [.none]) ⟨by kernel_rfl!, by kernel_rfl!, rfl⟩ ⟨rfl, trivial⟩ (fun a b c s X => binds_K (o := o132) X rfl (by kernel_rfl!) rfl rfl rfl) (ook_cons k_to_jd_arm4 (ook_cons k_from_jd_julian ook_nil)) (ap3 (l_to_julian_mov w))
noncomputable def F_to_julian_sar : Fun := I3s (Str.ofString "sarkawag") fun y m d P => ∃ n : Int, (y = sY n ∧ m = sM n ∧ d = sD n) ∧ (2117212 ≤ n) ∧ P (SV.t [(jY n), (jM n), (jD n)])
set_option maxHeartbeats 400000 in
theorem l_to_julian_sar (w : World) (n : Int) (hp : 2117212 ≤ n) : WS w O139 [(123, F_to_jd_sar), (79, F_from_jd_julian)] [(Str.ofString "year", .i (sY n)), (Str.ofString "month", .i (sM n)), (Str.ofString "day", .i (sD n)), (Str.ofString "method", .s (Str.ofString "sarkawag"))] (SV.t [(jY n), (jM n), (jD n)]) := by
  refine by_word (((Str.ofString "sarkawag" = Str.ofString "sarkawag") ∧ ∃ n0 : Int, ((sY n) = sY n0 ∧ (sM n) = sM n0 ∧ (sD n) = sD n0) ∧ (2117212 ≤ n0) ∧ (SV.t [(jY (n0)), (jM (n0)), (jD (n0))] = SV.t [(jY n), (jM n), (jD n)]))) (by kernel_rfl!) ?_
  repeat' (first | assumption | rfl | (refine br_of ?_ ?_) | (refine And.intro ?_ ?_) | (refine Exists.intro n ?_) | (intro x h; subst h) | intro _)
theorem k_to_julian_sar {w : World} : KOK w F_to_julian_sar 139 12 :=
  fnI3s (o := O139) (ps := [Str.ofString "year", Str.ofString "month", Str.ofString "day", Str.ofString "method"]) (df := []) (dv := []) ⟨by kernel_rfl!, by kernel_rfl!, rfl⟩ trivial (fun a b c d s X => binds_K (o := o132) X rfl (by kernel_rfl!) rfl rfl rfl) (ook_cons k_to_jd_sar (ook_cons k_from_jd_julian ook_nil)) (ap3 (l_to_julian_sar w))
noncomputable def F_from_julian_mov : Fun := I3 fun y m d P => ∃ n : Int, (y = jY n ∧ m = jM n ∧ d = jD n) ∧ (1922868 ≤ n) ∧ P (SV.t [(aY n), (aM n), (aD n)])
set_option maxHeartbeats 400000 in
theorem l_from_julian_mov (w : World) (n : Int) (hp : 1922868 ≤ n) : WS w O147 [(86, F_to_jd_julian_at), (131, F_from_jd_arm2)] [(Str.ofString "year", .i (jY n)), (Str.ofString "month", .i (jM n)), (Str.ofString "day", .i (jD n)), (Str.ofString "method", .c .none)] (SV.t [(aY n), (aM n), (aD n)]) := by
  refine by_word ((∃ n0 : Int, ((jY n) = jY n0 ∧ (jM n) = jM n0 ∧ (jD n) = jD n0) ∧ ((1922868 ≤ (n0)) ∧ (SV.t [(aY (n0)), (aM (n0)), (aD (n0))] = SV.t [(aY n), (aM n), (aD n)])))) (by kernel_rfl!) ?_
  repeat' (first | assumption | rfl | (refine br_of ?_ ?_) | (refine And.intro ?_ ?_) | (refine Exists.intro n ?_) | (intro x h; subst h) | intro _)
theorem k_from_julian_mov {w : World} : KOK w F_from_julian_mov 147 13 :=
  fnI3 (o := O147) (ps := [Str.ofString "year", Str.ofString "month", Str.ofString "day", Str.ofString "method"]) (df := [.c .none]) (dv := [.none]) ⟨by kernel_rfl!, by kernel_rfl!, rfl⟩ ⟨rfl, trivial⟩ (fun a b c s X => binds_K (o := o140) X rfl (by kernel_rfl!) rfl rfl rfl) (ook_cons k_to_jd_julian_at (ook_cons k_from_jd_arm2 ook_nil)) (ap3 (l_from_julian_mov w))
noncomputable def F_from_julian_sar : Fun := I3s (Str.ofString "sarkawag") fun y m d P => ∃ n : Int, (y = jY n ∧ m = jM n ∧ d = jD n) ∧ (2117212 ≤ n) ∧ P (SV.t [(sY n), (sM n), (sD n)])
set_option maxHeartbeats 400000 in
theorem l_from_julian_sar (w : World) (n : Int) (hp : 2117212 ≤ n) : WS w O147 [(86, F_to_jd_julian_at), (131, F_from_jd_sar)] [(Str.ofString "year", .i (jY n)), (Str.ofString "month", .i (jM n)), (Str.ofString "day", .i (jD n)), (Str.ofString "method", .s (Str.ofString "sarkawag"))] (SV.t [(sY n), (sM n), (sD n)]) := by
  refine by_word ((∃ n0 : Int, ((jY n) = jY n0 ∧ (jM n) = jM n0 ∧ (jD n) = jD n0) ∧ ((Str.ofString "sarkawag" = Str.ofString "sarkawag") ∧ (2117212 ≤ (n0)) ∧ (SV.t [(sY (n0)), (sM (n0)), (sD (n0))] = SV.t [(sY n), (sM n), (sD n)])))) (by kernel_rfl!) ?_
  repeat' (first | assumption | rfl | (refine br_of ?_ ?_) | (refine And.intro ?_ ?_) | (refine Exists.intro n ?_) | (intro x h; subst h) | intro _)
theorem k_from_julian_sar {w : World} : KOK w F_from_julian_sar 147 13 :=
  fnI3s (o := O147) (ps := [Str.ofString "year", Str.ofString "month", Str.ofString "day", Str.ofString "method"]) (df := []) (dv := []) ⟨by kernel_rfl!, by kernel_rfl!, rfl⟩ trivial (fun a b c d s X => binds_K (o := o140) X rfl (by kernel_rfl!) rfl rfl rfl) (ook_cons k_to_jd_julian_at (ook_cons k_from_jd_sar ook_nil)) (ap3 (l_from_julian_sar w))
noncomputable def F_to_gregorian_mov : Fun := I3 fun y m d P => ∃ n : Int, (y = aY n ∧ m = aM n ∧ d = aD n) ∧ (1922868 ≤ n) ∧ P (SV.t [(gY n), (gM n), (gD n)])
set_option maxHeartbeats 400000 in
theorem l_to_gregorian_mov (w : World) (n : Int) (hp : 1922868 ≤ n) : WS w O155 [(123, F_to_jd_arm4), (50, F_from_jd_gregorian)] [(Str.ofString "year", .i (aY n)), (Str.ofString "month", .i (aM n)), (Str.ofString "day", .i (aD n)), (Str.ofString "method", .c .none)] (SV.t [(gY n), (gM n), (gD n)]) := by
  refine by_word ((∃ n0 : Int, ((aY n) = aY n0 ∧ (aM n) = aM n0 ∧ (aD n) = aD n0) ∧ (1922868 ≤ n0) ∧ (SV.t [(gY (n0)), (gM (n0)), (gD (n0))] = SV.t [(gY n), (gM n), (gD n)]))) (by kernel_rfl!) ?_
  repeat' (first | assumption | rfl | (refine br_of ?_ ?_) | (refine And.intro ?_ ?_) | (refine Exists.intro n ?_) | (intro x h; subst h) | intro _)
theorem k_to_gregorian_mov {w : World} : KOK w F_to_gregorian_mov 155 13 :=
  fnI3 (o := O155) (ps := [Str.ofString "year", Str.ofString "month", Str.ofString "day", Str.ofString "method"]) (df := [.c .none]) (dv := [.none]) ⟨by kernel_rfl!, by kernel_rfl!, rfl⟩ ⟨rfl, trivial⟩ (fun a b c s X => binds_K (o := o148) X rfl (by kernel_rfl!) rfl rfl rfl) (ook_cons k_to_jd_arm4 (ook_cons k_from_jd_gregorian ook_nil)) (ap3 (l_to_gregorian_mov w))
noncomputable def F_to_gregorian_sar : Fun := I3s (Str.ofString "sarkawag") fun y m d P => ∃ n : Int, (y = sY n ∧ m = sM n ∧ d = sD n) ∧ (2117212 ≤ n) ∧ P (SV.t [(gY n), (gM n), (gD n)])
set_option maxHeartbeats 400000 in
theorem l_to_gregorian_sar (w : World) (n : Int) (hp : 2117212 ≤ n) : WS w O155 [(123, F_to_jd_sar), (50, F_from_jd_gregorian)] [(Str.ofString "year", .i (sY n)), (Str.ofString "month", .i (sM n)), (Str.ofString "day", .i (sD n)), (Str.ofString "method", .s (Str.ofString "sarkawag"))] (SV.t [(gY n), (gM n), (gD n)]) := by
  refine by_word (((Str.ofString "sarkawag" = Str.ofString "sarkawag") ∧ ∃ n0 : Int, ((sY n) = sY n0 ∧ (sM n) = sM n0 ∧ (sD n) = sD n0) ∧ (2117212 ≤ n0) ∧ (SV.t [(gY (n0)), (gM (n0)), (gD (n0))] = SV.t [(gY n), (gM n), (gD n)]))) (by kernel_rfl!) ?_
  repeat' (first | assumption | rfl | (refine br_of ?_ ?_) | (refine And.intro ?_ ?_) | (refine Exists.intro n ?_) | (intro x h; subst h) | intro _)
theorem k_to_gregorian_sar {w : World} : KOK w F_to_gregorian_sar 155 13 :=
  fnI3s (o := O155) (ps := [Str.ofString "year", Str.ofString "month", Str.ofString "day", Str.ofString "method"]) (df := []) (dv := []) ⟨by kernel_rfl!, by kernel_rfl!, rfl⟩ trivial (fun a b c d s X => binds_K (o := o148) X rfl (by kernel_rfl!) rfl rfl rfl) (ook_cons k_to_jd_sar (ook_cons k_from_jd_gregorian ook_nil)) (ap3 (l_to_gregorian_sar w))
noncomputable def F_from_gregorian_mov : Fun := I3 fun y m d P => ∃ n : Int, (y = gY n ∧ m = gM n ∧ d = gD n) ∧ (1922868 ≤ n) ∧ P (SV.t [(aY n), (aM n), (aD n)])
set_option maxHeartbeats 400000 in
theorem l_from_gregorian_mov (w : World) (n : Int) (hp : 1922868 ≤ n) : WS w O163 [(43, F_to_jd_gregorian_at), (131, F_from_jd_arm2)] [(Str.ofString "year", .i (gY n)), (Str.ofString "month", .i (gM n)), (Str.ofString "day", .i (gD n)), (Str.ofString "method", .c .none)] (SV.t [(aY n), (aM n), (aD n)]) := by
  refine by_word ((∃ n0 : Int, ((gY n) = gY n0 ∧ (gM n) = gM n0 ∧ (gD n) = gD n0) ∧ ((1922868 ≤ (n0)) ∧ (SV.t [(aY (n0)), (aM (n0)), (aD (n0))] = SV.t [(aY n), (aM n), (aD n)])))) (by kernel_rfl!) ?_
  repeat' (first | assumption | rfl | (refine br_of ?_ ?_) | (refine And.intro ?_ ?_) | (refine Exists.intro n ?_) | (intro x h; subst h) | intro _)
theorem k_from_gregorian_mov {w : World} : KOK w F_from_gregorian_mov 163 12 :=
  fnI3 (o := O163) (ps := [Str.ofString "year", Str.ofString "month", Str.ofString "day", Str.ofString "method"]) (df := [.c .none]) (dv := [.none]) ⟨by kernel_rfl!, by kernel_rfl!, rfl⟩ ⟨rfl, trivial⟩ (fun a b c s X => binds_K (o := o156) X rfl (by kernel_rfl!) rfl rfl rfl) (ook_cons k_to_jd_gregorian_at (ook_cons k_from_jd_arm2 ook_nil)) (ap3 (l_from_gregorian_mov w))
noncomputable def F_from_gregorian_sar : Fun := I3s (Str.ofString "sarkawag") fun y m d P => ∃ n : Int, (y = gY n ∧ m = gM n ∧ d = gD n) ∧ (2117212 ≤ n) ∧ P (SV.t [(sY n), (sM n), (sD n)])
set_option maxHeartbeats 400000 in
theorem l_from_gregorian_sar (w : World) (n : Int) (hp : 2117212 ≤ n) : WS w O163 [(43, F_to_jd_gregorian_at), (131, F_from_jd_sar)] [(Str.ofString "year", .i (gY n)), (Str.ofString "month", .i (gM n)), (Str.ofString "day", .i (gD n)), (Str.ofString "method", .s (Str.ofString "sarkawag"))] (SV.t [(sY n), (sM n), (sD n)]) := by
  refine by_word ((∃ n0 : Int, ((gY n) = gY n0 ∧ (gM n) = gM n0 ∧ (gD n) = gD n0) ∧ ((Str.ofString "sarkawag" = Str.ofString "sarkawag") ∧ (2117212 ≤ (n0)) ∧ (SV.t [(sY (n0)), (sM (n0)), (sD (n0))] = SV.t [(sY n), (sM n), (sD n)])))) (by kernel_rfl!) ?_
  repeat' (first | assumption | rfl | (refine br_of ?_ ?_) | (refine And.intro ?_ ?_) | (refine Exists.intro n ?_) | (intro x h; subst h) | intro _)
theorem k_from_gregorian_sar {w : World} : KOK w F_from_gregorian_sar 163 12 :=
  fnI3s (o := O163) (ps := [Str.ofString "year", Str.ofString "month", Str.ofString "day", Str.ofString "method"]) (df := []) (dv := []) ⟨by kernel_rfl!, by kernel_rfl!, rfl⟩ trivial (fun a b c d s X => binds_K (o := o156) X rfl (by kernel_rfl!) rfl rfl rfl) (ook_cons k_to_jd_gregorian_at (ook_cons k_from_jd_sar ook_nil)) (ap3 (l_from_gregorian_sar w))
noncomputable def F_to_jd_coptic : Fun := I3 fun y m d P => P (SV.i (cJd y m d))
set_option maxHeartbeats 400000 in
theorem l_to_jd_coptic (w : World) (y : Int) (m : Int) (d : Int) : WS w O170 [] [(Str.ofString "year", .i y), (Str.ofString "month", .i m), (Str.ofString "day", .i d)] (SV.i (cJd y m d)) := by
  refine by_word ((SV.i (((((d + ((m - (1 : Int)) * (30 : Int))) + ((y - (1 : Int)) * (365 : Int))) + (y / (4 : Int))) + (1825030 : Int)) - (1 : Int)) = SV.i (cJd y m d))) (by kernel_rfl!) ?_
  repeat' (first | assumption | (refine br_of ?_ ?_) | (refine And.intro ?_ ?_) | intro _)
  all_goals ((try subst_vars); (try simp only [decide_eq_true_eq, decide_eq_false_iff_not, beq_iff_eq, bne_iff_ne, ne_eq, beq_eq_false_iff_ne, bne_eq_false_iff_eq, Bool.not_true, Bool.not_false, Bool.not_eq_true', Bool.not_eq_false', reduceCtorEq] at *))
  all_goals first
    | (refine sv1 ?_; unfold cJd; omega)
    | contradiction
    | (simp; done)

theorem k_to_jd_coptic {w : World} : KOK w F_to_jd_coptic 170 9 :=
  fnI3 (o := O170) (ps := [Str.ofString "year", Str.ofString "month", Str.ofString "day"]) (df := []) (dv := []) ⟨by kernel_rfl!, by kernel_rfl!, rfl⟩ trivial (fun a b c s X => BindsTo.of_eq rfl) ook_nil (pl3 (l_to_jd_coptic w))
noncomputable def F_to_jd_coptic_at : Fun := I3 fun y m d P => ∃ n : Int, (y = cY n ∧ m = cM n ∧ d = cD n) ∧ P (SV.i (n))
theorem k_to_jd_coptic_at {w : World} : KOK w F_to_jd_coptic_at 170 9 := by
  intro prog p loose mean mg mb
  intro args P h
  obtain ⟨y, m, d, rfl, n, ⟨rfl, rfl, rfl⟩, hv⟩ := I3_of h
  refine k_to_jd_coptic _ P ?_
  exact (congrArg (fun z => P (.i z)) (c_spec n)).mpr hv
noncomputable def F_from_jd_coptic : Fun := I1 fun n P => P (SV.t [(cY n), (cM n), (cD n)])
set_option maxHeartbeats 400000 in
theorem l_from_jd_coptic (w : World) (n : Int) : WS w O177 [(170, F_to_jd_coptic)] [(Str.ofString "jdc", .i n)] (SV.t [(cY n), (cM n), (cD n)]) := by
  refine by_word ((∀ year0 : Int, ((((4 : Int) * (n - (1825030 : Int))) + (1463 : Int)) / (1461 : Int)) = year0 → (∀ yday0 : Int, (n - (cJd year0 (1 : Int) (1 : Int))) = yday0 → (∀ month0 : Int, ((yday0 / (30 : Int)) + (1 : Int)) = month0 → (∀ day0 : Int, ((yday0 - ((month0 - (1 : Int)) * (30 : Int))) + (1 : Int)) = day0 → (SV.t [year0, month0, day0] = SV.t [(cY n), (cM n), (cD n)])))))) (by kernel_rfl!) ?_
  repeat' (first | assumption | (refine br_of ?_ ?_) | (refine And.intro ?_ ?_) | intro _)
  all_goals ((try subst_vars); (try simp only [decide_eq_true_eq, decide_eq_false_iff_not, beq_iff_eq, bne_iff_ne, ne_eq, beq_eq_false_iff_ne, bne_eq_false_iff_eq, Bool.not_true, Bool.not_false, Bool.not_eq_true', Bool.not_eq_false', reduceCtorEq] at *))
  all_goals first
    | (exact sv3 (c_from (by rw [cY])))
    | contradiction
    | (simp; done)

theorem k_from_jd_coptic {w : World} : KOK w F_from_jd_coptic 177 10 :=
  fnI1 (o := O177) (ps := [Str.ofString "jdc"]) (df := []) (dv := []) ⟨by kernel_rfl!, by kernel_rfl!, rfl⟩ trivial (fun a s X => BindsTo.of_eq rfl) (ook_cons k_to_jd_coptic ook_nil) (pl1 (l_from_jd_coptic w))
noncomputable def F_to_gregorian_coptic : Fun := I3 fun y m d P => ∃ n : Int, (y = cY n ∧ m = cM n ∧ d = cD n) ∧ P (SV.t [(gY n), (gM n), (gD n)])
set_option maxHeartbeats 400000 in
theorem l_to_gregorian_coptic (w : World) (n : Int) : WS w O184 [(170, F_to_jd_coptic_at), (50, F_from_jd_gregorian)] [(Str.ofString "year", .i (cY n)), (Str.ofString "month", .i (cM n)), (Str.ofString "day", .i (cD n))] (SV.t [(gY n), (gM n), (gD n)]) := by
  refine by_word ((∃ n0 : Int, ((cY n) = cY n0 ∧ (cM n) = cM n0 ∧ (cD n) = cD n0) ∧ (SV.t [(gY (n0)), (gM (n0)), (gD (n0))] = SV.t [(gY n), (gM n), (gD n)]))) (by kernel_rfl!) ?_
  repeat' (first | assumption | rfl | (refine br_of ?_ ?_) | (refine And.intro ?_ ?_) | (refine Exists.intro n ?_) | (intro x h; subst h) | intro _)
theorem k_to_gregorian_coptic {w : World} : KOK w F_to_gregorian_coptic 184 13 :=
  fnI3 (o := O184) (ps := [Str.ofString "year", Str.ofString "month", Str.ofString "day"]) (df := []) (dv := []) ⟨by kernel_rfl!, by kernel_rfl!, rfl⟩ trivial (fun a b c s X => BindsTo.of_eq rfl) (ook_cons k_to_jd_coptic_at (ook_cons k_from_jd_gregorian ook_nil)) (at3 (l_to_gregorian_coptic w))
noncomputable def F_from_gregorian_coptic : Fun := I3 fun y m d P => ∃ n : Int, (y = gY n ∧ m = gM n ∧ d = gD n) ∧ P (SV.t [(cY n), (cM n), (cD n)])
set_option maxHeartbeats 400000 in
theorem l_from_gregorian_coptic (w : World) (n : Int) : WS w O191 [(43, F_to_jd_gregorian_at), (177, F_from_jd_coptic)] [(Str.ofString "year", .i (gY n)), (Str.ofString "month", .i (gM n)), (Str.ofString "day", .i (gD n))] (SV.t [(cY n), (cM n), (cD n)]) := by
  refine by_word ((∃ n0 : Int, ((gY n) = gY n0 ∧ (gM n) = gM n0 ∧ (gD n) = gD n0) ∧ (SV.t [(cY (n0)), (cM (n0)), (cD (n0))] = SV.t [(cY n), (cM n), (cD n)]))) (by kernel_rfl!) ?_
  repeat' (first | assumption | rfl | (refine br_of ?_ ?_) | (refine And.intro ?_ ?_) | (refine Exists.intro n ?_) | (intro x h; subst h) | intro _)
theorem k_from_gregorian_coptic {w : World} : KOK w F_from_gregorian_coptic 191 12 :=
  fnI3 (o := O191) (ps := [Str.ofString "year", Str.ofString "month", Str.ofString "day"]) (df := []) (dv := []) ⟨by kernel_rfl!, by kernel_rfl!, rfl⟩ trivial (fun a b c s X => BindsTo.of_eq rfl) (ook_cons k_to_jd_gregorian_at (ook_cons k_from_jd_coptic ook_nil)) (at3 (l_from_gregorian_coptic w))
noncomputable def F_to_jd_indian : Fun := I3 fun y m d P => ∃ n : Int, (y = nY n ∧ m = nM n ∧ d = nD n) ∧ P (SV.i (n))
set_option maxHeartbeats 400000 in
theorem l_to_jd_indian (w : World) (n : Int) : WS w O198 [(21, F_isleap), (43, F_to_jd_gregorian)] [(Str.ofString "year", .i (nY n)), (Str.ofString "month", .i (nM n)), (Str.ofString "day", .i (nD n))] (SV.i (n)) := by
  refine by_word ((∀ gyear0 : Int, ((nY n) + (78 : Int)) = gyear0 → ((1 ≤ ((22 : Int) - (if (leapB gyear0) = true then 1 else 0)) ∧ ((22 : Int) - (if (leapB gyear0) = true then 1 else 0)) ≤ gLen gyear0 (3 : Int)) ∧ (∀ start0 : Int, (gJd gyear0 (3 : Int) ((22 : Int) - (if (leapB gyear0) = true then 1 else 0))) = start0 → (br (leapB gyear0) (∀ caitra0 : Int, (31 : Int) = caitra0 → (br (((nM n) : Int) == (1 : Int)) (∀ jd0 : Int, (start0 + ((nD n) - (1 : Int))) = jd0 → (SV.i jd0 = SV.i (n))) (∀ jd1 : Int, (start0 + caitra0) = jd1 → (∀ m0 : Int, ((nM n) - (2 : Int)) = m0 → (∀ m1 : Int, (if (5 : Int) < m0 then (5 : Int) else m0) = m1 → (∀ jd2 : Int, (jd1 + (m1 * (31 : Int))) = jd2 → (br (decide ((8 : Int) ≤ ((nM n) : Int))) (∀ m2 : Int, ((nM n) - (7 : Int)) = m2 → (∀ jd3 : Int, (jd2 + (m2 * (30 : Int))) = jd3 → (∀ jd4 : Int, (jd3 + ((nD n) - (1 : Int))) = jd4 → (SV.i jd4 = SV.i (n))))) (∀ jd5 : Int, (jd2 + ((nD n) - (1 : Int))) = jd5 → (SV.i jd5 = SV.i (n)))))))))) (∀ caitra1 : Int, (30 : Int) = caitra1 → (br (((nM n) : Int) == (1 : Int)) (∀ jd6 : Int, (start0 + ((nD n) - (1 : Int))) = jd6 → (SV.i jd6 = SV.i (n))) (∀ jd7 : Int, (start0 + caitra1) = jd7 → (∀ m3 : Int, ((nM n) - (2 : Int)) = m3 → (∀ m4 : Int, (if (5 : Int) < m3 then (5 : Int) else m3) = m4 → (∀ jd8 : Int, (jd7 + (m4 * (31 : Int))) = jd8 → (br (decide ((8 : Int) ≤ ((nM n) : Int))) (∀ m5 : Int, ((nM n) - (7 : Int)) = m5 → (∀ jd9 : Int, (jd8 + (m5 * (30 : Int))) = jd9 → (∀ jd10 : Int, (jd9 + ((nD n) - (1 : Int))) = jd10 → (SV.i jd10 = SV.i (n))))) (∀ jd11 : Int, (jd8 + ((nD n) - (1 : Int))) = jd11 → (SV.i jd11 = SV.i (n))))))))))))))) (by kernel_rfl!) ?_
  repeat' (first | assumption | (refine br_of ?_ ?_) | (refine And.intro ?_ ?_) | intro _)
  all_goals ((try subst_vars); (try simp only [decide_eq_true_eq, decide_eq_false_iff_not, beq_iff_eq, bne_iff_ne, ne_eq, beq_eq_false_iff_ne, bne_eq_false_iff_eq, Bool.not_true, Bool.not_false, Bool.not_eq_true', Bool.not_eq_false', reduceCtorEq] at *))
  all_goals first
    | (exact (ind_pre _ 0).1)
    | (exact (ind_pre _ _).2)
    | (with_reducible refine sv1 ?_; first | exact n_to1 (by assumption) | exact n_to3 (by assumption) (by assumption) (by first | exact lp_t (by assumption) | exact lp_f (by assumption)) | exact n_to4 (by assumption) (by assumption) (by first | exact lp_t (by assumption) | exact lp_f (by assumption)))
    | contradiction
    | (simp; done)

theorem k_to_jd_indian {w : World} : KOK w F_to_jd_indian 198 12 :=
  fnI3 (o := O198) (ps := [Str.ofString "year", Str.ofString "month", Str.ofString "day"]) (df := []) (dv := []) ⟨by kernel_rfl!, by kernel_rfl!, rfl⟩ trivial (fun a b c s X => BindsTo.of_eq rfl) (ook_cons k_isleap (ook_cons k_to_jd_gregorian ook_nil)) (at3 (l_to_jd_indian w))
noncomputable def F_from_jd_indian : Fun := I1 fun n P => P (SV.t [(nY n), (nM n), (nD n)])
set_option maxHeartbeats 400000 in
theorem l_from_jd_indian (w : World) (n : Int) : WS w O205 [(21, F_isleap), (43, F_to_jd_gregorian), (50, F_from_jd_gregorian)] [(Str.ofString "jd", .i n)] (SV.t [(nY n), (nM n), (nD n)]) := by
  refine by_word ((∀ start0 : Int, (80 : Int) = start0 → (∀ gyear0 : Int, (gY n) = gyear0 → (∀ u0 : Int, (gM n) = u0 → (∀ u1 : Int, (gD n) = u1 → (∀ year0 : Int, (gyear0 - (78 : Int)) = year0 → ((1 ≤ (1 : Int) ∧ (1 : Int) ≤ gLen gyear0 (1 : Int)) ∧ (∀ greg00 : Int, (gJd gyear0 (1 : Int) (1 : Int)) = greg00 → (∀ yday0 : Int, (n - greg00) = yday0 → (br (leapB gyear0) (∀ caitra0 : Int, (31 : Int) = caitra0 → (br (decide ((yday0 : Int) < start0)) (∀ year1 : Int, (year0 - (1 : Int)) = year1 → (∀ yday1 : Int, (yday0 + ((((caitra0 + ((31 : Int) * (5 : Int))) + ((30 : Int) * (3 : Int))) + (10 : Int)) + start0)) = yday1 → (∀ yday2 : Int, (yday1 - start0) = yday2 → (br (decide ((yday2 : Int) < caitra0)) (∀ month0 : Int, (1 : Int) = month0 → (∀ day0 : Int, (yday2 + (1 : Int)) = day0 → (SV.t [year1, month0, day0] = SV.t [(nY n), (nM n), (nD n)]))) (∀ mday0 : Int, (yday2 - caitra0) = mday0 → (br (decide ((mday0 : Int) < ((31 : Int) * (5 : Int)))) (∀ month1 : Int, ((mday0 / (31 : Int)) + (2 : Int)) = month1 → (∀ day1 : Int, ((mday0 % (31 : Int)) + (1 : Int)) = day1 → (SV.t [year1, month1, day1] = SV.t [(nY n), (nM n), (nD n)]))) (∀ mday1 : Int, (mday0 - ((31 : Int) * (5 : Int))) = mday1 → (∀ month2 : Int, ((mday1 / (30 : Int)) + (7 : Int)) = month2 → (∀ day2 : Int, ((mday1 % (30 : Int)) + (1 : Int)) = day2 → (SV.t [year1, month2, day2] = SV.t [(nY n), (nM n), (nD n)])))))))))) (∀ yday3 : Int, (yday0 - start0) = yday3 → (br (decide ((yday3 : Int) < caitra0)) (∀ month3 : Int, (1 : Int) = month3 → (∀ day3 : Int, (yday3 + (1 : Int)) = day3 → (SV.t [year0, month3, day3] = SV.t [(nY n), (nM n), (nD n)]))) (∀ mday2 : Int, (yday3 - caitra0) = mday2 → (br (decide ((mday2 : Int) < ((31 : Int) * (5 : Int)))) (∀ month4 : Int, ((mday2 / (31 : Int)) + (2 : Int)) = month4 → (∀ day4 : Int, ((mday2 % (31 : Int)) + (1 : Int)) = day4 → (SV.t [year0, month4, day4] = SV.t [(nY n), (nM n), (nD n)]))) (∀ mday3 : Int, (mday2 - ((31 : Int) * (5 : Int))) = mday3 → (∀ month5 : Int, ((mday3 / (30 : Int)) + (7 : Int)) = month5 → (∀ day5 : Int, ((mday3 % (30 : Int)) + (1 : Int)) = day5 → (SV.t [year0, month5, day5] = SV.t [(nY n), (nM n), (nD n)])))))))))) (∀ caitra1 : Int, (30 : Int) = caitra1 → (br (decide ((yday0 : Int) < start0)) (∀ year2 : Int, (year0 - (1 : Int)) = year2 → (∀ yday4 : Int, (yday0 + ((((caitra1 + ((31 : Int) * (5 : Int))) + ((30 : Int) * (3 : Int))) + (10 : Int)) + start0)) = yday4 → (∀ yday5 : Int, (yday4 - start0) = yday5 → (br (decide ((yday5 : Int) < caitra1)) (∀ month6 : Int, (1 : Int) = month6 → (∀ day6 : Int, (yday5 + (1 : Int)) = day6 → (SV.t [year2, month6, day6] = SV.t [(nY n), (nM n), (nD n)]))) (∀ mday4 : Int, (yday5 - caitra1) = mday4 → (br (decide ((mday4 : Int) < ((31 : Int) * (5 : Int)))) (∀ month7 : Int, ((mday4 / (31 : Int)) + (2 : Int)) = month7 → (∀ day7 : Int, ((mday4 % (31 : Int)) + (1 : Int)) = day7 → (SV.t [year2, month7, day7] = SV.t [(nY n), (nM n), (nD n)]))) (∀ mday5 : Int, (mday4 - ((31 : Int) * (5 : Int))) = mday5 → (∀ month8 : Int, ((mday5 / (30 : Int)) + (7 : Int)) = month8 → (∀ day8 : Int, ((mday5 % (30 : Int)) + (1 : Int)) = day8 → (SV.t [year2, month8, day8] = SV.t [(nY n), (nM n), (nD n)])))))))))) (∀ yday6 : Int, (yday0 - start0) = yday6 → (br (decide ((yday6 : Int) < caitra1)) (∀ month9 : Int, (1 : Int) = month9 → (∀ day9 : Int, (yday6 + (1 : Int)) = day9 → (SV.t [year0, month9, day9] = SV.t [(nY n), (nM n), (nD n)]))) (∀ mday6 : Int, (yday6 - caitra1) = mday6 → (br (decide ((mday6 : Int) < ((31 : Int) * (5 : Int)))) (∀ month10 : Int, ((mday6 / (31 : Int)) + (2 : Int)) = month10 → (∀ day10 : Int, ((mday6 % (31 : Int)) + (1 : Int)) = day10 → (SV.t [year0, month10, day10] = SV.t [(nY n), (nM n), (nD n)]))) (∀ mday7 : Int, (mday6 - ((31 : Int) * (5 : Int))) = mday7 → (∀ month11 : Int, ((mday7 / (30 : Int)) + (7 : Int)) = month11 → (∀ day11 : Int, ((mday7 % (30 : Int)) + (1 : Int)) = day11 → (SV.t [year0, month11, day11] = SV.t [(nY n), (nM n), (nD n)])))))))))))))))))))) (by kernel_rfl!) ?_
  repeat' (first | assumption | (refine br_of ?_ ?_) | (refine And.intro ?_ ?_) | intro _)
  all_goals (skip; (try simp only [decide_eq_true_eq, decide_eq_false_iff_not, beq_iff_eq, bne_iff_ne, ne_eq, beq_eq_false_iff_ne, bne_eq_false_iff_eq, Bool.not_true, Bool.not_false, Bool.not_eq_true', Bool.not_eq_false', reduceCtorEq] at *))
  all_goals first
    | (exact Int.le_refl 1)
    | (exact gLen_pos _ _)
    | (exfalso; have h0 := n_pos (n := n) (by assumption) (by assumption) (by assumption); omega)
    | (exact sv3 (n_fin1 (by assumption) (by assumption) (by assumption) (by assumption) (by assumption) (by assumption) (by assumption) (by assumption) (by assumption) (by assumption) (by assumption) (by assumption) (by assumption)))
    | (exact sv3 (n_finA (by assumption) (by assumption) (by assumption) (by assumption) (by assumption) (by assumption) (by assumption) (by first | exact nc_t (by assumption) (by assumption) | exact nc_f (by assumption) (by assumption)) (by assumption) (by assumption) (by assumption)))
    | (exact sv3 (n_finB (by assumption) (by assumption) (by assumption) (by assumption) (by assumption) (by assumption) (by assumption) (by first | exact nc_t (by assumption) (by assumption) | exact nc_f (by assumption) (by assumption)) (by assumption) (by assumption) (by assumption) (by assumption) (by assumption)))
    | (exact sv3 (n_finC (by assumption) (by assumption) (by assumption) (by assumption) (by assumption) (by assumption) (by assumption) (by first | exact nc_t (by assumption) (by assumption) | exact nc_f (by assumption) (by assumption)) (by assumption) (by assumption) (by assumption) (by assumption) (by assumption) (by assumption)))
    | contradiction
    | (simp; done)

theorem k_from_jd_indian {w : World} : KOK w F_from_jd_indian 205 13 :=
  fnI1 (o := O205) (ps := [Str.ofString "jd"]) (df := []) (dv := []) ⟨by kernel_rfl!, by kernel_rfl!, rfl⟩ trivial (fun a s X => BindsTo.of_eq rfl) (ook_cons k_isleap (ook_cons k_to_jd_gregorian (ook_cons k_from_jd_gregorian ook_nil))) (pl1 (l_from_jd_indian w))
noncomputable def F_to_gregorian_indian : Fun := I3 fun y m d P => ∃ n : Int, (y = nY n ∧ m = nM n ∧ d = nD n) ∧ P (SV.t [(gY n), (gM n), (gD n)])
set_option maxHeartbeats 400000 in
theorem l_to_gregorian_indian (w : World) (n : Int) : WS w O219 [(198, F_to_jd_indian), (50, F_from_jd_gregorian)] [(Str.ofString "year", .i (nY n)), (Str.ofString "month", .i (nM n)), (Str.ofString "day", .i (nD n))] (SV.t [(gY n), (gM n), (gD n)]) := by
  refine by_word ((∃ n0 : Int, ((nY n) = nY n0 ∧ (nM n) = nM n0 ∧ (nD n) = nD n0) ∧ (SV.t [(gY (n0)), (gM (n0)), (gD (n0))] = SV.t [(gY n), (gM n), (gD n)]))) (by kernel_rfl!) ?_
  repeat' (first | assumption | rfl | (refine br_of ?_ ?_) | (refine And.intro ?_ ?_) | (refine Exists.intro n ?_) | (intro x h; subst h) | intro _)
theorem k_to_gregorian_indian {w : World} : KOK w F_to_gregorian_indian 219 13 :=
  fnI3 (o := O219) (ps := [Str.ofString "year", Str.ofString "month", Str.ofString "day"]) (df := []) (dv := []) ⟨by kernel_rfl!, by kernel_rfl!, rfl⟩ trivial (fun a b c s X => BindsTo.of_eq rfl) (ook_cons k_to_jd_indian (ook_cons k_from_jd_gregorian ook_nil)) (at3 (l_to_gregorian_indian w))
noncomputable def F_from_gregorian_indian : Fun := I3 fun y m d P => ∃ n : Int, (y = gY n ∧ m = gM n ∧ d = gD n) ∧ P (SV.t [(nY n), (nM n), (nD n)])
set_option maxHeartbeats 400000 in
theorem l_from_gregorian_indian (w : World) (n : Int) : WS w O212 [(43, F_to_jd_gregorian_at), (205, F_from_jd_indian)] [(Str.ofString "year", .i (gY n)), (Str.ofString "month", .i (gM n)), (Str.ofString "day", .i (gD n))] (SV.t [(nY n), (nM n), (nD n)]) := by
  refine by_word ((∃ n0 : Int, ((gY n) = gY n0 ∧ (gM n) = gM n0 ∧ (gD n) = gD n0) ∧ (SV.t [(nY (n0)), (nM (n0)), (nD (n0))] = SV.t [(nY n), (nM n), (nD n)]))) (by kernel_rfl!) ?_
  repeat' (first | assumption | rfl | (refine br_of ?_ ?_) | (refine And.intro ?_ ?_) | (refine Exists.intro n ?_) | (intro x h; subst h) | intro _)
theorem k_from_gregorian_indian {w : World} : KOK w F_from_gregorian_indian 212 14 :=
  fnI3 (o := O212) (ps := [Str.ofString "year", Str.ofString "month", Str.ofString "day"]) (df := []) (dv := []) ⟨by kernel_rfl!, by kernel_rfl!, rfl⟩ trivial (fun a b c s X => BindsTo.of_eq rfl) (ook_cons k_to_jd_gregorian_at (ook_cons k_from_jd_indian ook_nil)) (at3 (l_from_gregorian_indian w))
noncomputable def F_to_jd_islamic : Fun := I3 fun y m d P => P (SV.i (iJd y m d))
set_option maxHeartbeats 400000 in
theorem l_to_jd_islamic (w : World) (y : Int) (m : Int) (d : Int) : WS w O226 [] [(Str.ofString "year", .i y), (Str.ofString "month", .i m), (Str.ofString "day", .i d)] (SV.i (iJd y m d)) := by
  refine by_word ((SV.i (((((d + (-(((-(59 : Int)) * (m - (1 : Int))) / (2 : Int)))) + ((y - (1 : Int)) * (354 : Int))) + (((3 : Int) + ((11 : Int) * y)) / (30 : Int))) + (1948440 : Int)) - (1 : Int)) = SV.i (iJd y m d))) (by kernel_rfl!) ?_
  repeat' (first | assumption | (refine br_of ?_ ?_) | (refine And.intro ?_ ?_) | intro _)
  all_goals ((try subst_vars); (try simp only [decide_eq_true_eq, decide_eq_false_iff_not, beq_iff_eq, bne_iff_ne, ne_eq, beq_eq_false_iff_ne, bne_eq_false_iff_eq, Bool.not_true, Bool.not_false, Bool.not_eq_true', Bool.not_eq_false', reduceCtorEq] at *))
  all_goals first
    | (refine sv1 ?_; unfold iJd; omega)
    | contradiction
    | (simp; done)

theorem k_to_jd_islamic {w : World} : KOK w F_to_jd_islamic 226 9 :=
  fnI3 (o := O226) (ps := [Str.ofString "year", Str.ofString "month", Str.ofString "day"]) (df := []) (dv := []) ⟨by kernel_rfl!, by kernel_rfl!, rfl⟩ trivial (fun a b c s X => BindsTo.of_eq rfl) ook_nil (pl3 (l_to_jd_islamic w))
noncomputable def F_to_jd_islamic_at : Fun := I3 fun y m d P => ∃ n : Int, (y = iY n ∧ m = iM n ∧ d = iD n) ∧ P (SV.i (n))
theorem k_to_jd_islamic_at {w : World} : KOK w F_to_jd_islamic_at 226 9 := by
  intro prog p loose mean mg mb
  intro args P h
  obtain ⟨y, m, d, rfl, n, ⟨rfl, rfl, rfl⟩, hv⟩ := I3_of h
  refine k_to_jd_islamic _ P ?_
  exact (congrArg (fun z => P (.i z)) (i_spec n)).mpr hv
noncomputable def F_from_jd_islamic : Fun := I1 fun n P => P (SV.t [(iY n), (iM n), (iD n)])
set_option maxHeartbeats 400000 in
theorem l_from_jd_islamic (w : World) (n : Int) : WS w O233 [(226, F_to_jd_islamic)] [(Str.ofString "jd", .i n)] (SV.t [(iY n), (iM n), (iD n)]) := by
  refine by_word ((∀ year0 : Int, ((((30 : Int) * (n - (1948440 : Int))) + (10646 : Int)) / (10631 : Int)) = year0 → (∀ month0 : Int, (if ((-(((-(2 : Int)) * (n - ((29 : Int) + (iJd year0 (1 : Int) (1 : Int))))) / (59 : Int))) + (1 : Int)) < (12 : Int) then ((-(((-(2 : Int)) * (n - ((29 : Int) + (iJd year0 (1 : Int) (1 : Int))))) / (59 : Int))) + (1 : Int)) else (12 : Int)) = month0 → (∀ day0 : Int, ((n - (iJd year0 month0 (1 : Int))) + (1 : Int)) = day0 → (SV.t [year0, month0, day0] = SV.t [(iY n), (iM n), (iD n)]))))) (by kernel_rfl!) ?_
  repeat' (first | assumption | (refine br_of ?_ ?_) | (refine And.intro ?_ ?_) | intro _)
  all_goals ((try subst_vars); (try simp only [decide_eq_true_eq, decide_eq_false_iff_not, beq_iff_eq, bne_iff_ne, ne_eq, beq_eq_false_iff_ne, bne_eq_false_iff_eq, Bool.not_true, Bool.not_false, Bool.not_eq_true', Bool.not_eq_false', reduceCtorEq] at *))
  all_goals first
    | (exact sv3 (i_from (by rw [iY])))
    | contradiction
    | (simp; done)

theorem k_from_jd_islamic {w : World} : KOK w F_from_jd_islamic 233 10 :=
  fnI1 (o := O233) (ps := [Str.ofString "jd"]) (df := []) (dv := []) ⟨by kernel_rfl!, by kernel_rfl!, rfl⟩ trivial (fun a s X => BindsTo.of_eq rfl) (ook_cons k_to_jd_islamic ook_nil) (pl1 (l_from_jd_islamic w))
noncomputable def F_to_gregorian_islamic : Fun := I3 fun y m d P => ∃ n : Int, (y = iY n ∧ m = iM n ∧ d = iD n) ∧ P (SV.t [(gY n), (gM n), (gD n)])
set_option maxHeartbeats 400000 in
theorem l_to_gregorian_islamic (w : World) (n : Int) : WS w O247 [(226, F_to_jd_islamic_at), (50, F_from_jd_gregorian)] [(Str.ofString "year", .i (iY n)), (Str.ofString "month", .i (iM n)), (Str.ofString "day", .i (iD n))] (SV.t [(gY n), (gM n), (gD n)]) := by
  refine by_word ((∃ n0 : Int, ((iY n) = iY n0 ∧ (iM n) = iM n0 ∧ (iD n) = iD n0) ∧ (SV.t [(gY (n0)), (gM (n0)), (gD (n0))] = SV.t [(gY n), (gM n), (gD n)]))) (by kernel_rfl!) ?_
  repeat' (first | assumption | rfl | (refine br_of ?_ ?_) | (refine And.intro ?_ ?_) | (refine Exists.intro n ?_) | (intro x h; subst h) | intro _)
theorem k_to_gregorian_islamic {w : World} : KOK w F_to_gregorian_islamic 247 13 :=
  fnI3 (o := O247) (ps := [Str.ofString "year", Str.ofString "month", Str.ofString "day"]) (df := []) (dv := []) ⟨by kernel_rfl!, by kernel_rfl!, rfl⟩ trivial (fun a b c s X => BindsTo.of_eq rfl) (ook_cons k_to_jd_islamic_at (ook_cons k_from_jd_gregorian ook_nil)) (at3 (l_to_gregorian_islamic w))
noncomputable def F_from_gregorian_islamic : Fun := I3 fun y m d P => ∃ n : Int, (y = gY n ∧ m = gM n ∧ d = gD n) ∧ P (SV.t [(iY n), (iM n), (iD n)])
set_option maxHeartbeats 400000 in
theorem l_from_gregorian_islamic (w : World) (n : Int) : WS w O240 [(43, F_to_jd_gregorian_at), (233, F_from_jd_islamic)] [(Str.ofString "year", .i (gY n)), (Str.ofString "month", .i (gM n)), (Str.ofString "day", .i (gD n))] (SV.t [(iY n), (iM n), (iD n)]) := by
  refine by_word ((∃ n0 : Int, ((gY n) = gY n0 ∧ (gM n) = gM n0 ∧ (gD n) = gD n0) ∧ (SV.t [(iY (n0)), (iM (n0)), (iD (n0))] = SV.t [(iY n), (iM n), (iD n)]))) (by kernel_rfl!) ?_
  repeat' (first | assumption | rfl | (refine br_of ?_ ?_) | (refine And.intro ?_ ?_) | (refine Exists.intro n ?_) | (intro x h; subst h) | intro _)
theorem k_from_gregorian_islamic {w : World} : KOK w F_from_gregorian_islamic 240 12 :=
  fnI3 (o := O240) (ps := [Str.ofString "year", Str.ofString "month", Str.ofString "day"]) (df := []) (dv := []) ⟨by kernel_rfl!, by kernel_rfl!, rfl⟩ trivial (fun a b c s X => BindsTo.of_eq rfl) (ook_cons k_to_jd_gregorian_at (ook_cons k_from_jd_islamic ook_nil)) (at3 (l_from_gregorian_islamic w))
noncomputable def F_to_jd_mayan : Fun := I5 fun a b c d e P => ∃ n : Int, (a = m1 n ∧ b = m2 n ∧ c = m3 n ∧ d = m4 n ∧ e = m5 n) ∧ P (SV.i (n))
set_option maxHeartbeats 400000 in
theorem l_to_jd_mayan (w : World) (n : Int) : WS w O254 [] [(Str.ofString "baktun", .i (m1 n)), (Str.ofString "katun", .i (m2 n)), (Str.ofString "tun", .i (m3 n)), (Str.ofString "uinal", .i (m4 n)), (Str.ofString "kin", .i (m5 n))] (SV.i (n)) := by
  refine by_word ((SV.i ((((((584283 : Int) + ((m1 n) * (144000 : Int))) + ((m2 n) * (7200 : Int))) + ((m3 n) * (360 : Int))) + ((m4 n) * (20 : Int))) + (m5 n)) = SV.i (n))) (by kernel_rfl!) ?_
  repeat' (first | assumption | (refine br_of ?_ ?_) | (refine And.intro ?_ ?_) | intro _)
  all_goals ((try subst_vars); (try simp only [decide_eq_true_eq, decide_eq_false_iff_not, beq_iff_eq, bne_iff_ne, ne_eq, beq_eq_false_iff_ne, bne_eq_false_iff_eq, Bool.not_true, Bool.not_false, Bool.not_eq_true', Bool.not_eq_false', reduceCtorEq] at *))
  all_goals first
    | (exact sv1 (m_jd _))
    | contradiction
    | (simp; done)

theorem k_to_jd_mayan {w : World} : KOK w F_to_jd_mayan 254 9 :=
  fnI5 (o := O254) (ps := [Str.ofString "baktun", Str.ofString "katun", Str.ofString "tun", Str.ofString "uinal", Str.ofString "kin"]) (df := []) (dv := []) ⟨by kernel_rfl!, by kernel_rfl!, rfl⟩ trivial (fun a b c d e s X => BindsTo.of_eq rfl) ook_nil (at5 (l_to_jd_mayan w))
noncomputable def F_from_jd_mayan : Fun := I1 fun n P => (584283 ≤ n) ∧ P (SV.t [(m1 n), (m2 n), (m3 n), (m4 n), (m5 n)])
set_option maxHeartbeats 400000 in
theorem l_from_jd_mayan (w : World) (n : Int) (hp : 584283 ≤ n) : WS w O261 [] [(Str.ofString "jd", .i n)] (SV.t [(m1 n), (m2 n), (m3 n), (m4 n), (m5 n)]) := by
  refine by_word ((∀ d0 : Int, (n - (584283 : Int)) = d0 → (br (decide ((d0 : Int) < (0 : Int))) False (∀ baktun0 : Int, (d0 / (144000 : Int)) = baktun0 → (∀ d1 : Int, (d0 % (144000 : Int)) = d1 → (∀ katun0 : Int, (d1 / (7200 : Int)) = katun0 → (∀ d2 : Int, (d1 % (7200 : Int)) = d2 → (∀ tun0 : Int, (d2 / (360 : Int)) = tun0 → (∀ d3 : Int, (d2 % (360 : Int)) = d3 → (∀ uinal0 : Int, (d3 / (20 : Int)) = uinal0 → (∀ kin0 : Int, (d3 % (20 : Int)) = kin0 → (SV.t [baktun0, katun0, tun0, uinal0, kin0] = SV.t [(m1 n), (m2 n), (m3 n), (m4 n), (m5 n)])))))))))))) (by kernel_rfl!) ?_
  repeat' (first | assumption | (refine br_of ?_ ?_) | (refine And.intro ?_ ?_) | intro _)
  all_goals (skip; (try simp only [decide_eq_true_eq, decide_eq_false_iff_not, beq_iff_eq, bne_iff_ne, ne_eq, beq_eq_false_iff_ne, bne_eq_false_iff_eq, Bool.not_true, Bool.not_false, Bool.not_eq_true', Bool.not_eq_false', reduceCtorEq] at *))
  all_goals first
    | (exfalso; omega)
    | (exact sv5 (m_from (by assumption) (by assumption) (by assumption) (by assumption) (by assumption) (by assumption) (by assumption) (by assumption) (by assumption)))
    | contradiction
    | (simp; done)

theorem k_from_jd_mayan {w : World} : KOK w F_from_jd_mayan 261 9 :=
  fnI1 (o := O261) (ps := [Str.ofString "jd"]) (df := []) (dv := []) ⟨by kernel_rfl!, by kernel_rfl!, rfl⟩ trivial (fun a s X => BindsTo.of_eq rfl) ook_nil (pp1 (l_from_jd_mayan w))
noncomputable def F_to_gregorian_mayan : Fun := I5 fun a b c d e P => ∃ n : Int, (a = m1 n ∧ b = m2 n ∧ c = m3 n ∧ d = m4 n ∧ e = m5 n) ∧ P (SV.t [(gY n), (gM n), (gD n)])
set_option maxHeartbeats 400000 in
theorem l_to_gregorian_mayan (w : World) (n : Int) : WS w O268 [(254, F_to_jd_mayan), (50, F_from_jd_gregorian)] [(Str.ofString "baktun", .i (m1 n)), (Str.ofString "katun", .i (m2 n)), (Str.ofString "tun", .i (m3 n)), (Str.ofString "uinal", .i (m4 n)), (Str.ofString "kin", .i (m5 n))] (SV.t [(gY n), (gM n), (gD n)]) := by
  refine by_word ((∃ n0 : Int, ((m1 n) = m1 n0 ∧ (m2 n) = m2 n0 ∧ (m3 n) = m3 n0 ∧ (m4 n) = m4 n0 ∧ (m5 n) = m5 n0) ∧ (∀ jd0 : Int, (n0) = jd0 → (SV.t [(gY jd0), (gM jd0), (gD jd0)] = SV.t [(gY n), (gM n), (gD n)])))) (by kernel_rfl!) ?_
  repeat' (first | assumption | rfl | (refine br_of ?_ ?_) | (refine And.intro ?_ ?_) | (refine Exists.intro n ?_) | (intro x h; subst h) | intro _)
theorem k_to_gregorian_mayan {w : World} : KOK w F_to_gregorian_mayan 268 13 :=
  fnI5 (o := O268) (ps := [Str.ofString "baktun", Str.ofString "katun", Str.ofString "tun", Str.ofString "uinal", Str.ofString "kin"]) (df := []) (dv := []) ⟨by kernel_rfl!, by kernel_rfl!, rfl⟩ trivial (fun a b c d e s X => BindsTo.of_eq rfl) (ook_cons k_to_jd_mayan (ook_cons k_from_jd_gregorian ook_nil)) (at5 (l_to_gregorian_mayan w))
noncomputable def F_from_gregorian_mayan : Fun := I3 fun y m d P => ∃ n : Int, (y = gY n ∧ m = gM n ∧ d = gD n) ∧ (584283 ≤ n) ∧ P (SV.t [(m1 n), (m2 n), (m3 n), (m4 n), (m5 n)])
set_option maxHeartbeats 400000 in
theorem l_from_gregorian_mayan (w : World) (n : Int) (hp : 584283 ≤ n) : WS w O275 [(43, F_to_jd_gregorian_at), (261, F_from_jd_mayan)] [(Str.ofString "year", .i (gY n)), (Str.ofString "month", .i (gM n)), (Str.ofString "day", .i (gD n))] (SV.t [(m1 n), (m2 n), (m3 n), (m4 n), (m5 n)]) := by
  refine by_word ((∃ n0 : Int, ((gY n) = gY n0 ∧ (gM n) = gM n0 ∧ (gD n) = gD n0) ∧ (∀ jd0 : Int, (n0) = jd0 → ((584283 ≤ jd0) ∧ (SV.t [(m1 jd0), (m2 jd0), (m3 jd0), (m4 jd0), (m5 jd0)] = SV.t [(m1 n), (m2 n), (m3 n), (m4 n), (m5 n)]))))) (by kernel_rfl!) ?_
  repeat' (first | assumption | rfl | (refine br_of ?_ ?_) | (refine And.intro ?_ ?_) | (refine Exists.intro n ?_) | (intro x h; subst h) | intro _)
theorem k_from_gregorian_mayan {w : World} : KOK w F_from_gregorian_mayan 275 12 :=
  fnI3 (o := O275) (ps := [Str.ofString "year", Str.ofString "month", Str.ofString "day"]) (df := []) (dv := []) ⟨by kernel_rfl!, by kernel_rfl!, rfl⟩ trivial (fun a b c s X => BindsTo.of_eq rfl) (ook_cons k_to_jd_gregorian_at (ook_cons k_from_jd_mayan ook_nil)) (ap3 (l_from_gregorian_mayan w))
noncomputable def F_to_jd_ordinal : Fun := I2 fun y d P => ∃ n : Int, (y = gY n ∧ d = oD n) ∧ P (SV.i (n))
set_option maxHeartbeats 400000 in
theorem l_to_jd_ordinal (w : World) (n : Int) : WS w O282 [(43, F_to_jd_gregorian)] [(Str.ofString "year", .i (gY n)), (Str.ofString "dayofyear", .i (oD n))] (SV.i (n)) := by
  refine by_word (((1 ≤ (1 : Int) ∧ (1 : Int) ≤ gLen (gY n) (1 : Int)) ∧ (SV.i (((gJd (gY n) (1 : Int) (1 : Int)) + (oD n)) - (1 : Int)) = SV.i (n)))) (by kernel_rfl!) ?_
  repeat' (first | assumption | (refine br_of ?_ ?_) | (refine And.intro ?_ ?_) | intro _)
  all_goals ((try subst_vars); (try simp only [decide_eq_true_eq, decide_eq_false_iff_not, beq_iff_eq, bne_iff_ne, ne_eq, beq_eq_false_iff_ne, bne_eq_false_iff_eq, Bool.not_true, Bool.not_false, Bool.not_eq_true', Bool.not_eq_false', reduceCtorEq] at *))
  all_goals first
    | (exact Int.le_refl 1)
    | (exact gLen_pos _ _)
    | (refine sv1 ?_; rw [gJd_11, oD_eq]; omega)
    | contradiction
    | (simp; done)

theorem k_to_jd_ordinal {w : World} : KOK w F_to_jd_ordinal 282 12 :=
  fnI2 (o := O282) (ps := [Str.ofString "year", Str.ofString "dayofyear"]) (df := []) (dv := []) ⟨by kernel_rfl!, by kernel_rfl!, rfl⟩ trivial (fun a b s X => BindsTo.of_eq rfl) (ook_cons k_to_jd_gregorian ook_nil) (at2 (l_to_jd_ordinal w))
noncomputable def F_from_jd_ordinal : Fun := I1 fun n P => P (SV.t [(gY n), (oD n)])
set_option maxHeartbeats 400000 in
theorem l_from_jd_ordinal (w : World) (n : Int) : WS w O289 [(43, F_to_jd_gregorian), (50, F_from_jd_gregorian)] [(Str.ofString "jd", .i n)] (SV.t [(gY n), (oD n)]) := by
  refine by_word ((∀ year0 : Int, (gY n) = year0 → (∀ month0 : Int, (gM n) = month0 → (∀ day0 : Int, (gD n) = day0 → ((1 ≤ day0 ∧ day0 ≤ gLen year0 month0) ∧ ((1 ≤ (1 : Int) ∧ (1 : Int) ≤ gLen year0 (1 : Int)) ∧ (SV.t [year0, (((gJd year0 month0 day0) - (gJd year0 (1 : Int) (1 : Int))) + (1 : Int))] = SV.t [(gY n), (oD n)]))))))) (by kernel_rfl!) ?_
  repeat' (first | assumption | (refine br_of ?_ ?_) | (refine And.intro ?_ ?_) | intro _)
  all_goals ((try subst_vars); (try simp only [decide_eq_true_eq, decide_eq_false_iff_not, beq_iff_eq, bne_iff_ne, ne_eq, beq_eq_false_iff_ne, bne_eq_false_iff_eq, Bool.not_true, Bool.not_false, Bool.not_eq_true', Bool.not_eq_false', reduceCtorEq] at *))
  all_goals first
    | (exact Int.le_refl 1)
    | (exact gLen_pos _ _)
    | (exact (g_spec n).2.1.1)
    | (exact (g_spec n).2.1.2)
    | (refine sv2 ⟨rfl, ?_⟩; rw [(g_spec n).2.2, gJd_11, oD_eq])
    | contradiction
    | (simp; done)

theorem k_from_jd_ordinal {w : World} : KOK w F_from_jd_ordinal 289 13 :=
  fnI1 (o := O289) (ps := [Str.ofString "jd"]) (df := []) (dv := []) ⟨by kernel_rfl!, by kernel_rfl!, rfl⟩ trivial (fun a s X => BindsTo.of_eq rfl) (ook_cons k_to_jd_gregorian (ook_cons k_from_jd_gregorian ook_nil)) (pl1 (l_from_jd_ordinal w))
noncomputable def F_from_gregorian_ordinal : Fun := I3 fun y m d P => ((1 ≤ m ∧ m ≤ 12) ∧ 1 ≤ d ∧ d ≤ gLen y m) ∧ P (SV.t [(y), (cum (lp y) m + d)])
set_option maxHeartbeats 400000 in
theorem l_from_gregorian_ordinal (w : World) (y : Int) (m : Int) (d : Int) (hp : (1 ≤ m ∧ m ≤ 12) ∧ 1 ≤ d ∧ d ≤ gLen y m) : WS w O296 [(21, F_isleap), (28, F_trunc)] [(Str.ofString "year", .i y), (Str.ofString "month", .i m), (Str.ofString "day", .i d)] (SV.t [(y), (cum (lp y) m + d)]) := by
  refine by_word ((∀ m0 : Int, (m + (1 : Int)) = m0 → (br (decide ((m0 : Int) ≤ (3 : Int))) (∀ m1 : Int, (m0 + (12 : Int)) = m1 → ((((10 : Int) = 4 ∨ (10 : Int) = 1461 ∨ (10 : Int) = 365 ∨ (10 : Int) = 30 ∨ (10 : Int) = 10 ∨ (10 : Int) = 367) ∧ 0 ≤ ((306 : Int) * m1)) ∧ (∀ t0 : Int, (((((((306 : Int) * m1) / (10 : Int)) + d) - (122 : Int)) + (59 : Int)) + (if (leapB y) = true then 1 else 0)) = t0 → (br (decide (((365 : Int) + (if (leapB y) = true then 1 else 0)) < (t0 : Int))) (∀ t1 : Int, ((t0 - (365 : Int)) - (if (leapB y) = true then 1 else 0)) = t1 → (SV.t [y, t1] = SV.t [(y), (cum (lp y) m + d)])) (SV.t [y, t0] = SV.t [(y), (cum (lp y) m + d)]))))) ((((10 : Int) = 4 ∨ (10 : Int) = 1461 ∨ (10 : Int) = 365 ∨ (10 : Int) = 30 ∨ (10 : Int) = 10 ∨ (10 : Int) = 367) ∧ 0 ≤ ((306 : Int) * m0)) ∧ (∀ t2 : Int, (((((((306 : Int) * m0) / (10 : Int)) + d) - (122 : Int)) + (59 : Int)) + (if (leapB y) = true then 1 else 0)) = t2 → (br (decide (((365 : Int) + (if (leapB y) = true then 1 else 0)) < (t2 : Int))) (∀ t3 : Int, ((t2 - (365 : Int)) - (if (leapB y) = true then 1 else 0)) = t3 → (SV.t [y, t3] = SV.t [(y), (cum (lp y) m + d)])) (SV.t [y, t2] = SV.t [(y), (cum (lp y) m + d)]))))))) (by kernel_rfl!) ?_
  repeat' (first | assumption | (refine br_of ?_ ?_) | (refine And.intro ?_ ?_) | intro _)
  all_goals ((try subst_vars); (try simp only [decide_eq_true_eq, decide_eq_false_iff_not, beq_iff_eq, bne_iff_ne, ne_eq, beq_eq_false_iff_ne, bne_eq_false_iff_eq, Bool.not_true, Bool.not_false, Bool.not_eq_true', Bool.not_eq_false', reduceCtorEq] at *))
  all_goals first
    | (omega)
    | (refine sv2 ⟨rfl, ?_⟩; with_reducible first | exact o_end1 (by assumption) (by assumption) | exact o_end2 (by assumption) (by assumption) (by assumption) | exact o_end3 (by assumption) (by assumption) (by assumption))
    | contradiction
    | (simp; done)

theorem k_from_gregorian_ordinal {w : World} : KOK w F_from_gregorian_ordinal 296 10 :=
  fnI3 (o := O296) (ps := [Str.ofString "year", Str.ofString "month", Str.ofString "day"]) (df := []) (dv := []) ⟨by kernel_rfl!, by kernel_rfl!, rfl⟩ trivial (fun a b c s X => BindsTo.of_eq rfl) (ook_cons k_isleap (ook_cons k_trunc ook_nil)) (pp3 (l_from_gregorian_ordinal w))
noncomputable def F_from_gregorian_ordinal_at : Fun := I3 fun y m d P => ∃ n : Int, (y = gY n ∧ m = gM n ∧ d = gD n) ∧ P (SV.t [(gY n), (oD n)])
theorem k_from_gregorian_ordinal_at {w : World} : KOK w F_from_gregorian_ordinal_at 296 10 := by
  intro prog p loose mean mg mb
  intro args P h
  obtain ⟨y, m, d, rfl, n, ⟨rfl, rfl, rfl⟩, hv⟩ := I3_of h
  refine k_from_gregorian_ordinal _ P ⟨⟨(g_spec n).1, (g_spec n).2.1⟩, ?_⟩
  exact (congrArg (fun z => P (.t [gY n, z])) (o_at n)).mpr hv
noncomputable def F_to_gregorian_ordinal : Fun := I2 fun y d P => ∃ n : Int, (y = gY n ∧ d = oD n) ∧ P (SV.t [(gY n), (gM n), (gD n)])
set_option maxHeartbeats 2000000 in
theorem l_to_gregorian_ordinal (w : World) (n : Int) : WS w O303 [(21, F_isleap), (28, F_trunc), (296, F_from_gregorian_ordinal)] [(Str.ofString "year", .i (gY n)), (Str.ofString "dayofyear", .i (oD n))] (SV.t [(gY n), (gM n), (gD n)]) := by
  refine by_word ((br (decide (((oD n) : Int) < ((59 : Int) + (if (leapB (gY n)) = true then 1 else 0)))) (∀ leap_adj0 : Int, (0 : Int) = leap_adj0 → ((((367 : Int) = 4 ∨ (367 : Int) = 1461 ∨ (367 : Int) = 365 ∨ (367 : Int) = 30 ∨ (367 : Int) = 10 ∨ (367 : Int) = 367) ∧ 0 ≤ (((((oD n) - (1 : Int)) + leap_adj0) * (12 : Int)) + (373 : Int))) ∧ (∀ month0 : Int, ((((((oD n) - (1 : Int)) + leap_adj0) * (12 : Int)) + (373 : Int)) / (367 : Int)) = month0 → (((1 ≤ month0 ∧ month0 ≤ 12) ∧ 1 ≤ (1 : Int) ∧ (1 : Int) ≤ gLen (gY n) month0) ∧ (SV.t [(gY n), month0, (((oD n) - (cum (lp (gY n)) month0 + (1 : Int))) + (1 : Int))] = SV.t [(gY n), (gM n), (gD n)]))))) (br (leapB (gY n)) (∀ leap_adj1 : Int, (1 : Int) = leap_adj1 → ((((367 : Int) = 4 ∨ (367 : Int) = 1461 ∨ (367 : Int) = 365 ∨ (367 : Int) = 30 ∨ (367 : Int) = 10 ∨ (367 : Int) = 367) ∧ 0 ≤ (((((oD n) - (1 : Int)) + leap_adj1) * (12 : Int)) + (373 : Int))) ∧ (∀ month1 : Int, ((((((oD n) - (1 : Int)) + leap_adj1) * (12 : Int)) + (373 : Int)) / (367 : Int)) = month1 → (((1 ≤ month1 ∧ month1 ≤ 12) ∧ 1 ≤ (1 : Int) ∧ (1 : Int) ≤ gLen (gY n) month1) ∧ (SV.t [(gY n), month1, (((oD n) - (cum (lp (gY n)) month1 + (1 : Int))) + (1 : Int))] = SV.t [(gY n), (gM n), (gD n)]))))) (∀ leap_adj2 : Int, (2 : Int) = leap_adj2 → ((((367 : Int) = 4 ∨ (367 : Int) = 1461 ∨ (367 : Int) = 365 ∨ (367 : Int) = 30 ∨ (367 : Int) = 10 ∨ (367 : Int) = 367) ∧ 0 ≤ (((((oD n) - (1 : Int)) + leap_adj2) * (12 : Int)) + (373 : Int))) ∧ (∀ month2 : Int, ((((((oD n) - (1 : Int)) + leap_adj2) * (12 : Int)) + (373 : Int)) / (367 : Int)) = month2 → (((1 ≤ month2 ∧ month2 ≤ 12) ∧ 1 ≤ (1 : Int) ∧ (1 : Int) ≤ gLen (gY n) month2) ∧ (SV.t [(gY n), month2, (((oD n) - (cum (lp (gY n)) month2 + (1 : Int))) + (1 : Int))] = SV.t [(gY n), (gM n), (gD n)])))))))) (by kernel_rfl!) ?_
  repeat' (first | assumption | (refine br_of ?_ ?_) | (refine And.intro ?_ ?_) | intro _)
  all_goals ((try subst_vars); (try simp only [decide_eq_true_eq, decide_eq_false_iff_not, beq_iff_eq, bne_iff_ne, ne_eq, beq_eq_false_iff_ne, bne_eq_false_iff_eq, Bool.not_true, Bool.not_false, Bool.not_eq_true', Bool.not_eq_false', reduceCtorEq] at *))
  all_goals first
    | (exact sv3 (o_to (o_to0 (by assumption))))
    | (exact sv3 (o_to (o_to1 (by assumption) (by assumption))))
    | (exact sv3 (o_to (o_to2 (by assumption) (by assumption))))
    | (exact o_tr (by decide))
    | (exact (o_pre0 (y := 0)).1.1)
    | (exact (o_pre0 (y := 0)).1.2)
    | (exact (o_pre1 (y := 0)).1.1)
    | (exact (o_pre1 (y := 0)).1.2)
    | (exact (o_pre2 (y := 0) (by assumption)).1.1)
    | (exact (o_pre2 (y := 0) (by assumption)).1.2)
    | (exact Int.le_refl 1)
    | (exact gLen_pos _ _)
    | contradiction
    | (simp; done)

theorem k_to_gregorian_ordinal {w : World} : KOK w F_to_gregorian_ordinal 303 11 :=
  fnI2 (o := O303) (ps := [Str.ofString "year", Str.ofString "dayofyear"]) (df := []) (dv := []) ⟨by kernel_rfl!, by kernel_rfl!, rfl⟩ trivial (fun a b s X => BindsTo.of_eq rfl) (ook_cons k_isleap (ook_cons k_trunc (ook_cons k_from_gregorian_ordinal ook_nil))) (at2 (l_to_gregorian_ordinal w))
noncomputable def F_legal_date_positivist : Fun := I3 fun y m d P => (1 ≤ y ∧ (1 ≤ m ∧ m ≤ 14) ∧ (1 ≤ d ∧ d ≤ 28) ∧ (m = 14 → d ≤ 1 + lp (y + 1789 - 1))) ∧ P (SV.b (true))
set_option maxHeartbeats 400000 in
theorem l_legal_date_positivist (w : World) (y : Int) (m : Int) (d : Int) (hp : 1 ≤ y ∧ (1 ≤ m ∧ m ≤ 14) ∧ (1 ≤ d ∧ d ≤ 28) ∧ (m = 14 → d ≤ 1 + lp (y + 1789 - 1))) : WS w O310 [(21, F_isleap)] [(Str.ofString "year", .i y), (Str.ofString "month", .i m), (Str.ofString "day", .i d)] (SV.b (true)) := by
  refine by_word (((decide ((1 : Int) ≤ (y : Int))) = true ∧ (br (decide (((0 : Int) : Int) < m)) ((decide ((m : Int) ≤ (14 : Int))) = true ∧ (br (decide (((0 : Int) : Int) < d)) ((decide ((d : Int) ≤ (28 : Int))) = true ∧ (br ((m : Int) == (14 : Int)) (br (leapB ((y + (1789 : Int)) - (1 : Int))) ((decide ((d : Int) ≤ (2 : Int))) = true ∧ (SV.b true = SV.b (true))) (((d : Int) == (1 : Int)) = true ∧ (SV.b true = SV.b (true)))) (SV.b true = SV.b (true)))) (false = true ∧ (br ((m : Int) == (14 : Int)) (br (leapB ((y + (1789 : Int)) - (1 : Int))) ((decide ((d : Int) ≤ (2 : Int))) = true ∧ (SV.b true = SV.b (true))) (((d : Int) == (1 : Int)) = true ∧ (SV.b true = SV.b (true)))) (SV.b true = SV.b (true)))))) (false = true ∧ (br (decide (((0 : Int) : Int) < d)) ((decide ((d : Int) ≤ (28 : Int))) = true ∧ (br ((m : Int) == (14 : Int)) (br (leapB ((y + (1789 : Int)) - (1 : Int))) ((decide ((d : Int) ≤ (2 : Int))) = true ∧ (SV.b true = SV.b (true))) (((d : Int) == (1 : Int)) = true ∧ (SV.b true = SV.b (true)))) (SV.b true = SV.b (true)))) (false = true ∧ (br ((m : Int) == (14 : Int)) (br (leapB ((y + (1789 : Int)) - (1 : Int))) ((decide ((d : Int) ≤ (2 : Int))) = true ∧ (SV.b true = SV.b (true))) (((d : Int) == (1 : Int)) = true ∧ (SV.b true = SV.b (true)))) (SV.b true = SV.b (true))))))))) (by kernel_rfl!) ?_
  repeat' (first | assumption | (refine br_of ?_ ?_) | (refine And.intro ?_ ?_) | intro _)
  all_goals ((try subst_vars); (try simp only [decide_eq_true_eq, decide_eq_false_iff_not, beq_iff_eq, bne_iff_ne, ne_eq, beq_eq_false_iff_ne, bne_eq_false_iff_eq, Bool.not_true, Bool.not_false, Bool.not_eq_true', Bool.not_eq_false', reduceCtorEq] at *))
  all_goals first
    | (rfl)
    | (omega)
    | (exact p_no1 hp (by assumption) (by assumption))
    | (exact p_no2 hp (by assumption) (by assumption))
    | contradiction
    | (simp; done)

theorem k_legal_date_positivist {w : World} : KOK w F_legal_date_positivist 310 10 :=
  fnI3 (o := O310) (ps := [Str.ofString "year", Str.ofString "month", Str.ofString "day"]) (df := []) (dv := []) ⟨by kernel_rfl!, by kernel_rfl!, rfl⟩ trivial (fun a b c s X => BindsTo.of_eq rfl) (ook_cons k_isleap ook_nil) (pp3 (l_legal_date_positivist w))
noncomputable def F_to_jd_positivist : Fun := I3 fun y m d P => ∃ n : Int, (y = pY n ∧ m = pM n ∧ d = pD n) ∧ (2374480 ≤ n) ∧ P (SV.i (n))
set_option maxHeartbeats 400000 in
theorem l_to_jd_positivist (w : World) (n : Int) (hp : 2374480 ≤ n) : WS w O317 [(310, F_legal_date_positivist)] [(Str.ofString "year", .i (pY n)), (Str.ofString "month", .i (pM n)), (Str.ofString "day", .i (pD n))] (SV.i (n)) := by
  refine by_word (((1 ≤ (pY n) ∧ (1 ≤ (pM n) ∧ (pM n) ≤ 14) ∧ (1 ≤ (pD n) ∧ (pD n) ≤ 28) ∧ ((pM n) = 14 → (pD n) ≤ 1 + lp ((pY n) + 1789 - 1))) ∧ (∀ gyear0 : Int, (((pY n) + (1789 : Int)) - (1 : Int)) = gyear0 → (SV.i ((((((((1721426 : Int) - (1 : Int)) + ((365 : Int) * (gyear0 - (1 : Int)))) + ((gyear0 - (1 : Int)) / (4 : Int))) + (-((gyear0 - (1 : Int)) / (100 : Int)))) + ((gyear0 - (1 : Int)) / (400 : Int))) + (((pM n) - (1 : Int)) * (28 : Int))) + (pD n)) = SV.i (n))))) (by kernel_rfl!) ?_
  repeat' (first | assumption | exact p_pre hp | (refine br_of ?_ ?_) | (refine And.intro ?_ ?_) | intro _)
  all_goals ((try subst_vars); (try simp only [decide_eq_true_eq, decide_eq_false_iff_not, beq_iff_eq, bne_iff_ne, ne_eq, beq_eq_false_iff_ne, bne_eq_false_iff_eq, Bool.not_true, Bool.not_false, Bool.not_eq_true', Bool.not_eq_false', reduceCtorEq] at *))
  all_goals first
    | (refine sv1 ?_; have q := p_jd n; unfold jan1 at q; omega)
    | contradiction
    | (simp; done)

theorem k_to_jd_positivist {w : World} : KOK w F_to_jd_positivist 317 11 :=
  fnI3 (o := O317) (ps := [Str.ofString "year", Str.ofString "month", Str.ofString "day"]) (df := []) (dv := []) ⟨by kernel_rfl!, by kernel_rfl!, rfl⟩ trivial (fun a b c s X => BindsTo.of_eq rfl) (ook_cons k_legal_date_positivist ook_nil) (ap3 (l_to_jd_positivist w))
noncomputable def F_from_jd_positivist : Fun := I1 fun n P => (2374480 ≤ n ∧ (gY n % 400 ≠ 0 ∨ n - jan1 (gY n) < 365)) ∧ P (SV.t [(pY n), (pM n), (pD n)])
set_option maxHeartbeats 2000000 in
theorem l_from_jd_positivist (w : World) (n : Int) (hp : 2374480 ≤ n ∧ (gY n % 400 ≠ 0 ∨ n - jan1 (gY n) < 365)) : WS w O324 [] [(Str.ofString "jd", .i n)] (SV.t [(pY n), (pM n), (pD n)]) := by
  refine by_word (((decide ((2374480 : Int) ≤ (n : Int))) = true ∧ (∀ depoch0 : Int, (n - (1721426 : Int)) = depoch0 → (∀ quadricent0 : Int, (depoch0 / (146097 : Int)) = quadricent0 → (∀ dqc0 : Int, (depoch0 % (146097 : Int)) = dqc0 → (∀ cent0 : Int, (dqc0 / (36524 : Int)) = cent0 → (∀ dcent0 : Int, (dqc0 % (36524 : Int)) = dcent0 → (∀ quad0 : Int, (dcent0 / (1461 : Int)) = quad0 → (∀ dquad0 : Int, (dcent0 % (1461 : Int)) = dquad0 → (∀ yindex0 : Int, (dquad0 / (365 : Int)) = yindex0 → (∀ year0 : Int, ((((quadricent0 * (400 : Int)) + (cent0 * (100 : Int))) + (quad0 * (4 : Int))) + yindex0) = year0 → (br ((yindex0 : Int) == (4 : Int)) (∀ yearday0 : Int, (365 : Int) = yearday0 → (∀ year1 : Int, (year0 - (1 : Int)) = year1 → (∀ month0 : Int, (yearday0 / (28 : Int)) = month0 → (SV.t [((year1 - (1789 : Int)) + (2 : Int)), (month0 + (1 : Int)), ((yearday0 - (month0 * (28 : Int))) + (1 : Int))] = SV.t [(pY n), (pM n), (pD n)])))) (∀ yearday1 : Int, ((((depoch0 - (quadricent0 * (146097 : Int))) - (cent0 * (36524 : Int))) - (quad0 * (1461 : Int))) - (yindex0 * (365 : Int))) = yearday1 → (∀ month1 : Int, (yearday1 / (28 : Int)) = month1 → (SV.t [((year0 - (1789 : Int)) + (2 : Int)), (month1 + (1 : Int)), ((yearday1 - (month1 * (28 : Int))) + (1 : Int))] = SV.t [(pY n), (pM n), (pD n)]))))))))))))))) (by kernel_rfl!) ?_
  repeat' (first | assumption | (refine br_of ?_ ?_) | (refine And.intro ?_ ?_) | intro _)
  all_goals ((try subst_vars); (try simp only [decide_eq_true_eq, decide_eq_false_iff_not, beq_iff_eq, bne_iff_ne, ne_eq, beq_eq_false_iff_ne, bne_eq_false_iff_eq, Bool.not_true, Bool.not_false, Bool.not_eq_true', Bool.not_eq_false', reduceCtorEq] at *))
  all_goals first
    | (exact sv3 (p_from1 (by assumption)))
    | (exact sv3 (p_from2 (by assumption) (by assumption) rfl))
    | (omega)
    | contradiction
    | (simp; done)

theorem k_from_jd_positivist {w : World} : KOK w F_from_jd_positivist 324 9 :=
  fnI1 (o := O324) (ps := [Str.ofString "jd"]) (df := []) (dv := []) ⟨by kernel_rfl!, by kernel_rfl!, rfl⟩ trivial (fun a s X => BindsTo.of_eq rfl) ook_nil (pp1 (l_from_jd_positivist w))
noncomputable def F_to_gregorian_positivist : Fun := I3 fun y m d P => ∃ n : Int, (y = pY n ∧ m = pM n ∧ d = pD n) ∧ (2374480 ≤ n) ∧ P (SV.t [(gY n), (gM n), (gD n)])
set_option maxHeartbeats 400000 in
theorem l_to_gregorian_positivist (w : World) (n : Int) (hp : 2374480 ≤ n) : WS w O338 [(317, F_to_jd_positivist), (50, F_from_jd_gregorian)] [(Str.ofString "year", .i (pY n)), (Str.ofString "month", .i (pM n)), (Str.ofString "day", .i (pD n))] (SV.t [(gY n), (gM n), (gD n)]) := by
  refine by_word ((∃ n0 : Int, ((pY n) = pY n0 ∧ (pM n) = pM n0 ∧ (pD n) = pD n0) ∧ (2374480 ≤ n0) ∧ (SV.t [(gY (n0)), (gM (n0)), (gD (n0))] = SV.t [(gY n), (gM n), (gD n)]))) (by kernel_rfl!) ?_
  repeat' (first | assumption | rfl | (refine br_of ?_ ?_) | (refine And.intro ?_ ?_) | (refine Exists.intro n ?_) | (intro x h; subst h) | intro _)
theorem k_to_gregorian_positivist {w : World} : KOK w F_to_gregorian_positivist 338 13 :=
  fnI3 (o := O338) (ps := [Str.ofString "year", Str.ofString "month", Str.ofString "day"]) (df := []) (dv := []) ⟨by kernel_rfl!, by kernel_rfl!, rfl⟩ trivial (fun a b c s X => BindsTo.of_eq rfl) (ook_cons k_to_jd_positivist (ook_cons k_from_jd_gregorian ook_nil)) (ap3 (l_to_gregorian_positivist w))
noncomputable def F_from_gregorian_positivist : Fun := I3 fun y m d P => ∃ n : Int, (y = gY n ∧ m = gM n ∧ d = gD n) ∧ (2374480 ≤ n ∧ (gY n % 400 ≠ 0 ∨ n - jan1 (gY n) < 365)) ∧ P (SV.t [(pY n), (pM n), (pD n)])
set_option maxHeartbeats 400000 in
theorem l_from_gregorian_positivist (w : World) (n : Int) (hp : 2374480 ≤ n ∧ (gY n % 400 ≠ 0 ∨ n - jan1 (gY n) < 365)) : WS w O331 [(43, F_to_jd_gregorian_at), (324, F_from_jd_positivist)] [(Str.ofString "year", .i (gY n)), (Str.ofString "month", .i (gM n)), (Str.ofString "day", .i (gD n))] (SV.t [(pY n), (pM n), (pD n)]) := by
  refine by_word ((∃ n0 : Int, ((gY n) = gY n0 ∧ (gM n) = gM n0 ∧ (gD n) = gD n0) ∧ ((2374480 ≤ (n0) ∧ (gY (n0) % 400 ≠ 0 ∨ (n0) - jan1 (gY (n0)) < 365)) ∧ (SV.t [(pY (n0)), (pM (n0)), (pD (n0))] = SV.t [(pY n), (pM n), (pD n)])))) (by kernel_rfl!) ?_
  repeat' (first | assumption | rfl | (refine br_of ?_ ?_) | (refine And.intro ?_ ?_) | (refine Exists.intro n ?_) | (intro x h; subst h) | intro _)
theorem k_from_gregorian_positivist {w : World} : KOK w F_from_gregorian_positivist 331 12 :=
  fnI3 (o := O331) (ps := [Str.ofString "year", Str.ofString "month", Str.ofString "day"]) (df := []) (dv := []) ⟨by kernel_rfl!, by kernel_rfl!, rfl⟩ trivial (fun a b c s X => BindsTo.of_eq rfl) (ook_cons k_to_jd_gregorian_at (ook_cons k_from_jd_positivist ook_nil)) (ap3 (l_from_gregorian_positivist w))
noncomputable def F_law_long : Fun := I1 fun y P => P (SV.b (leapB y))
set_option maxHeartbeats 400000 in
theorem l_law_long (w : World) (y : Int) : WS w O366 [] [(Str.ofString "year", .i y)] (SV.b (leapB y)) := by
  refine by_word ((br (((y % (400 : Int)) : Int) == (0 : Int)) (SV.b true = SV.b (leapB y)) (br (((y % (4 : Int)) : Int) == (0 : Int)) (SV.b (((y % (100 : Int)) : Int) != (0 : Int)) = SV.b (leapB y)) (SV.b false = SV.b (leapB y))))) (by kernel_rfl!) ?_
  repeat' (first | assumption | (refine br_of ?_ ?_) | (refine And.intro ?_ ?_) | intro _)
  all_goals ((try simp only [decide_eq_true_eq, decide_eq_false_iff_not, beq_iff_eq, bne_iff_ne, ne_eq, beq_eq_false_iff_ne, bne_eq_false_iff_eq, Bool.not_true, Bool.not_false, Bool.not_eq_true', Bool.not_eq_false', reduceCtorEq] at *); refine svb ?_; unfold leapB; rw [Bool.eq_iff_iff]; simp only [bne_iff_ne, beq_iff_eq, decide_eq_true_eq, true_iff, iff_true, false_iff, iff_false, Bool.false_eq_true]; omega)
theorem k_law_long {w : World} : KOK w F_law_long 366 9 :=
  fnI1 (o := O366) (ps := [Str.ofString "year"]) (df := []) (dv := []) ⟨by kernel_rfl!, by kernel_rfl!, rfl⟩ trivial (fun a s X => BindsTo.of_eq rfl) ook_nil (pl1 (l_law_long w))
noncomputable def F_law_january : Fun := I1 fun y P => P (SV.i (jan1 y))
set_option maxHeartbeats 400000 in
theorem l_law_january (w : World) (y : Int) : WS w O380 [] [(Str.ofString "year", .i y)] (SV.i (jan1 y)) := by
  refine by_word ((∀ rows0 : Int, ((y - (1 : Int)) / (400 : Int)) = rows0 → (∀ past0 : Int, ((y - (1 : Int)) % (400 : Int)) = past0 → (SV.i (((((1721426 : Int) + ((146097 : Int) * rows0)) + ((365 : Int) * past0)) + (past0 / (4 : Int))) - (past0 / (100 : Int))) = SV.i (jan1 y))))) (by kernel_rfl!) ?_
  repeat' (first | assumption | (refine br_of ?_ ?_) | (refine And.intro ?_ ?_) | intro _)
  all_goals ((try subst_vars); (try simp only [decide_eq_true_eq, decide_eq_false_iff_not, beq_iff_eq, bne_iff_ne, ne_eq, beq_eq_false_iff_ne, bne_eq_false_iff_eq, Bool.not_true, Bool.not_false, Bool.not_eq_true', Bool.not_eq_false', reduceCtorEq] at *))
  all_goals first
    | (exact sv1 (law_jan y))
    | contradiction
    | (simp; done)

theorem k_law_january {w : World} : KOK w F_law_january 380 9 :=
  fnI1 (o := O380) (ps := [Str.ofString "year"]) (df := []) (dv := []) ⟨by kernel_rfl!, by kernel_rfl!, rfl⟩ trivial (fun a s X => BindsTo.of_eq rfl) ook_nil (pl1 (l_law_january w))
noncomputable def F_law_thirties : Fun := I2 fun r y P => P (SV.t [(y), (r / 30 + 1), (r % 30 + 1)])
set_option maxHeartbeats 400000 in
theorem l_law_thirties (w : World) (r : Int) (y : Int) : WS w O401 [] [(Str.ofString "rest", .i r), (Str.ofString "year", .i y)] (SV.t [(y), (r / 30 + 1), (r % 30 + 1)]) := by
  refine by_word ((SV.t [y, ((r / (30 : Int)) + (1 : Int)), ((r % (30 : Int)) + (1 : Int))] = SV.t [(y), (r / 30 + 1), (r % 30 + 1)])) (by kernel_rfl!) ?_
  rfl
theorem k_law_thirties {w : World} : KOK w F_law_thirties 401 9 :=
  fnI2 (o := O401) (ps := [Str.ofString "rest", Str.ofString "year"]) (df := []) (dv := []) ⟨by kernel_rfl!, by kernel_rfl!, rfl⟩ trivial (fun a b s X => BindsTo.of_eq rfl) ook_nil (pl2 (l_law_thirties w))
noncomputable def F_law_sizes : Fun := Ib fun b P => P (SV.l [(31), ((if b = true then 29 else 28)), (31), (30), (31), (30), (31), (31), (30), (31), (30), (31)])
set_option maxHeartbeats 400000 in
theorem l_law_sizes (w : World) (b : Bool) : WS w O373 [] [(Str.ofString "long", .b b)] (SV.l [(31), ((if b = true then 29 else 28)), (31), (30), (31), (30), (31), (31), (30), (31), (30), (31)]) := by
  refine by_word ((br b (SV.l [(31 : Int), (29 : Int), (31 : Int), (30 : Int), (31 : Int), (30 : Int), (31 : Int), (31 : Int), (30 : Int), (31 : Int), (30 : Int), (31 : Int)] = SV.l [(31), ((if b = true then 29 else 28)), (31), (30), (31), (30), (31), (31), (30), (31), (30), (31)]) (SV.l [(31 : Int), (28 : Int), (31 : Int), (30 : Int), (31 : Int), (30 : Int), (31 : Int), (31 : Int), (30 : Int), (31 : Int), (30 : Int), (31 : Int)] = SV.l [(31), ((if b = true then 29 else 28)), (31), (30), (31), (30), (31), (31), (30), (31), (30), (31)]))) (by kernel_rfl!) ?_
  refine br_of ?_ ?_ <;> intro h <;> subst h <;> rfl
theorem k_law_sizes {w : World} : KOK w F_law_sizes 373 9 :=
  fnIb (o := O373) (ps := [Str.ofString "long"]) (df := []) (dv := []) ⟨by kernel_rfl!, by kernel_rfl!, rfl⟩ trivial (fun a s X => BindsTo.of_eq rfl) ook_nil (plb (l_law_sizes w))
noncomputable def F_law_gregorian : Fun := I1 fun n P => P (SV.t [(gY n), (gM n), (gD n)])
set_option maxHeartbeats 2000000 in
theorem l_law_gregorian (w : World) (n : Int) : WS w O359 [(366, F_law_long), (373, F_law_sizes)] [(Str.ofString "jd", .i n)] (SV.t [(gY n), (gM n), (gD n)]) := by
  refine by_word ((∀ rows0 : Int, ((n - (1721426 : Int)) / (146097 : Int)) = rows0 → (∀ rest0 : Int, ((n - (1721426 : Int)) % (146097 : Int)) = rest0 → (∀ year0 : Int, (((400 : Int) * rows0) + (1 : Int)) = year0 → (∃ J0 : List Int → Int → Int → Prop, J0 [] rest0 year0 ∧ (∀ (pre0 : List Int) (k0 rest1 year1 : Int), k0 = (0 : Int) + (pre0.length : Int) → pre0.length < 3 → J0 pre0 rest1 year1 → (br (decide ((36524 : Int) ≤ (rest1 : Int))) (∀ rest3 : Int, (rest1 - (36524 : Int)) = rest3 → (∀ year3 : Int, (year1 + (100 : Int)) = year3 → (J0 (pre0 ++ [k0]) rest3 year3))) (J0 (pre0 ++ [k0]) rest1 year1))) ∧ (∀ (pre1 : List Int) (rest2 year2 : Int), pre1.length = 3 → J0 pre1 rest2 year2 → (∃ J1 : List Int → Int → Int → Prop, J1 [] rest2 year2 ∧ (∀ (pre2 : List Int) (k1 rest4 year4 : Int), k1 = (0 : Int) + (pre2.length : Int) → pre2.length < 24 → J1 pre2 rest4 year4 → (br (decide ((1461 : Int) ≤ (rest4 : Int))) (∀ rest6 : Int, (rest4 - (1461 : Int)) = rest6 → (∀ year6 : Int, (year4 + (4 : Int)) = year6 → (J1 (pre2 ++ [k1]) rest6 year6))) (J1 (pre2 ++ [k1]) rest4 year4))) ∧ (∀ (pre3 : List Int) (rest5 year5 : Int), pre3.length = 24 → J1 pre3 rest5 year5 → (∃ J2 : List Int → Int → Int → Prop, J2 [] rest5 year5 ∧ (∀ (pre4 : List Int) (k2 rest7 year7 : Int), k2 = (0 : Int) + (pre4.length : Int) → pre4.length < 3 → J2 pre4 rest7 year7 → (br (decide ((365 : Int) ≤ (rest7 : Int))) (∀ rest9 : Int, (rest7 - (365 : Int)) = rest9 → (∀ year9 : Int, (year7 + (1 : Int)) = year9 → (J2 (pre4 ++ [k2]) rest9 year9))) (J2 (pre4 ++ [k2]) rest7 year7))) ∧ (∀ (pre5 : List Int) (rest8 year8 : Int), pre5.length = 3 → J2 pre5 rest8 year8 → (∀ month0 : Int, (1 : Int) = month0 → (∃ J3 : List Int → Int → Int → Prop, J3 [] rest8 month0 ∧ (∀ (pre6 post0 : List Int) (size0 rest10 month1 : Int), ([(31), ((if (leapB year8) = true then 29 else 28)), (31), (30), (31), (30), (31), (31), (30), (31), (30), (31)] : List Int) = pre6 ++ size0 :: post0 → J3 pre6 rest10 month1 → (br (decide ((rest10 : Int) < size0)) (SV.t [year8, month1, (rest10 + (1 : Int))] = SV.t [(gY n), (gM n), (gD n)]) (∀ rest12 : Int, (rest10 - size0) = rest12 → (∀ month3 : Int, (month1 + (1 : Int)) = month3 → (J3 (pre6 ++ [size0]) rest12 month3))))) ∧ (∀ (rest11 month2 : Int), J3 ([(31), ((if (leapB year8) = true then 29 else 28)), (31), (30), (31), (30), (31), (31), (30), (31), (30), (31)] : List Int) rest11 month2 → (SV.t [year8, month2, (rest11 + (1 : Int))] = SV.t [(gY n), (gM n), (gD n)])))))))))))))) (by kernel_rfl!) ?_
  all_goals (repeat' (first | assumption | rfl | (refine br_of ?_ ?_) | (with_reducible refine And.intro ?_ ?_) | intro _))
  all_goals (try subst_vars)
  all_goals (try refine Exists.intro (fun p r y => WA n p r y) ?_)
  all_goals (repeat' (first | assumption | rfl | (refine br_of ?_ ?_) | (with_reducible refine And.intro ?_ ?_) | intro _))
  all_goals (try subst_vars)
  all_goals (try refine Exists.intro (fun p r y => WB n p r y) ?_)
  all_goals (repeat' (first | assumption | rfl | (refine br_of ?_ ?_) | (with_reducible refine And.intro ?_ ?_) | intro _))
  all_goals (try subst_vars)
  all_goals (try refine Exists.intro (fun p r y => WC n p r y) ?_)
  all_goals (repeat' (first | assumption | rfl | (refine br_of ?_ ?_) | (with_reducible refine And.intro ?_ ?_) | intro _))
  all_goals (try subst_vars)
  all_goals (try refine mo_intro ?_ ?_)
  all_goals (repeat' (first | assumption | rfl | (refine br_of ?_ ?_) | (with_reducible refine And.intro ?_ ?_) | intro _))
  all_goals (try subst_vars)
  all_goals (try simp only [decide_eq_true_eq, decide_eq_false_iff_not, beq_iff_eq, bne_iff_ne, ne_eq, beq_eq_false_iff_ne, bne_eq_false_iff_eq, Bool.not_true, Bool.not_false, Bool.not_eq_true', Bool.not_eq_false', reduceCtorEq] at *)
  all_goals first
    | (exact WA_start _)
    | (exact WA_yes (by assumption) (by assumption))
    | (exact WA_no (by assumption) (by assumption))
    | (exact WB_start (by assumption) (by omega))
    | (exact WB_yes (by assumption) (by assumption))
    | (exact WB_no (by assumption) (by assumption))
    | (exact WC_start (by assumption) (by omega))
    | (exact WC_yes (by assumption) (by assumption))
    | (exact WC_no (by assumption) (by assumption))
    | (exact WC_pos (by assumption))
    | (exact MO_turn (by assumption) (by assumption))
    | (exact sv3 (g_brk (by assumption) (by omega) (by assumption) (by assumption) (by assumption)))
    | (exact sv3 (g_end (by assumption) (by omega) (by assumption)))

theorem k_law_gregorian {w : World} : KOK w F_law_gregorian 359 10 :=
  fnI1 (o := O359) (ps := [Str.ofString "jd"]) (df := []) (dv := []) ⟨by kernel_rfl!, by kernel_rfl!, rfl⟩ trivial (fun a s X => BindsTo.of_eq rfl) (ook_cons k_law_long (ook_cons k_law_sizes ook_nil)) (pl1 (l_law_gregorian w))
noncomputable def F_law_julian : Fun := I1 fun n P => P (SV.t [(jY n), (jM n), (jD n)])
set_option maxHeartbeats 2000000 in
theorem l_law_julian (w : World) (n : Int) : WS w O387 [(373, F_law_sizes)] [(Str.ofString "jd", .i n)] (SV.t [(jY n), (jM n), (jD n)]) := by
  refine by_word ((∀ rows0 : Int, ((n - (1721424 : Int)) / (1461 : Int)) = rows0 → (∀ rest0 : Int, ((n - (1721424 : Int)) % (1461 : Int)) = rest0 → (∀ year0 : Int, (((4 : Int) * rows0) + (1 : Int)) = year0 → (∃ J0 : List Int → Int → Int → Prop, J0 [] rest0 year0 ∧ (∀ (pre0 : List Int) (k0 rest1 year1 : Int), k0 = (0 : Int) + (pre0.length : Int) → pre0.length < 3 → J0 pre0 rest1 year1 → (br (decide ((365 : Int) ≤ (rest1 : Int))) (∀ rest3 : Int, (rest1 - (365 : Int)) = rest3 → (∀ year3 : Int, (year1 + (1 : Int)) = year3 → (J0 (pre0 ++ [k0]) rest3 year3))) (J0 (pre0 ++ [k0]) rest1 year1))) ∧ (∀ (pre1 : List Int) (rest2 year2 : Int), pre1.length = 3 → J0 pre1 rest2 year2 → (∀ month0 : Int, (1 : Int) = month0 → (∃ J1 : List Int → Int → Int → Prop, J1 [] rest2 month0 ∧ (∀ (pre2 post0 : List Int) (size0 rest4 month1 : Int), ([(31), ((if (((year2 % (4 : Int)) : Int) == (0 : Int)) = true then 29 else 28)), (31), (30), (31), (30), (31), (31), (30), (31), (30), (31)] : List Int) = pre2 ++ size0 :: post0 → J1 pre2 rest4 month1 → (br (decide ((rest4 : Int) < size0)) (SV.t [year2, month1, (rest4 + (1 : Int))] = SV.t [(jY n), (jM n), (jD n)]) (∀ rest6 : Int, (rest4 - size0) = rest6 → (∀ month3 : Int, (month1 + (1 : Int)) = month3 → (J1 (pre2 ++ [size0]) rest6 month3))))) ∧ (∀ (rest5 month2 : Int), J1 ([(31), ((if (((year2 % (4 : Int)) : Int) == (0 : Int)) = true then 29 else 28)), (31), (30), (31), (30), (31), (31), (30), (31), (30), (31)] : List Int) rest5 month2 → (SV.t [year2, month2, (rest5 + (1 : Int))] = SV.t [(jY n), (jM n), (jD n)])))))))))) (by kernel_rfl!) ?_
  all_goals (repeat' (first | assumption | rfl | (refine br_of ?_ ?_) | (with_reducible refine And.intro ?_ ?_) | intro _))
  all_goals (try subst_vars)
  all_goals (try refine Exists.intro (fun p r y => WJ n p r y) ?_)
  all_goals (repeat' (first | assumption | rfl | (refine br_of ?_ ?_) | (with_reducible refine And.intro ?_ ?_) | intro _))
  all_goals (try subst_vars)
  all_goals (try refine mo_intro ?_ ?_)
  all_goals (repeat' (first | assumption | rfl | (refine br_of ?_ ?_) | (with_reducible refine And.intro ?_ ?_) | intro _))
  all_goals (try subst_vars)
  all_goals (try simp only [decide_eq_true_eq, decide_eq_false_iff_not] at *)
  all_goals first
    | (exact WJ_start _)
    | (exact WJ_yes (by assumption) (by assumption))
    | (exact WJ_no (by assumption) (by assumption))
    | (exact WJ_pos (by assumption))
    | (exact MO_turn (by assumption) (by assumption))
    | (exact sv3 (j_brk (by assumption) (by omega) (by assumption) (by assumption) (by assumption)))
    | (exact sv3 (j_end (by assumption) (by omega) (by assumption)))

theorem k_law_julian {w : World} : KOK w F_law_julian 387 10 :=
  fnI1 (o := O387) (ps := [Str.ofString "jd"]) (df := []) (dv := []) ⟨by kernel_rfl!, by kernel_rfl!, rfl⟩ trivial (fun a s X => BindsTo.of_eq rfl) (ook_cons k_law_sizes ook_nil) (pl1 (l_law_julian w))
noncomputable def F_law_islamic : Fun := I1 fun n P => P (SV.t [(iY n), (iM n), (iD n)])
set_option maxHeartbeats 2000000 in
theorem l_law_islamic (w : World) (n : Int) : WS w O394 [] [(Str.ofString "jd", .i n)] (SV.t [(iY n), (iM n), (iD n)]) := by
  refine by_word ((∀ rows0 : Int, ((n - (1948440 : Int)) / (10631 : Int)) = rows0 → (∀ rest0 : Int, ((n - (1948440 : Int)) % (10631 : Int)) = rest0 → (∀ place0 : Int, (1 : Int) = place0 → (∃ J0 : List Int → Int → Int → Prop, J0 [] place0 rest0 ∧ (∀ (pre0 : List Int) (k0 place1 rest1 : Int), k0 = (1 : Int) + (pre0.length : Int) → pre0.length < 30 → J0 pre0 place1 rest1 → (br (([(2 : Int), (5 : Int), (7 : Int), (10 : Int), (13 : Int), (16 : Int), (18 : Int), (21 : Int), (24 : Int), (26 : Int), (29 : Int)] : List Int).any (· == k0)) (∀ size0 : Int, (355 : Int) = size0 → (∀ place3 : Int, k0 = place3 → (br (decide ((rest1 : Int) < size0)) (∀ month0 : Int, (1 : Int) = month0 → (∃ J1 : List Int → Int → Int → Prop, J1 [] rest1 month0 ∧ (∀ (pre2 : List Int) (k1 rest3 month1 : Int), k1 = (0 : Int) + (pre2.length : Int) → pre2.length < 11 → J1 pre2 rest3 month1 → (br (((k1 % (2 : Int)) : Int) == (0 : Int)) (∀ size1 : Int, (30 : Int) = size1 → (br (decide ((rest3 : Int) < size1)) (SV.t [(((30 : Int) * rows0) + place3), month1, (rest3 + (1 : Int))] = SV.t [(iY n), (iM n), (iD n)]) (∀ rest5 : Int, (rest3 - size1) = rest5 → (∀ month3 : Int, (month1 + (1 : Int)) = month3 → (J1 (pre2 ++ [k1]) rest5 month3))))) (∀ size2 : Int, (29 : Int) = size2 → (br (decide ((rest3 : Int) < size2)) (SV.t [(((30 : Int) * rows0) + place3), month1, (rest3 + (1 : Int))] = SV.t [(iY n), (iM n), (iD n)]) (∀ rest6 : Int, (rest3 - size2) = rest6 → (∀ month4 : Int, (month1 + (1 : Int)) = month4 → (J1 (pre2 ++ [k1]) rest6 month4))))))) ∧ (∀ (pre3 : List Int) (rest4 month2 : Int), pre3.length = 11 → J1 pre3 rest4 month2 → (SV.t [(((30 : Int) * rows0) + place3), month2, (rest4 + (1 : Int))] = SV.t [(iY n), (iM n), (iD n)])))) (∀ rest7 : Int, (rest1 - size0) = rest7 → (J0 (pre0 ++ [k0]) place3 rest7))))) (∀ size3 : Int, (354 : Int) = size3 → (∀ place4 : Int, k0 = place4 → (br (decide ((rest1 : Int) < size3)) (∀ month5 : Int, (1 : Int) = month5 → (∃ J2 : List Int → Int → Int → Prop, J2 [] rest1 month5 ∧ (∀ (pre4 : List Int) (k2 rest8 month6 : Int), k2 = (0 : Int) + (pre4.length : Int) → pre4.length < 11 → J2 pre4 rest8 month6 → (br (((k2 % (2 : Int)) : Int) == (0 : Int)) (∀ size4 : Int, (30 : Int) = size4 → (br (decide ((rest8 : Int) < size4)) (SV.t [(((30 : Int) * rows0) + place4), month6, (rest8 + (1 : Int))] = SV.t [(iY n), (iM n), (iD n)]) (∀ rest10 : Int, (rest8 - size4) = rest10 → (∀ month8 : Int, (month6 + (1 : Int)) = month8 → (J2 (pre4 ++ [k2]) rest10 month8))))) (∀ size5 : Int, (29 : Int) = size5 → (br (decide ((rest8 : Int) < size5)) (SV.t [(((30 : Int) * rows0) + place4), month6, (rest8 + (1 : Int))] = SV.t [(iY n), (iM n), (iD n)]) (∀ rest11 : Int, (rest8 - size5) = rest11 → (∀ month9 : Int, (month6 + (1 : Int)) = month9 → (J2 (pre4 ++ [k2]) rest11 month9))))))) ∧ (∀ (pre5 : List Int) (rest9 month7 : Int), pre5.length = 11 → J2 pre5 rest9 month7 → (SV.t [(((30 : Int) * rows0) + place4), month7, (rest9 + (1 : Int))] = SV.t [(iY n), (iM n), (iD n)])))) (∀ rest12 : Int, (rest1 - size3) = rest12 → (J0 (pre0 ++ [k0]) place4 rest12))))))) ∧ (∀ (pre1 : List Int) (place2 rest2 : Int), pre1.length = 30 → J0 pre1 place2 rest2 → (∀ month10 : Int, (1 : Int) = month10 → (∃ J3 : List Int → Int → Int → Prop, J3 [] rest2 month10 ∧ (∀ (pre6 : List Int) (k3 rest13 month11 : Int), k3 = (0 : Int) + (pre6.length : Int) → pre6.length < 11 → J3 pre6 rest13 month11 → (br (((k3 % (2 : Int)) : Int) == (0 : Int)) (∀ size6 : Int, (30 : Int) = size6 → (br (decide ((rest13 : Int) < size6)) (SV.t [(((30 : Int) * rows0) + place2), month11, (rest13 + (1 : Int))] = SV.t [(iY n), (iM n), (iD n)]) (∀ rest15 : Int, (rest13 - size6) = rest15 → (∀ month13 : Int, (month11 + (1 : Int)) = month13 → (J3 (pre6 ++ [k3]) rest15 month13))))) (∀ size7 : Int, (29 : Int) = size7 → (br (decide ((rest13 : Int) < size7)) (SV.t [(((30 : Int) * rows0) + place2), month11, (rest13 + (1 : Int))] = SV.t [(iY n), (iM n), (iD n)]) (∀ rest16 : Int, (rest13 - size7) = rest16 → (∀ month14 : Int, (month11 + (1 : Int)) = month14 → (J3 (pre6 ++ [k3]) rest16 month14))))))) ∧ (∀ (pre7 : List Int) (rest14 month12 : Int), pre7.length = 11 → J3 pre7 rest14 month12 → (SV.t [(((30 : Int) * rows0) + place2), month12, (rest14 + (1 : Int))] = SV.t [(iY n), (iM n), (iD n)])))))))))) (by kernel_rfl!) ?_
  all_goals (repeat' (first | assumption | rfl | (refine br_of ?_ ?_) | (with_reducible refine And.intro ?_ ?_) | intro _))
  all_goals (try subst_vars)
  all_goals (try refine Exists.intro (fun p y r => V ((n - 1948440) % 10631) p r y) ?_)
  all_goals (repeat' (first | assumption | rfl | (refine br_of ?_ ?_) | (with_reducible refine And.intro ?_ ?_) | intro _))
  all_goals (try subst_vars)
  all_goals (try refine u_intro ?_ ?_)
  all_goals (repeat' (first | assumption | rfl | (refine br_of ?_ ?_) | (with_reducible refine And.intro ?_ ?_) | intro _))
  all_goals (try subst_vars)
  all_goals (try simp only [decide_eq_true_eq, decide_eq_false_iff_not, beq_iff_eq, bne_iff_ne, ne_eq, beq_eq_false_iff_ne, bne_eq_false_iff_eq, Bool.not_true, Bool.not_false, Bool.not_eq_true', Bool.not_eq_false', reduceCtorEq] at *)
  all_goals first
    | (exact V_start (fmod_pos (by decide)))
    | (exact V_in (by first | assumption | rfl) (by first | assumption | rfl) (by first | assumption | rfl) (by first | assumption | rfl) (by first | assumption | rfl))
    | (exact V_out (by first | assumption | rfl) (by first | assumption | rfl) (by first | assumption | rfl) (by first | assumption | rfl) (by first | assumption | rfl))
    | (exact V_pos (by first | assumption | rfl))
    | (exact U_even (by first | assumption | rfl) (by first | assumption | rfl) (by first | assumption | rfl) (by first | assumption | rfl))
    | (exact U_odd (by first | assumption | rfl) (by first | assumption | rfl) (by first | assumption | rfl) (by first | assumption | rfl))
    | (exact (V_end (by first | assumption | rfl) (by omega)).elim)
    | (have q := V_leap (by first | assumption | rfl) (by first | assumption | rfl) (by first | assumption | rfl) (by first | assumption | rfl) (by first | assumption | rfl); exact sv3 (i_lawE q.1 q.2 (by first | assumption | rfl) (by first | assumption | rfl) (by first | assumption | rfl) (by first | assumption | rfl) (by first | assumption | rfl)))
    | (have q := V_leap (by first | assumption | rfl) (by first | assumption | rfl) (by first | assumption | rfl) (by first | assumption | rfl) (by first | assumption | rfl); exact sv3 (i_lawO q.1 q.2 (by first | assumption | rfl) (by first | assumption | rfl) (by first | assumption | rfl) (by first | assumption | rfl) (by first | assumption | rfl)))
    | (have q := V_leap (by first | assumption | rfl) (by first | assumption | rfl) (by first | assumption | rfl) (by first | assumption | rfl) (by first | assumption | rfl); exact sv3 (i_lawN q.1 q.2 (by first | assumption | rfl) (by omega)))
    | (have q := V_plain (by first | assumption | rfl) (by first | assumption | rfl) (by first | assumption | rfl) (by first | assumption | rfl); exact sv3 (i_lawE q.1 q.2 (by first | assumption | rfl) (by first | assumption | rfl) (by first | assumption | rfl) (by first | assumption | rfl) (by first | assumption | rfl)))
    | (have q := V_plain (by first | assumption | rfl) (by first | assumption | rfl) (by first | assumption | rfl) (by first | assumption | rfl); exact sv3 (i_lawO q.1 q.2 (by first | assumption | rfl) (by first | assumption | rfl) (by first | assumption | rfl) (by first | assumption | rfl) (by first | assumption | rfl)))
    | (have q := V_plain (by first | assumption | rfl) (by first | assumption | rfl) (by first | assumption | rfl) (by first | assumption | rfl); exact sv3 (i_lawN q.1 q.2 (by first | assumption | rfl) (by omega)))

theorem k_law_islamic {w : World} : KOK w F_law_islamic 394 9 :=
  fnI1 (o := O394) (ps := [Str.ofString "jd"]) (df := []) (dv := []) ⟨by kernel_rfl!, by kernel_rfl!, rfl⟩ trivial (fun a s X => BindsTo.of_eq rfl) ook_nil (pl1 (l_law_islamic w))
noncomputable def F_law_indian : Fun := I1 fun n P => P (SV.t [(nY n), (nM n), (nD n)])
set_option maxHeartbeats 2000000 in
theorem l_law_indian (w : World) (n : Int) : WS w O415 [(359, F_law_gregorian), (380, F_law_january), (366, F_law_long)] [(Str.ofString "jd", .i n)] (SV.t [(nY n), (nM n), (nD n)]) := by
  refine by_word ((∀ year0 : Int, (gY n) = year0 → (br (decide ((n : Int) < ((jan1 year0) + (80 : Int)))) (∀ year1 : Int, (year0 - (1 : Int)) = year1 → (∀ rest0 : Int, ((n - (jan1 year1)) - (80 : Int)) = rest0 → (∀ month0 : Int, (1 : Int) = month0 → (br (leapB year1) (∃ J0 : List Int → Int → Int → Prop, J0 [] rest0 month0 ∧ (∀ (pre0 post0 : List Int) (size0 rest1 month1 : Int), ([(31 : Int), (31 : Int), (31 : Int), (31 : Int), (31 : Int), (31 : Int), (30 : Int), (30 : Int), (30 : Int), (30 : Int), (30 : Int)] : List Int) = pre0 ++ size0 :: post0 → J0 pre0 rest1 month1 → (br (decide ((rest1 : Int) < size0)) (SV.t [(year1 - (78 : Int)), month1, (rest1 + (1 : Int))] = SV.t [(nY n), (nM n), (nD n)]) (∀ rest3 : Int, (rest1 - size0) = rest3 → (∀ month3 : Int, (month1 + (1 : Int)) = month3 → (J0 (pre0 ++ [size0]) rest3 month3))))) ∧ (∀ (rest2 month2 : Int), J0 ([(31 : Int), (31 : Int), (31 : Int), (31 : Int), (31 : Int), (31 : Int), (30 : Int), (30 : Int), (30 : Int), (30 : Int), (30 : Int)] : List Int) rest2 month2 → (SV.t [(year1 - (78 : Int)), month2, (rest2 + (1 : Int))] = SV.t [(nY n), (nM n), (nD n)]))) (∃ J0 : List Int → Int → Int → Prop, J0 [] rest0 month0 ∧ (∀ (pre0 post1 : List Int) (size0 rest1 month1 : Int), ([(30 : Int), (31 : Int), (31 : Int), (31 : Int), (31 : Int), (31 : Int), (30 : Int), (30 : Int), (30 : Int), (30 : Int), (30 : Int)] : List Int) = pre0 ++ size0 :: post1 → J0 pre0 rest1 month1 → (br (decide ((rest1 : Int) < size0)) (SV.t [(year1 - (78 : Int)), month1, (rest1 + (1 : Int))] = SV.t [(nY n), (nM n), (nD n)]) (∀ rest4 : Int, (rest1 - size0) = rest4 → (∀ month4 : Int, (month1 + (1 : Int)) = month4 → (J0 (pre0 ++ [size0]) rest4 month4))))) ∧ (∀ (rest2 month2 : Int), J0 ([(30 : Int), (31 : Int), (31 : Int), (31 : Int), (31 : Int), (31 : Int), (30 : Int), (30 : Int), (30 : Int), (30 : Int), (30 : Int)] : List Int) rest2 month2 → (SV.t [(year1 - (78 : Int)), month2, (rest2 + (1 : Int))] = SV.t [(nY n), (nM n), (nD n)]))))))) (∀ rest5 : Int, ((n - (jan1 year0)) - (80 : Int)) = rest5 → (∀ month5 : Int, (1 : Int) = month5 → (br (leapB year0) (∃ J1 : List Int → Int → Int → Prop, J1 [] rest5 month5 ∧ (∀ (pre2 post2 : List Int) (size1 rest6 month6 : Int), ([(31 : Int), (31 : Int), (31 : Int), (31 : Int), (31 : Int), (31 : Int), (30 : Int), (30 : Int), (30 : Int), (30 : Int), (30 : Int)] : List Int) = pre2 ++ size1 :: post2 → J1 pre2 rest6 month6 → (br (decide ((rest6 : Int) < size1)) (SV.t [(year0 - (78 : Int)), month6, (rest6 + (1 : Int))] = SV.t [(nY n), (nM n), (nD n)]) (∀ rest8 : Int, (rest6 - size1) = rest8 → (∀ month8 : Int, (month6 + (1 : Int)) = month8 → (J1 (pre2 ++ [size1]) rest8 month8))))) ∧ (∀ (rest7 month7 : Int), J1 ([(31 : Int), (31 : Int), (31 : Int), (31 : Int), (31 : Int), (31 : Int), (30 : Int), (30 : Int), (30 : Int), (30 : Int), (30 : Int)] : List Int) rest7 month7 → (SV.t [(year0 - (78 : Int)), month7, (rest7 + (1 : Int))] = SV.t [(nY n), (nM n), (nD n)]))) (∃ J1 : List Int → Int → Int → Prop, J1 [] rest5 month5 ∧ (∀ (pre2 post3 : List Int) (size1 rest6 month6 : Int), ([(30 : Int), (31 : Int), (31 : Int), (31 : Int), (31 : Int), (31 : Int), (30 : Int), (30 : Int), (30 : Int), (30 : Int), (30 : Int)] : List Int) = pre2 ++ size1 :: post3 → J1 pre2 rest6 month6 → (br (decide ((rest6 : Int) < size1)) (SV.t [(year0 - (78 : Int)), month6, (rest6 + (1 : Int))] = SV.t [(nY n), (nM n), (nD n)]) (∀ rest9 : Int, (rest6 - size1) = rest9 → (∀ month9 : Int, (month6 + (1 : Int)) = month9 → (J1 (pre2 ++ [size1]) rest9 month9))))) ∧ (∀ (rest7 month7 : Int), J1 ([(30 : Int), (31 : Int), (31 : Int), (31 : Int), (31 : Int), (31 : Int), (30 : Int), (30 : Int), (30 : Int), (30 : Int), (30 : Int)] : List Int) rest7 month7 → (SV.t [(year0 - (78 : Int)), month7, (rest7 + (1 : Int))] = SV.t [(nY n), (nM n), (nD n)]))))))))) (by kernel_rfl!) ?_
  all_goals (repeat' (first | assumption | rfl | (refine br_of ?_ ?_) | (with_reducible refine And.intro ?_ ?_) | intro _))
  all_goals (try subst_vars)
  all_goals (try refine mo_intro ?_ ?_)
  all_goals (repeat' (first | assumption | rfl | (refine br_of ?_ ?_) | (with_reducible refine And.intro ?_ ?_) | intro _))
  all_goals (try subst_vars)
  all_goals (try simp only [decide_eq_true_eq, decide_eq_false_iff_not, beq_iff_eq, bne_iff_ne, ne_eq, beq_eq_false_iff_ne, bne_eq_false_iff_eq, Bool.not_true, Bool.not_false, Bool.not_eq_true', Bool.not_eq_false', reduceCtorEq] at *)
  all_goals first
    | (exact nr_pos1 (by assumption))
    | ((have := gY_spec n; omega))
    | (exact MO_turn (by assumption) (by assumption))
    | (exact sv3 (n_brk (by first | exact nG1 (by assumption) | exact nG2 (by assumption)) rfl (by first | exact lp_t (by assumption) | exact lp_f (by assumption)) (by assumption) (by assumption) (by assumption)))
    | (exact sv3 (n_end (by first | exact nG1 (by assumption) | exact nG2 (by assumption)) rfl (by first | exact lp_t (by assumption) | exact lp_f (by assumption)) (by assumption)))

theorem k_law_indian {w : World} : KOK w F_law_indian 415 11 :=
  fnI1 (o := O415) (ps := [Str.ofString "jd"]) (df := []) (dv := []) ⟨by kernel_rfl!, by kernel_rfl!, rfl⟩ trivial (fun a s X => BindsTo.of_eq rfl) (ook_cons k_law_gregorian (ook_cons k_law_january (ook_cons k_law_long ook_nil))) (pl1 (l_law_indian w))
section
set_option maxRecDepth 100000 in
set_option maxHeartbeats 4000000 in
theorem c_law_longcount {prog w p loose mean mg mb} (n : Int) (t : Tok) : Ctr prog w (heapK w.params) p loose mean mg mb 422 [.int n t] 1 (Ret5 (m1 n) (m2 n) (m3 n) (m4 n) (m5 n)) := by
  k_with_none
  intro dp un gd cn cs a ccd cl outer A₀ base h₀ L m' news s Q E hB hF hK hN hT hk hd hu hret
  refine wpAny_call ?_
  k_dflt (((refine' enter0 ?k1 ?k2 ?k3 ?k4 ?k5 ?kA ?kF ?kK ?k6 ?k7 ?k8 ?k9 ?kB ?_ ?c2 ?c3 ?c4 ?c5; (case kA => exact rfl); (case kF => exact rfl); (case kK => assumption); (case k1 => k_asm); (case k2 => k_asm); (case k3 => k_asm); (case k4 => k_asm); (case k5 => k_asm); (case k6 => k_is); (case k7 => k_is); (case k8 => first | exact roomE hd | ktr_room); (case k9 => first | exact BindsTo.of_eq rfl | exact binds_K (by k_in) rfl (by k_is) rfl rfl rfl); (case c5 => decide); (case kB => exact locs rfl); (case c2 => exact rfl); (case c3 => exact rfl); (case c4 => exact rfl); k_whole; intro g' L' h' hG' FG' F' N' B' X' T'; (try dsimp only); (try k_lift B'); (try k_fold))))
  k_steps
  all_goals ((((try intro kN2); (try dsimp only); first | refine' fin1I (by assumption) (by k_asm) (by assumption) ?_ | refine' fin1B (by assumption) (by k_asm) (by assumption) ?_ | ((rename News _ _ _ (_ :: _) => kN1); first | refine' fin3 (by assumption) (by k_asm) (by assumption) kN1 (by k_mem) ?_ | refine' fin2 (by assumption) (by k_asm) (by assumption) kN1 (by k_mem) ?_ | refine' fin5 (by assumption) (by k_asm) (by assumption) kN1 (by k_mem) ?_ | refine' finL (by assumption) (by k_asm) (by assumption) kN1 (by k_mem) ?_))); ((law_clear; (try (simp (disch := decide) only [Int.fmod_eq_emod_of_nonneg, Int.fdiv_eq_ediv_of_nonneg] at *)); (try simp only [List.any_cons, List.any_nil, Bool.or_false, beq_iff_eq, bne_iff_ne, decide_eq_true_eq, decide_eq_false_iff_not, Bool.not_eq_true, Bool.not_eq_false, Bool.and_eq_true, Bool.or_eq_true, Bool.and_eq_false_iff, Bool.or_eq_false_iff, beq_eq_false_iff_ne, bne_eq_false_iff_eq, Bool.not_eq_true', Bool.not_eq_false'] at *))); obtain ⟨h1, h2, h3, h4, h5⟩ := m_eqs n; omega)
end
noncomputable def F_law_longcount : Fun := I1 fun n P => P (SV.t [(m1 n), (m2 n), (m3 n), (m4 n), (m5 n)])
theorem k_law_longcount {w : World} : KOK w F_law_longcount 422 1 := by
  intro prog p loose mean mg mb
  intro args P h
  obtain ⟨n, rfl, hv⟩ := I1_of h
  exact ok_ret5 hv fun vs news r => by
    obtain ⟨V, rfl, t, rfl⟩ := reps1 r
    exact c_law_longcount n t
theorem c_law_thirties {prog w p loose mean mg mb} (r y : Int) (t u : Tok) : Ctr prog w (heapK w.params) p loose mean mg mb 401 [.int r t, .int y u] 9 (Ret3 y (r / 30 + 1) (r % 30 + 1)) :=
  ctr_3 (args := [.i (r), .i (y)]) (k_law_thirties _ _ (by exact rfl)) fun news => r_i2 news
section
set_option maxRecDepth 100000 in
set_option maxHeartbeats 4000000 in
theorem c_law_fours {prog w p loose mean mg mb} (n s y a b c : Int) (t u v a1 a2 a3 : Tok) (D₀ : Addr) (k₀ : Nat) : CtrT prog w (heapK w.params) p loose mean mg mb 408 [.int n t, .int s u, .int y v, .ref D₀] D₀ (tup [.int a a1, .int b a2, .int c a3] k₀) 10 (Ret3 (fY n s y a b c) (fX n s a b c / 30 + 1) (fX n s a b c % 30 + 1)) := by
  k_with_none
  k_with "call ref" => (k_here; k_dflt (refine' use (c_law_thirties _ _ _ _) ?k1 ?k2 ?k3 ?k4 ?k5 ?kK ?kd ?ku ?_; (case k1 => k_asm); (case k2 => k_asm); (case k3 => k_asm); (case k4 => k_asm); (case k5 => k_asm); (case kK => first | exact rfl | assumption); (case kd => first | exact roomD hd (by decide) | ktr_room); (case ku => first | exact roomU hu (by decide) | ktr_units); k_whole); intro D9 t9 u9 v9 n9 h9 tk9 F9 N9; (try dsimp only); (try k_sweep); (try k_fold); walk_say "CONTRACT law_thirties")
  intro dp un gd cn cs a ccd cl outer A₀ base h₀ L m' news s Q E hm₀ hB hF hK hN hT hk hd hu hret
  refine wpAny_call ?_
  k_dflt (((refine' enterT ?k0 ?k1 ?k2 ?k3 ?k4 ?k5 ?kA ?kF ?kK ?k6 ?k7 ?k8 ?k9 ?kB ?_ ?c2 ?c3 ?c4 ?c5; (case k0 => assumption); (case kA => exact rfl); (case kF => exact rfl); (case kK => assumption); (case k1 => k_asm); (case k2 => k_asm); (case k3 => k_asm); (case k4 => k_asm); (case k5 => k_asm); (case k6 => k_is); (case k7 => k_is); (case k8 => first | exact roomE hd | ktr_room); (case k9 => first | exact BindsTo.of_eq rfl | exact binds_K (by k_in) rfl (by k_is) rfl rfl rfl); (case c5 => decide); (case kB => exact locs rfl); (case c2 => exact rfl); (case c3 => exact rfl); (case c4 => exact rfl); k_whole; intro g' L' h' FG' F' N' B' X' T'; (try dsimp only); (try k_lift B'); (try k_fold))))
  k_steps
  all_goals (rename News _ _ _ (_ :: _) => kN1; refine fin3T hm₀ hN hret (by k_asm) (by assumption) kN1 (by k_mem) (by k_mem) ?_)
  all_goals ((law_clear; (try (simp (disch := decide) only [Int.fmod_eq_emod_of_nonneg, Int.fdiv_eq_ediv_of_nonneg] at *)); (try simp only [List.any_cons, List.any_nil, Bool.or_false, beq_iff_eq, bne_iff_ne, decide_eq_true_eq, decide_eq_false_iff_not, Bool.not_eq_true, Bool.not_eq_false, Bool.and_eq_true, Bool.or_eq_true, Bool.and_eq_false_iff, Bool.or_eq_false_iff, beq_eq_false_iff_ne, bne_eq_false_iff_eq, Bool.not_eq_true', Bool.not_eq_false'] at *)))
  all_goals first | exact f_1 (by assumption) | exact f_2 (by first | assumption | omega) (by first | assumption | omega) | exact f_3 (by first | assumption | omega) (by first | assumption | omega) (by first | assumption | omega) | exact f_4 (by first | assumption | omega) (by first | assumption | omega) (by first | assumption | omega)
end
noncomputable def F_law_fours_c : Fun := fun args P => ∃ n : Int, (args = [SV.i n, SV.i 1825030, SV.i 1, SV.t [365, 365, 366]]) ∧ P (SV.t [(cY n), (cM n), (cD n)])
theorem k_law_fours_c {w : World} : KOK w F_law_fours_c 408 10 := by
  intro prog p loose mean mg mb
  rintro args P ⟨n, rfl, hv⟩ vs dp un gd cn cs a ccd cl outer A₀ base h₀ L m news s Q E r B F X N T hk hd hu c
  match vs, r with
  | [_, _, _, _], ⟨⟨t, rfl⟩, ⟨u, rfl⟩, ⟨v, rfl⟩, ⟨D₀, ws, k₀, rfl, ia, hm⟩, _⟩ =>
    cases ia with | cons _ a1 ia => cases ia with | cons _ a2 ia => cases ia with | cons _ a3 ia => cases ia with | nil =>
    rw [← (f_c n).1, ← (f_c n).2.1, ← (f_c n).2.2] at hv
    exact c_law_fours n _ _ _ _ _ t u v a1 a2 a3 D₀ k₀ _ _ _ _ _ _ _ _ _ _ _ _ _ _ _ _ _ _ hm B F X N T hk hd hu
      fun _ _ _ _ _ h' tk' F' N' => c _ _ h' tk' _ hv F' N' (fun _ q => .tail _ q) ⟨_, _, _, rfl, .cons _ _ (.cons _ _ (.cons _ _ .nil)), .head _⟩
noncomputable def F_law_fours_s : Fun := fun args P => ∃ n : Int, (args = [SV.i n, SV.i 2117212, SV.i 533, SV.t [365, 365, 365]]) ∧ P (SV.t [(sY n), (sM n), (sD n)])
theorem k_law_fours_s {w : World} : KOK w F_law_fours_s 408 10 := by
  intro prog p loose mean mg mb
  rintro args P ⟨n, rfl, hv⟩ vs dp un gd cn cs a ccd cl outer A₀ base h₀ L m news s Q E r B F X N T hk hd hu c
  match vs, r with
  | [_, _, _, _], ⟨⟨t, rfl⟩, ⟨u, rfl⟩, ⟨v, rfl⟩, ⟨D₀, ws, k₀, rfl, ia, hm⟩, _⟩ =>
    cases ia with | cons _ a1 ia => cases ia with | cons _ a2 ia => cases ia with | cons _ a3 ia => cases ia with | nil =>
    rw [← (f_s n).1, ← (f_s n).2.1, ← (f_s n).2.2] at hv
    exact c_law_fours n _ _ _ _ _ t u v a1 a2 a3 D₀ k₀ _ _ _ _ _ _ _ _ _ _ _ _ _ _ _ _ _ _ hm B F X N T hk hd hu
      fun _ _ _ _ _ h' tk' F' N' => c _ _ h' tk' _ hv F' N' (fun _ q => .tail _ q) ⟨_, _, _, rfl, .cons _ _ (.cons _ _ (.cons _ _ .nil)), .head _⟩
noncomputable def F_law_first_five : Fun := I4 fun x y m d P => ∃ n : Int, (x = n ∧ y = gY n ∧ m = gM n ∧ d = gD n) ∧ P (SV.b (true))
set_option maxHeartbeats 4000000 in
theorem l_law_first_five (w : World) (n : Int) : WS w O436 [(387, F_law_julian), (79, F_from_jd_julian), (86, F_to_jd_julian_at), (100, F_to_gregorian_julian), (93, F_from_gregorian_julian), (394, F_law_islamic), (233, F_from_jd_islamic), (226, F_to_jd_islamic_at), (247, F_to_gregorian_islamic), (240, F_from_gregorian_islamic), (408, F_law_fours_c), (177, F_from_jd_coptic), (170, F_to_jd_coptic_at), (184, F_to_gregorian_coptic), (191, F_from_gregorian_coptic), (415, F_law_indian), (205, F_from_jd_indian), (198, F_to_jd_indian), (219, F_to_gregorian_indian), (212, F_from_gregorian_indian), (380, F_law_january), (289, F_from_jd_ordinal), (282, F_to_jd_ordinal), (296, F_from_gregorian_ordinal_at), (303, F_to_gregorian_ordinal)] [(Str.ofString "jd", .i (n)), (Str.ofString "y", .i (gY n)), (Str.ofString "m", .i (gM n)), (Str.ofString "d", .i (gD n))] (SV.b (true)) := by
  refine by_word ((br (!(([(jY (n)), (jM (n)), (jD (n))] : List Int) == ([(jY (n)), (jM (n)), (jD (n))] : List Int))) (SV.b false = SV.b (true)) (∃ n0 : Int, ((jY (n)) = jY n0 ∧ (jM (n)) = jM n0 ∧ (jD (n)) = jD n0) ∧ (br (((n0) : Int) != (n)) (SV.b false = SV.b (true)) (∃ n1 : Int, ((jY (n)) = jY n1 ∧ (jM (n)) = jM n1 ∧ (jD (n)) = jD n1) ∧ (br (!(([(gY n1), (gM n1), (gD n1)] : List Int) == ([(gY n), (gM n), (gD n)] : List Int))) (SV.b false = SV.b (true)) (∃ n2 : Int, ((gY n) = gY n2 ∧ (gM n) = gM n2 ∧ (gD n) = gD n2) ∧ (br (!(([(jY n2), (jM n2), (jD n2)] : List Int) == ([(jY (n)), (jM (n)), (jD (n))] : List Int))) (SV.b false = SV.b (true)) (br (!(([(iY (n)), (iM (n)), (iD (n))] : List Int) == ([(iY (n)), (iM (n)), (iD (n))] : List Int))) (SV.b false = SV.b (true)) (∃ n3 : Int, ((iY (n)) = iY n3 ∧ (iM (n)) = iM n3 ∧ (iD (n)) = iD n3) ∧ (br (((n3) : Int) != (n)) (SV.b false = SV.b (true)) (∃ n4 : Int, ((iY (n)) = iY n4 ∧ (iM (n)) = iM n4 ∧ (iD (n)) = iD n4) ∧ (br (!(([(gY n4), (gM n4), (gD n4)] : List Int) == ([(gY n), (gM n), (gD n)] : List Int))) (SV.b false = SV.b (true)) (∃ n5 : Int, ((gY n) = gY n5 ∧ (gM n) = gM n5 ∧ (gD n) = gD n5) ∧ (br (!(([(iY n5), (iM n5), (iD n5)] : List Int) == ([(iY (n)), (iM (n)), (iD (n))] : List Int))) (SV.b false = SV.b (true)) (∃ n6 : Int, ([SV.i (n), SV.i (1825030 : Int), SV.i (1 : Int), SV.t [(365 : Int), (365 : Int), (366 : Int)]] = [SV.i n6, SV.i 1825030, SV.i 1, SV.t [365, 365, 366]]) ∧ (br (!(([(cY (n)), (cM (n)), (cD (n))] : List Int) == ([(cY n6), (cM n6), (cD n6)] : List Int))) (SV.b false = SV.b (true)) (∃ n7 : Int, ((cY n6) = cY n7 ∧ (cM n6) = cM n7 ∧ (cD n6) = cD n7) ∧ (br (((n7) : Int) != (n)) (SV.b false = SV.b (true)) (∃ n8 : Int, ((cY n6) = cY n8 ∧ (cM n6) = cM n8 ∧ (cD n6) = cD n8) ∧ (br (!(([(gY n8), (gM n8), (gD n8)] : List Int) == ([(gY n), (gM n), (gD n)] : List Int))) (SV.b false = SV.b (true)) (∃ n9 : Int, ((gY n) = gY n9 ∧ (gM n) = gM n9 ∧ (gD n) = gD n9) ∧ (br (!(([(cY n9), (cM n9), (cD n9)] : List Int) == ([(cY n6), (cM n6), (cD n6)] : List Int))) (SV.b false = SV.b (true)) (br (!(([(nY (n)), (nM (n)), (nD (n))] : List Int) == ([(nY (n)), (nM (n)), (nD (n))] : List Int))) (SV.b false = SV.b (true)) (∃ n10 : Int, ((nY (n)) = nY n10 ∧ (nM (n)) = nM n10 ∧ (nD (n)) = nD n10) ∧ (br (((n10) : Int) != (n)) (SV.b false = SV.b (true)) (∃ n11 : Int, ((nY (n)) = nY n11 ∧ (nM (n)) = nM n11 ∧ (nD (n)) = nD n11) ∧ (br (!(([(gY n11), (gM n11), (gD n11)] : List Int) == ([(gY n), (gM n), (gD n)] : List Int))) (SV.b false = SV.b (true)) (∃ n12 : Int, ((gY n) = gY n12 ∧ (gM n) = gM n12 ∧ (gD n) = gD n12) ∧ (br (!(([(nY n12), (nM n12), (nD n12)] : List Int) == ([(nY (n)), (nM (n)), (nD (n))] : List Int))) (SV.b false = SV.b (true)) (br (!(([(gY (n)), (oD (n))] : List Int) == ([(gY n), (((n) - (jan1 (gY n))) + (1 : Int))] : List Int))) (SV.b false = SV.b (true)) (∃ n13 : Int, ((gY n) = gY n13 ∧ (((n) - (jan1 (gY n))) + (1 : Int)) = oD n13) ∧ (br (((n13) : Int) != (n)) (SV.b false = SV.b (true)) (∃ n14 : Int, ((gY n) = gY n14 ∧ (gM n) = gM n14 ∧ (gD n) = gD n14) ∧ (br (([(gY n14), (oD n14)] : List Int) == ([(gY n), (((n) - (jan1 (gY n))) + (1 : Int))] : List Int)) (∃ n15 : Int, ((gY n) = gY n15 ∧ (((n) - (jan1 (gY n))) + (1 : Int)) = oD n15) ∧ (SV.b (([(gY n15), (gM n15), (gD n15)] : List Int) == ([(gY n), (gM n), (gD n)] : List Int)) = SV.b (true))) (SV.b false = SV.b (true))))))))))))))))))))))))))))))))))))) (by kernel_rfl!) ?_
  repeat' (first | assumption | rfl | (refine br_of ?_ ?_) | (refine And.intro ?_ ?_) | (refine Exists.intro n ?_) | (intro h; exact (nbt h).elim) | (intro h; exact (nbi h).elim) | (intro h; exact (nbf h).elim) | (intro h; exact (nif h).elim) | exact congrArg SV.b (beq_self_eq_true _) | (intro h; exact absurd h (by decide)) | (intro x h; subst h) | intro _)

theorem k_law_first_five {w : World} : KOK w F_law_first_five 436 15 :=
  fnI4 (o := O436) (ps := [Str.ofString "jd", Str.ofString "y", Str.ofString "m", Str.ofString "d"]) (df := []) (dv := []) ⟨by kernel_rfl!, by kernel_rfl!, rfl⟩ trivial (fun a b c d s X => BindsTo.of_eq rfl) (ook_cons k_law_julian (ook_cons k_from_jd_julian (ook_cons k_to_jd_julian_at (ook_cons k_to_gregorian_julian (ook_cons k_from_gregorian_julian (ook_cons k_law_islamic (ook_cons k_from_jd_islamic (ook_cons k_to_jd_islamic_at (ook_cons k_to_gregorian_islamic (ook_cons k_from_gregorian_islamic (ook_cons k_law_fours_c (ook_cons k_from_jd_coptic (ook_cons k_to_jd_coptic_at (ook_cons k_to_gregorian_coptic (ook_cons k_from_gregorian_coptic (ook_cons k_law_indian (ook_cons k_from_jd_indian (ook_cons k_to_jd_indian (ook_cons k_to_gregorian_indian (ook_cons k_from_gregorian_indian (ook_cons k_law_january (ook_cons k_from_jd_ordinal (ook_cons k_to_jd_ordinal (ook_cons k_from_gregorian_ordinal_at (ook_cons k_to_gregorian_ordinal ook_nil))))))))))))))))))))))))) (at4 (l_law_first_five w))
noncomputable def F_from_jd_arm : Fun := fun args P => F_from_jd_arm1 args P ∨ F_from_jd_sar args P
theorem k_from_jd_arm {w : World} : KOK w F_from_jd_arm 131 10 := by
  intro prog p loose mean mg mb
  exact
  fun args P h => h.elim (fun h => (k_from_jd_arm1 args P h).mono (by decide)) fun h => (k_from_jd_sar args P h).mono (by decide)
noncomputable def F_to_jd_arm : Fun := fun args P => F_to_jd_arm3 args P ∨ F_to_jd_sar args P
theorem k_to_jd_arm {w : World} : KOK w F_to_jd_arm 123 11 := by
  intro prog p loose mean mg mb
  exact
  fun args P h => h.elim (fun h => (k_to_jd_arm3 args P h).mono (by decide)) fun h => (k_to_jd_sar args P h).mono (by decide)
noncomputable def F_to_julian : Fun := fun args P => F_to_julian_mov args P ∨ F_to_julian_sar args P
theorem k_to_julian {w : World} : KOK w F_to_julian 139 12 := by
  intro prog p loose mean mg mb
  exact
  fun args P h => h.elim (fun h => (k_to_julian_mov args P h).mono (by decide)) fun h => (k_to_julian_sar args P h).mono (by decide)
noncomputable def F_from_julian : Fun := fun args P => F_from_julian_mov args P ∨ F_from_julian_sar args P
theorem k_from_julian {w : World} : KOK w F_from_julian 147 13 := by
  intro prog p loose mean mg mb
  exact
  fun args P h => h.elim (fun h => (k_from_julian_mov args P h).mono (by decide)) fun h => (k_from_julian_sar args P h).mono (by decide)
noncomputable def F_to_gregorian_arm : Fun := fun args P => F_to_gregorian_mov args P ∨ F_to_gregorian_sar args P
theorem k_to_gregorian_arm {w : World} : KOK w F_to_gregorian_arm 155 13 := by
  intro prog p loose mean mg mb
  exact
  fun args P h => h.elim (fun h => (k_to_gregorian_mov args P h).mono (by decide)) fun h => (k_to_gregorian_sar args P h).mono (by decide)
noncomputable def F_from_gregorian_arm : Fun := fun args P => F_from_gregorian_mov args P ∨ F_from_gregorian_sar args P
theorem k_from_gregorian_arm {w : World} : KOK w F_from_gregorian_arm 163 12 := by
  intro prog p loose mean mg mb
  exact
  fun args P h => h.elim (fun h => (k_from_gregorian_mov args P h).mono (by decide)) fun h => (k_from_gregorian_sar args P h).mono (by decide)
noncomputable def F_law_armenians_e : Fun := I4 fun x y m d P => ∃ n : Int, (x = n ∧ y = gY n ∧ m = gM n ∧ d = gD n) ∧ (2117211 ≤ n) ∧ P (SV.b (true))
set_option maxHeartbeats 4000000 in
theorem l_law_armenians_e (w : World) (n : Int) (hp : 2117211 ≤ n) : WS w O443 [(401, F_law_thirties), (131, F_from_jd_arm), (123, F_to_jd_arm), (155, F_to_gregorian_arm), (163, F_from_gregorian_arm), (387, F_law_julian), (139, F_to_julian), (147, F_from_julian), (408, F_law_fours_s)] [(Str.ofString "jd", .i (n)), (Str.ofString "y", .i (gY n)), (Str.ofString "m", .i (gM n)), (Str.ofString "d", .i (gD n))] (SV.b (true)) := by
  refine by_word ((br (decide (((n) : Int) < (1922502 : Int))) False (br (decide ((1922868 : Int) ≤ ((n) : Int))) (∀ rest0 : Int, ((n) - (1922868 : Int)) = rest0 → (((1922868 ≤ (n)) ∧ (br (!(([(aY (n)), (aM (n)), (aD (n))] : List Int) == ([(((1 : Int) + (rest0 / (365 : Int)))), ((rest0 % (365 : Int)) / 30 + 1), ((rest0 % (365 : Int)) % 30 + 1)] : List Int))) (SV.b false = SV.b (true)) ((∃ n0 : Int, ((((1 : Int) + (rest0 / (365 : Int)))) = aY n0 ∧ ((rest0 % (365 : Int)) / 30 + 1) = aM n0 ∧ ((rest0 % (365 : Int)) % 30 + 1) = aD n0) ∧ (1922868 ≤ n0) ∧ (br (((n0) : Int) != (n)) (SV.b false = SV.b (true)) ((∃ n1 : Int, ((((1 : Int) + (rest0 / (365 : Int)))) = aY n1 ∧ ((rest0 % (365 : Int)) / 30 + 1) = aM n1 ∧ ((rest0 % (365 : Int)) % 30 + 1) = aD n1) ∧ (1922868 ≤ n1) ∧ (br (!(([(gY n1), (gM n1), (gD n1)] : List Int) == ([(gY n), (gM n), (gD n)] : List Int))) (SV.b false = SV.b (true)) ((∃ n2 : Int, ((gY n) = gY n2 ∧ (gM n) = gM n2 ∧ (gD n) = gD n2) ∧ (1922868 ≤ n2) ∧ (br (!(([(aY n2), (aM n2), (aD n2)] : List Int) == ([(((1 : Int) + (rest0 / (365 : Int)))), ((rest0 % (365 : Int)) / 30 + 1), ((rest0 % (365 : Int)) % 30 + 1)] : List Int))) (SV.b false = SV.b (true)) ((∃ n3 : Int, ((((1 : Int) + (rest0 / (365 : Int)))) = aY n3 ∧ ((rest0 % (365 : Int)) / 30 + 1) = aM n3 ∧ ((rest0 % (365 : Int)) % 30 + 1) = aD n3) ∧ (1922868 ≤ n3) ∧ (br (!(([(jY n3), (jM n3), (jD n3)] : List Int) == ([(jY (n)), (jM (n)), (jD (n))] : List Int))) (SV.b false = SV.b (true)) ((∃ n4 : Int, ((jY (n)) = jY n4 ∧ (jM (n)) = jM n4 ∧ (jD (n)) = jD n4) ∧ (1922868 ≤ n4) ∧ (br (!(([(aY n4), (aM n4), (aD n4)] : List Int) == ([(((1 : Int) + (rest0 / (365 : Int)))), ((rest0 % (365 : Int)) / 30 + 1), ((rest0 % (365 : Int)) % 30 + 1)] : List Int))) (SV.b false = SV.b (true)) (br (decide (((n) : Int) < (2117211 : Int))) False (br (((n) : Int) == (2117211 : Int)) (SV.b true = SV.b (true)) (∃ n5 : Int, ([SV.i (n), SV.i (2117212 : Int), SV.i (533 : Int), SV.t [(365 : Int), (365 : Int), (365 : Int)]] = [SV.i n5, SV.i 2117212, SV.i 533, SV.t [365, 365, 365]]) ∧ (False ∨ ((Str.ofString "sarkawag" = Str.ofString "sarkawag") ∧ (2117212 ≤ (n)) ∧ (br (!(([(sY (n)), (sM (n)), (sD (n))] : List Int) == ([(sY n5), (sM n5), (sD n5)] : List Int))) (SV.b false = SV.b (true)) (False ∨ ((Str.ofString "sarkawag" = Str.ofString "sarkawag") ∧ ∃ n6 : Int, ((sY n5) = sY n6 ∧ (sM n5) = sM n6 ∧ (sD n5) = sD n6) ∧ (2117212 ≤ n6) ∧ (br (((n6) : Int) != (n)) (SV.b false = SV.b (true)) (False ∨ ((Str.ofString "sarkawag" = Str.ofString "sarkawag") ∧ ∃ n7 : Int, ((sY n5) = sY n7 ∧ (sM n5) = sM n7 ∧ (sD n5) = sD n7) ∧ (2117212 ≤ n7) ∧ (br (!(([(jY n7), (jM n7), (jD n7)] : List Int) == ([(jY (n)), (jM (n)), (jD (n))] : List Int))) (SV.b false = SV.b (true)) (False ∨ ((Str.ofString "sarkawag" = Str.ofString "sarkawag") ∧ ∃ n8 : Int, ((sY n5) = sY n8 ∧ (sM n5) = sM n8 ∧ (sD n5) = sD n8) ∧ (2117212 ≤ n8) ∧ (br (!(([(gY n8), (gM n8), (gD n8)] : List Int) == ([(gY n), (gM n), (gD n)] : List Int))) (SV.b false = SV.b (true)) (False ∨ ((Str.ofString "sarkawag" = Str.ofString "sarkawag") ∧ ∃ n9 : Int, ((jY (n)) = jY n9 ∧ (jM (n)) = jM n9 ∧ (jD (n)) = jD n9) ∧ (2117212 ≤ n9) ∧ (br (!(([(sY n9), (sM n9), (sD n9)] : List Int) == ([(sY n5), (sM n5), (sD n5)] : List Int))) (SV.b false = SV.b (true)) (False ∨ ((Str.ofString "sarkawag" = Str.ofString "sarkawag") ∧ ∃ n10 : Int, ((gY n) = gY n10 ∧ (gM n) = gM n10 ∧ (gD n) = gD n10) ∧ (2117212 ≤ n10) ∧ (SV.b (([(sY n10), (sM n10), (sD n10)] : List Int) == ([(sY n5), (sM n5), (sD n5)] : List Int)) = SV.b (true)))))))))))))))))))))))) ∨ False))) ∨ False))) ∨ False))) ∨ False))) ∨ False))) ∨ False)) (br (decide (((n) : Int) < (2117211 : Int))) False (br (((n) : Int) == (2117211 : Int)) (SV.b true = SV.b (true)) (∃ n11 : Int, ([SV.i (n), SV.i (2117212 : Int), SV.i (533 : Int), SV.t [(365 : Int), (365 : Int), (365 : Int)]] = [SV.i n11, SV.i 2117212, SV.i 533, SV.t [365, 365, 365]]) ∧ (False ∨ ((Str.ofString "sarkawag" = Str.ofString "sarkawag") ∧ (2117212 ≤ (n)) ∧ (br (!(([(sY (n)), (sM (n)), (sD (n))] : List Int) == ([(sY n11), (sM n11), (sD n11)] : List Int))) (SV.b false = SV.b (true)) (False ∨ ((Str.ofString "sarkawag" = Str.ofString "sarkawag") ∧ ∃ n12 : Int, ((sY n11) = sY n12 ∧ (sM n11) = sM n12 ∧ (sD n11) = sD n12) ∧ (2117212 ≤ n12) ∧ (br (((n12) : Int) != (n)) (SV.b false = SV.b (true)) (False ∨ ((Str.ofString "sarkawag" = Str.ofString "sarkawag") ∧ ∃ n13 : Int, ((sY n11) = sY n13 ∧ (sM n11) = sM n13 ∧ (sD n11) = sD n13) ∧ (2117212 ≤ n13) ∧ (br (!(([(jY n13), (jM n13), (jD n13)] : List Int) == ([(jY (n)), (jM (n)), (jD (n))] : List Int))) (SV.b false = SV.b (true)) (False ∨ ((Str.ofString "sarkawag" = Str.ofString "sarkawag") ∧ ∃ n14 : Int, ((sY n11) = sY n14 ∧ (sM n11) = sM n14 ∧ (sD n11) = sD n14) ∧ (2117212 ≤ n14) ∧ (br (!(([(gY n14), (gM n14), (gD n14)] : List Int) == ([(gY n), (gM n), (gD n)] : List Int))) (SV.b false = SV.b (true)) (False ∨ ((Str.ofString "sarkawag" = Str.ofString "sarkawag") ∧ ∃ n15 : Int, ((jY (n)) = jY n15 ∧ (jM (n)) = jM n15 ∧ (jD (n)) = jD n15) ∧ (2117212 ≤ n15) ∧ (br (!(([(sY n15), (sM n15), (sD n15)] : List Int) == ([(sY n11), (sM n11), (sD n11)] : List Int))) (SV.b false = SV.b (true)) (False ∨ ((Str.ofString "sarkawag" = Str.ofString "sarkawag") ∧ ∃ n16 : Int, ((gY n) = gY n16 ∧ (gM n) = gM n16 ∧ (gD n) = gD n16) ∧ (2117212 ≤ n16) ∧ (SV.b (([(sY n16), (sM n16), (sD n16)] : List Int) == ([(sY n11), (sM n11), (sD n11)] : List Int)) = SV.b (true))))))))))))))))))))))))) (by kernel_rfl!) ?_
  have hp2 : 1922868 ≤ n := by omega
  repeat' (first | assumption | (refine orl ?_) | (refine orr ?_) | rfl | (refine br_of ?_ ?_) | (refine And.intro ?_ ?_) | (refine Exists.intro n ?_) | (intro h; exact (nbt h).elim) | (intro h; exact (nbi h).elim) | (intro h; exact (nbf h).elim) | (intro h; exact (nif h).elim) | exact congrArg SV.b (beq_self_eq_true _) | (intro h; exact absurd h (by decide)) | (intro x h; subst h) | intro _)
  all_goals ((try simp only [decide_eq_true_eq, decide_eq_false_iff_not, beq_iff_eq, bne_iff_ne, ne_eq, beq_eq_false_iff_ne, bne_eq_false_iff_eq, Bool.not_true, Bool.not_false, Bool.not_eq_true', Bool.not_eq_false', reduceCtorEq] at *); first | contradiction | omega | (exfalso; omega) | exact ⟨by omega, by first | exact .inl (by assumption) | exact .inr (by assumption)⟩)

theorem k_law_armenians_e {w : World} : KOK w F_law_armenians_e 443 14 :=
  fnI4 (o := O443) (ps := [Str.ofString "jd", Str.ofString "y", Str.ofString "m", Str.ofString "d"]) (df := []) (dv := []) ⟨by kernel_rfl!, by kernel_rfl!, rfl⟩ trivial (fun a b c d s X => BindsTo.of_eq rfl) (ook_cons k_law_thirties (ook_cons k_from_jd_arm (ook_cons k_to_jd_arm (ook_cons k_to_gregorian_arm (ook_cons k_from_gregorian_arm (ook_cons k_law_julian (ook_cons k_to_julian (ook_cons k_from_julian (ook_cons k_law_fours_s ook_nil))))))))) (ap4 (l_law_armenians_e w))
noncomputable def F_law_last_two_e : Fun := I4 fun x y m d P => ∃ n : Int, (x = n ∧ y = gY n ∧ m = gM n ∧ d = gD n) ∧ (2374480 ≤ n) ∧ P (SV.b (true))
set_option maxHeartbeats 4000000 in
theorem l_law_last_two_e (w : World) (n : Int) (hp : 2374480 ≤ n) : WS w O450 [(422, F_law_longcount), (261, F_from_jd_mayan), (275, F_from_gregorian_mayan), (254, F_to_jd_mayan), (268, F_to_gregorian_mayan), (380, F_law_january), (324, F_from_jd_positivist), (331, F_from_gregorian_positivist), (317, F_to_jd_positivist), (338, F_to_gregorian_positivist)] [(Str.ofString "jd", .i (n)), (Str.ofString "y", .i (gY n)), (Str.ofString "m", .i (gM n)), (Str.ofString "d", .i (gD n))] (SV.b (true)) := by
  refine by_word ((br (decide (((n) : Int) < (584283 : Int))) False ((584283 ≤ (n)) ∧ (br (!(([(m1 (n)), (m2 (n)), (m3 (n)), (m4 (n)), (m5 (n))] : List Int) == ([(m1 (n)), (m2 (n)), (m3 (n)), (m4 (n)), (m5 (n))] : List Int))) (SV.b false = SV.b (true)) (∃ n0 : Int, ((gY n) = gY n0 ∧ (gM n) = gM n0 ∧ (gD n) = gD n0) ∧ (584283 ≤ n0) ∧ (br (!(([(m1 n0), (m2 n0), (m3 n0), (m4 n0), (m5 n0)] : List Int) == ([(m1 (n)), (m2 (n)), (m3 (n)), (m4 (n)), (m5 (n))] : List Int))) (SV.b false = SV.b (true)) (∃ n1 : Int, ((m1 (n)) = m1 n1 ∧ (m2 (n)) = m2 n1 ∧ (m3 (n)) = m3 n1 ∧ (m4 (n)) = m4 n1 ∧ (m5 (n)) = m5 n1) ∧ (br (((n1) : Int) != (n)) (SV.b false = SV.b (true)) (∃ n2 : Int, ((m1 (n)) = m1 n2 ∧ (m2 (n)) = m2 n2 ∧ (m3 (n)) = m3 n2 ∧ (m4 (n)) = m4 n2 ∧ (m5 (n)) = m5 n2) ∧ (br (!(([(gY n2), (gM n2), (gD n2)] : List Int) == ([(gY n), (gM n), (gD n)] : List Int))) (SV.b false = SV.b (true)) (br (decide (((n) : Int) < (2374480 : Int))) False (∀ rest0 : Int, ((n) - (jan1 (gY n))) = rest0 → (br ((((gY n) % (400 : Int)) : Int) != (0 : Int)) ((2374480 ≤ (n) ∧ (gY (n) % 400 ≠ 0 ∨ (n) - jan1 (gY (n)) < 365)) ∧ (br (!(([(pY (n)), (pM (n)), (pD (n))] : List Int) == ([((gY n) - (1788 : Int)), ((rest0 / (28 : Int)) + (1 : Int)), ((rest0 % (28 : Int)) + (1 : Int))] : List Int))) (SV.b false = SV.b (true)) (∃ n3 : Int, ((gY n) = gY n3 ∧ (gM n) = gM n3 ∧ (gD n) = gD n3) ∧ (2374480 ≤ n3 ∧ (gY n3 % 400 ≠ 0 ∨ n3 - jan1 (gY n3) < 365)) ∧ (br (!(([(pY n3), (pM n3), (pD n3)] : List Int) == ([((gY n) - (1788 : Int)), ((rest0 / (28 : Int)) + (1 : Int)), ((rest0 % (28 : Int)) + (1 : Int))] : List Int))) (SV.b false = SV.b (true)) (∃ n4 : Int, (((gY n) - (1788 : Int)) = pY n4 ∧ ((rest0 / (28 : Int)) + (1 : Int)) = pM n4 ∧ ((rest0 % (28 : Int)) + (1 : Int)) = pD n4) ∧ (2374480 ≤ n4) ∧ (br (((n4) : Int) == (n)) (∃ n5 : Int, (((gY n) - (1788 : Int)) = pY n5 ∧ ((rest0 / (28 : Int)) + (1 : Int)) = pM n5 ∧ ((rest0 % (28 : Int)) + (1 : Int)) = pD n5) ∧ (2374480 ≤ n5) ∧ (SV.b (([(gY n5), (gM n5), (gD n5)] : List Int) == ([(gY n), (gM n), (gD n)] : List Int)) = SV.b (true))) (SV.b false = SV.b (true)))))))) (br (decide ((rest0 : Int) < (365 : Int))) ((2374480 ≤ (n) ∧ (gY (n) % 400 ≠ 0 ∨ (n) - jan1 (gY (n)) < 365)) ∧ (br (!(([(pY (n)), (pM (n)), (pD (n))] : List Int) == ([((gY n) - (1788 : Int)), ((rest0 / (28 : Int)) + (1 : Int)), ((rest0 % (28 : Int)) + (1 : Int))] : List Int))) (SV.b false = SV.b (true)) (∃ n6 : Int, ((gY n) = gY n6 ∧ (gM n) = gM n6 ∧ (gD n) = gD n6) ∧ (2374480 ≤ n6 ∧ (gY n6 % 400 ≠ 0 ∨ n6 - jan1 (gY n6) < 365)) ∧ (br (!(([(pY n6), (pM n6), (pD n6)] : List Int) == ([((gY n) - (1788 : Int)), ((rest0 / (28 : Int)) + (1 : Int)), ((rest0 % (28 : Int)) + (1 : Int))] : List Int))) (SV.b false = SV.b (true)) (∃ n7 : Int, (((gY n) - (1788 : Int)) = pY n7 ∧ ((rest0 / (28 : Int)) + (1 : Int)) = pM n7 ∧ ((rest0 % (28 : Int)) + (1 : Int)) = pD n7) ∧ (2374480 ≤ n7) ∧ (br (((n7) : Int) == (n)) (∃ n8 : Int, (((gY n) - (1788 : Int)) = pY n8 ∧ ((rest0 / (28 : Int)) + (1 : Int)) = pM n8 ∧ ((rest0 % (28 : Int)) + (1 : Int)) = pD n8) ∧ (2374480 ≤ n8) ∧ (SV.b (([(gY n8), (gM n8), (gD n8)] : List Int) == ([(gY n), (gM n), (gD n)] : List Int)) = SV.b (true))) (SV.b false = SV.b (true)))))))) (∃ n9 : Int, (((gY n) - (1788 : Int)) = pY n9 ∧ ((rest0 / (28 : Int)) + (1 : Int)) = pM n9 ∧ ((rest0 % (28 : Int)) + (1 : Int)) = pD n9) ∧ (2374480 ≤ n9) ∧ (br (((n9) : Int) == (n)) (∃ n10 : Int, (((gY n) - (1788 : Int)) = pY n10 ∧ ((rest0 / (28 : Int)) + (1 : Int)) = pM n10 ∧ ((rest0 % (28 : Int)) + (1 : Int)) = pD n10) ∧ (2374480 ≤ n10) ∧ (SV.b (([(gY n10), (gM n10), (gD n10)] : List Int) == ([(gY n), (gM n), (gD n)] : List Int)) = SV.b (true))) (SV.b false = SV.b (true)))))))))))))))))) (by kernel_rfl!) ?_
  have hp2 : 584283 ≤ n := by omega
  repeat' (first | assumption | (refine orl ?_) | (refine orr ?_) | rfl | (refine br_of ?_ ?_) | (refine And.intro ?_ ?_) | (refine Exists.intro n ?_) | (intro h; exact (nbt h).elim) | (intro h; exact (nbi h).elim) | (intro h; exact (nbf h).elim) | (intro h; exact (nif h).elim) | exact congrArg SV.b (beq_self_eq_true _) | (intro h; exact absurd h (by decide)) | (intro x h; subst h) | intro _)
  all_goals ((try simp only [decide_eq_true_eq, decide_eq_false_iff_not, beq_iff_eq, bne_iff_ne, ne_eq, beq_eq_false_iff_ne, bne_eq_false_iff_eq, Bool.not_true, Bool.not_false, Bool.not_eq_true', Bool.not_eq_false', reduceCtorEq] at *); first | contradiction | omega | (exfalso; omega) | exact ⟨by omega, by first | exact .inl (by assumption) | exact .inr (by assumption)⟩)

theorem k_law_last_two_e {w : World} : KOK w F_law_last_two_e 450 14 :=
  fnI4 (o := O450) (ps := [Str.ofString "jd", Str.ofString "y", Str.ofString "m", Str.ofString "d"]) (df := []) (dv := []) ⟨by kernel_rfl!, by kernel_rfl!, rfl⟩ trivial (fun a b c d s X => BindsTo.of_eq rfl) (ook_cons k_law_longcount (ook_cons k_from_jd_mayan (ook_cons k_from_gregorian_mayan (ook_cons k_to_jd_mayan (ook_cons k_to_gregorian_mayan (ook_cons k_law_january (ook_cons k_from_jd_positivist (ook_cons k_from_gregorian_positivist (ook_cons k_to_jd_positivist (ook_cons k_to_gregorian_positivist ook_nil)))))))))) (ap4 (l_law_last_two_e w))
section
set_option maxRecDepth 100000 in
set_option maxHeartbeats 4000000 in
theorem c_law_year {prog w p loose mean mg mb} (x : Int) (t : Tok) : Ctr prog w (heapK w.params) p loose mean mg mb 352 [.int x t] 1 (Ret1 (fun t => .int (lawYear x) t)) := by
  k_with_none
  intro dp un gd cn cs a ccd cl outer A₀ base h₀ L m' news s Q E hB hF hK hN hT hk hd hu hret
  refine wpAny_call ?_
  k_dflt (((refine' enter0 ?k1 ?k2 ?k3 ?k4 ?k5 ?kA ?kF ?kK ?k6 ?k7 ?k8 ?k9 ?kB ?_ ?c2 ?c3 ?c4 ?c5; (case kA => exact rfl); (case kF => exact rfl); (case kK => assumption); (case k1 => k_asm); (case k2 => k_asm); (case k3 => k_asm); (case k4 => k_asm); (case k5 => k_asm); (case k6 => k_is); (case k7 => k_is); (case k8 => first | exact roomE hd | ktr_room); (case k9 => first | exact BindsTo.of_eq rfl | exact binds_K (by k_in) rfl (by k_is) rfl rfl rfl); (case c5 => decide); (case kB => exact locs rfl); (case c2 => exact rfl); (case c3 => exact rfl); (case c4 => exact rfl); k_whole; intro g' L' h' hG' FG' F' N' B' X' T'; (try dsimp only); (try k_lift B'); (try k_fold))))
  k_steps
  all_goals ((((try intro kN2); (try dsimp only); first | refine' fin1I (by assumption) (by k_asm) (by assumption) ?_ | refine' fin1B (by assumption) (by k_asm) (by assumption) ?_ | ((rename News _ _ _ (_ :: _) => kN1); first | refine' fin3 (by assumption) (by k_asm) (by assumption) kN1 (by k_mem) ?_ | refine' fin2 (by assumption) (by k_asm) (by assumption) kN1 (by k_mem) ?_ | refine' fin5 (by assumption) (by k_asm) (by assumption) kN1 (by k_mem) ?_ | refine' finL (by assumption) (by k_asm) (by assumption) kN1 (by k_mem) ?_))); first | exact lawYear1 (by assumption) (by assumption) | (((law_clear; (try (simp (disch := decide) only [Int.fmod_eq_emod_of_nonneg, Int.fdiv_eq_ediv_of_nonneg] at *)); (try simp only [List.any_cons, List.any_nil, Bool.or_false, beq_iff_eq, bne_iff_ne, decide_eq_true_eq, decide_eq_false_iff_not, Bool.not_eq_true, Bool.not_eq_false, Bool.and_eq_true, Bool.or_eq_true, Bool.and_eq_false_iff, Bool.or_eq_false_iff, beq_eq_false_iff_ne, bne_eq_false_iff_eq, Bool.not_eq_true', Bool.not_eq_false'] at *))); first | exact lawYear2 (by assumption) (by assumption) | exact lawYear3 (by assumption)))
end
theorem c_law_thirties_a {prog w p loose mean mg mb} (n : Int) (t u : Tok) : Ctr prog w (heapK w.params) p loose mean mg mb 401 [.int (Int.fmod (n - 1922868) 365) t, .int (1 + Int.fdiv (n - 1922868) 365) u] 9 (Ret3 (aY n) (aM n) (aD n)) := by
  rw [aM_e, aD_e, aY_e]
  exact c_law_thirties _ _ t u
theorem c_from_jd_arm1 {prog w p loose mean mg mb} (n : Int) (t : Tok) (hp : 1922868 ≤ n) : Ctr prog w (heapK w.params) p loose mean mg mb 131 [.int n t] 10 (Ret3 (aY n) (aM n) (aD n)) :=
  ctr_3 (args := [.i (n)]) (k_from_jd_arm1 _ _ (by exact ⟨hp, rfl⟩)) fun news => r_i1 news
theorem c_to_jd_arm3 {prog w p loose mean mg mb} (n : Int) (t0 t1 t2 : Tok) (hp : 1922868 ≤ n) : Ctr prog w (heapK w.params) p loose mean mg mb 123 [.int (aY n) t0, .int (aM n) t1, .int (aD n) t2] 10 (Ret1 (fun t => .int (n) t)) :=
  ctr_1I (args := [.i (aY n), .i (aM n), .i (aD n)]) (k_to_jd_arm3 _ _ (by refine Exists.intro n ⟨⟨rfl, rfl, rfl⟩, hp, rfl⟩)) fun news => r_i3 news
theorem c_to_gregorian_mov {prog w p loose mean mg mb} (n : Int) (t0 t1 t2 : Tok) (hp : 1922868 ≤ n) : Ctr prog w (heapK w.params) p loose mean mg mb 155 [.int (aY n) t0, .int (aM n) t1, .int (aD n) t2] 13 (Ret3 (gY n) (gM n) (gD n)) :=
  ctr_3 (args := [.i (aY n), .i (aM n), .i (aD n)]) (k_to_gregorian_mov _ _ (by refine Exists.intro n ⟨⟨rfl, rfl, rfl⟩, hp, rfl⟩)) fun news => r_i3 news
theorem c_from_gregorian_mov {prog w p loose mean mg mb} (n : Int) (t0 t1 t2 : Tok) (hp : 1922868 ≤ n) : Ctr prog w (heapK w.params) p loose mean mg mb 163 [.int (gY n) t0, .int (gM n) t1, .int (gD n) t2] 12 (Ret3 (aY n) (aM n) (aD n)) :=
  ctr_3 (args := [.i (gY n), .i (gM n), .i (gD n)]) (k_from_gregorian_mov _ _ (by refine Exists.intro n ⟨⟨rfl, rfl, rfl⟩, hp, rfl⟩)) fun news => r_i3 news
theorem c_law_julian {prog w p loose mean mg mb} (n : Int) (t : Tok) : Ctr prog w (heapK w.params) p loose mean mg mb 387 [.int n t] 10 (Ret3 (jY n) (jM n) (jD n)) :=
  ctr_3 (args := [.i (n)]) (k_law_julian _ _ (by exact rfl)) fun news => r_i1 news
theorem c_to_julian_mov {prog w p loose mean mg mb} (n : Int) (t0 t1 t2 : Tok) (hp : 1922868 ≤ n) : Ctr prog w (heapK w.params) p loose mean mg mb 139 [.int (aY n) t0, .int (aM n) t1, .int (aD n) t2] 11 (Ret3 (jY n) (jM n) (jD n)) :=
  ctr_3 (args := [.i (aY n), .i (aM n), .i (aD n)]) (k_to_julian_mov _ _ (by refine Exists.intro n ⟨⟨rfl, rfl, rfl⟩, hp, rfl⟩)) fun news => r_i3 news
theorem c_from_julian_mov {prog w p loose mean mg mb} (n : Int) (t0 t1 t2 : Tok) (hp : 1922868 ≤ n) : Ctr prog w (heapK w.params) p loose mean mg mb 147 [.int (jY n) t0, .int (jM n) t1, .int (jD n) t2] 13 (Ret3 (aY n) (aM n) (aD n)) :=
  ctr_3 (args := [.i (jY n), .i (jM n), .i (jD n)]) (k_from_julian_mov _ _ (by refine Exists.intro n ⟨⟨rfl, rfl, rfl⟩, hp, rfl⟩)) fun news => r_i3 news
section
set_option maxRecDepth 100000 in
set_option maxHeartbeats 4000000 in
theorem c_refused_moveable {prog w mean mg mb} (n : Int) (t z : Tok) (hp : n < 1922502) : CtrR prog w (heapK w.params) q0 LS mean mg mb 429 [.str (Str.ofString "moveable") z, .int n t] 12 := by
  k_with_none
  intro dp un gd cn cs a ccd outer A₀ base g₀ h₀ L m' news s Q E hB hF hK hN hT hKB hTB hDX hT0 hk hd hu hret
  refine wpAny_call ?_
  k_dflt (refine' code_defS ?k1 ?k2 ?k3 ?k4 ?k5 ?XB ?TB ?D ?T0 ?kA ?k6 ?k7 ?k8 ?k9 ?kB ?_ ?cK ?c2 ?c3 ?c4 ?c5; (case kA => exact rfl); (case k2 => k_asm); (case k1 => k_asm); (case XB => assumption); (case TB => assumption); (case D => assumption); (case T0 => assumption); (case k3 => k_asm); (case k4 => k_asm); (case k5 => k_asm); (case k6 => k_is); (case k7 => k_is); (case k8 => exact roomE hd); (case k9 => exact BindsTo.of_eq rfl); (case kB => exact locs rfl); (case cK => first | exact rfl | assumption); (case c2 => exact rfl); (case c3 => exact rfl); (case c4 => exact rfl); (case c5 => decide); k_whole; intro g' L' h' FG' F' N' B' X' T' D'; (try dsimp only); (try k_lift B'); (try k_fold))
  k_steps
  all_goals (refine' hret _ _ _ ?zT ?zF ?zN ?zB ?zX ?zP ?zD; (case zT => assumption); (case zF => assumption); (case zN => exact fun q hq => (by assumption : News _ _ _ _) q (by repeat (first | exact hq | refine List.mem_cons_of_mem _ ?_))); (case zB => assumption); (case zX => assumption); (case zP => assumption); (case zD => assumption))
end
section
set_option maxRecDepth 100000 in
set_option maxHeartbeats 4000000 in
theorem c_refused_sarkawag {prog w mean mg mb} (n : Int) (t z : Tok) (hp : n < 2117211) : CtrR prog w (heapK w.params) q0 LS mean mg mb 429 [.str (Str.ofString "sarkawag") z, .int n t] 12 := by
  k_with_none
  intro dp un gd cn cs a ccd outer A₀ base g₀ h₀ L m' news s Q E hB hF hK hN hT hKB hTB hDX hT0 hk hd hu hret
  refine wpAny_call ?_
  k_dflt (refine' code_defS ?k1 ?k2 ?k3 ?k4 ?k5 ?XB ?TB ?D ?T0 ?kA ?k6 ?k7 ?k8 ?k9 ?kB ?_ ?cK ?c2 ?c3 ?c4 ?c5; (case kA => exact rfl); (case k2 => k_asm); (case k1 => k_asm); (case XB => assumption); (case TB => assumption); (case D => assumption); (case T0 => assumption); (case k3 => k_asm); (case k4 => k_asm); (case k5 => k_asm); (case k6 => k_is); (case k7 => k_is); (case k8 => exact roomE hd); (case k9 => exact BindsTo.of_eq rfl); (case kB => exact locs rfl); (case cK => first | exact rfl | assumption); (case c2 => exact rfl); (case c3 => exact rfl); (case c4 => exact rfl); (case c5 => decide); k_whole; intro g' L' h' FG' F' N' B' X' T' D'; (try dsimp only); (try k_lift B'); (try k_fold))
  k_steps
  all_goals (refine' hret _ _ _ ?zT ?zF ?zN ?zB ?zX ?zP ?zD; (case zT => assumption); (case zF => assumption); (case zN => exact fun q hq => (by assumption : News _ _ _ _) q (by repeat (first | exact hq | refine List.mem_cons_of_mem _ ?_))); (case zB => assumption); (case zX => assumption); (case zP => assumption); (case zD => assumption))
end
section
set_option maxRecDepth 100000 in
set_option maxHeartbeats 4000000 in
theorem c_law_armenians_l {prog w mean mg mb} (n : Int) (t9 t0 t1 t2 : Tok) (hlow : n < 2117211) : CtrS prog w (heapK w.params) q0 LS mean mg mb 443 [.int n t9, .int (gY n) t0, .int (gM n) t1, .int (gD n) t2] 20 (Ret1 (fun _ => .bool (true))) := by
  k_with_none
  k_with "call ref" => (k_here; k_dflt (refine' use (c_law_thirties_a _ _ _) ?k1 ?k2 ?k3 ?k4 ?k5 ?kK ?kd ?ku ?_; (case k1 => k_asm); (case k2 => k_asm); (case k3 => k_asm); (case k4 => k_asm); (case k5 => k_asm); (case kK => first | exact rfl | assumption); (case kd => first | exact roomD hd (by decide) | ktr_room); (case ku => first | exact roomU hu (by decide) | ktr_units); k_whole); intro D9 t9 u9 v9 n9 h9 tk9 F9 N9; (try dsimp only); (try k_sweep); (try k_fold); walk_say "CONTRACT law_thirties_a")
  k_with "call ref" => (k_here; k_dflt (refine' use (c_from_jd_arm1 _ _ ?kp) ?k1 ?k2 ?k3 ?k4 ?k5 ?kK ?kd ?ku ?_; (case kp => (first | assumption | omega | with_reducible exact ⟨Int.le_refl 1, gLen_pos _ _⟩ | with_reducible exact a_pre (by assumption) | with_reducible exact s_pre (by assumption) | with_reducible exact s_pos (by assumption) | with_reducible exact s_pos3 (by assumption) (by assumption) | with_reducible exact p_pre (by assumption) | with_reducible exact ind_pre _ _ | with_reducible exact o_pre0 | with_reducible exact o_pre1 | with_reducible exact o_pre2 (by assumption) | with_reducible exact o_tr (by decide) | (law_clear; (try (simp (disch := decide) only [Int.fmod_eq_emod_of_nonneg, Int.fdiv_eq_ediv_of_nonneg] at *)); omega))); (case k1 => k_asm); (case k2 => k_asm); (case k3 => k_asm); (case k4 => k_asm); (case k5 => k_asm); (case kK => first | exact rfl | assumption); (case kd => first | exact roomD hd (by decide) | ktr_room); (case ku => first | exact roomU hu (by decide) | ktr_units); k_whole); intro D9 t9 u9 v9 n9 h9 tk9 F9 N9; (try dsimp only); (try k_sweep); (try k_fold); walk_say "CONTRACT from_jd_arm1")
  k_with "call ref" => (k_here; k_dflt (refine' use (c_to_jd_arm3 _ _ _ _ ?kp) ?k1 ?k2 ?k3 ?k4 ?k5 ?kK ?kd ?ku ?_; (case kp => (first | assumption | omega | with_reducible exact ⟨Int.le_refl 1, gLen_pos _ _⟩ | with_reducible exact a_pre (by assumption) | with_reducible exact s_pre (by assumption) | with_reducible exact s_pos (by assumption) | with_reducible exact s_pos3 (by assumption) (by assumption) | with_reducible exact p_pre (by assumption) | with_reducible exact ind_pre _ _ | with_reducible exact o_pre0 | with_reducible exact o_pre1 | with_reducible exact o_pre2 (by assumption) | with_reducible exact o_tr (by decide) | (law_clear; (try (simp (disch := decide) only [Int.fmod_eq_emod_of_nonneg, Int.fdiv_eq_ediv_of_nonneg] at *)); omega))); (case k1 => k_asm); (case k2 => k_asm); (case k3 => k_asm); (case k4 => k_asm); (case k5 => k_asm); (case kK => first | exact rfl | assumption); (case kd => first | exact roomD hd (by decide) | ktr_room); (case ku => first | exact roomU hu (by decide) | ktr_units); k_whole); intro t9 h9 tk9 F9 N9; (try dsimp only); (try k_sweep); (try k_fold); walk_say "CONTRACT to_jd_arm3")
  k_with "call ref" => (k_here; k_dflt (refine' use (c_to_gregorian_mov _ _ _ _ ?kp) ?k1 ?k2 ?k3 ?k4 ?k5 ?kK ?kd ?ku ?_; (case kp => (first | assumption | omega | with_reducible exact ⟨Int.le_refl 1, gLen_pos _ _⟩ | with_reducible exact a_pre (by assumption) | with_reducible exact s_pre (by assumption) | with_reducible exact s_pos (by assumption) | with_reducible exact s_pos3 (by assumption) (by assumption) | with_reducible exact p_pre (by assumption) | with_reducible exact ind_pre _ _ | with_reducible exact o_pre0 | with_reducible exact o_pre1 | with_reducible exact o_pre2 (by assumption) | with_reducible exact o_tr (by decide) | (law_clear; (try (simp (disch := decide) only [Int.fmod_eq_emod_of_nonneg, Int.fdiv_eq_ediv_of_nonneg] at *)); omega))); (case k1 => k_asm); (case k2 => k_asm); (case k3 => k_asm); (case k4 => k_asm); (case k5 => k_asm); (case kK => first | exact rfl | assumption); (case kd => first | exact roomD hd (by decide) | ktr_room); (case ku => first | exact roomU hu (by decide) | ktr_units); k_whole); intro D9 t9 u9 v9 n9 h9 tk9 F9 N9; (try dsimp only); (try k_sweep); (try k_fold); walk_say "CONTRACT to_gregorian_mov")
  k_with "call ref" => (k_here; k_dflt (refine' use (c_from_gregorian_mov _ _ _ _ ?kp) ?k1 ?k2 ?k3 ?k4 ?k5 ?kK ?kd ?ku ?_; (case kp => (first | assumption | omega | with_reducible exact ⟨Int.le_refl 1, gLen_pos _ _⟩ | with_reducible exact a_pre (by assumption) | with_reducible exact s_pre (by assumption) | with_reducible exact s_pos (by assumption) | with_reducible exact s_pos3 (by assumption) (by assumption) | with_reducible exact p_pre (by assumption) | with_reducible exact ind_pre _ _ | with_reducible exact o_pre0 | with_reducible exact o_pre1 | with_reducible exact o_pre2 (by assumption) | with_reducible exact o_tr (by decide) | (law_clear; (try (simp (disch := decide) only [Int.fmod_eq_emod_of_nonneg, Int.fdiv_eq_ediv_of_nonneg] at *)); omega))); (case k1 => k_asm); (case k2 => k_asm); (case k3 => k_asm); (case k4 => k_asm); (case k5 => k_asm); (case kK => first | exact rfl | assumption); (case kd => first | exact roomD hd (by decide) | ktr_room); (case ku => first | exact roomU hu (by decide) | ktr_units); k_whole); intro D9 t9 u9 v9 n9 h9 tk9 F9 N9; (try dsimp only); (try k_sweep); (try k_fold); walk_say "CONTRACT from_gregorian_mov")
  k_with "call ref" => (k_here; k_dflt (refine' use (c_law_julian _ _) ?k1 ?k2 ?k3 ?k4 ?k5 ?kK ?kd ?ku ?_; (case k1 => k_asm); (case k2 => k_asm); (case k3 => k_asm); (case k4 => k_asm); (case k5 => k_asm); (case kK => first | exact rfl | assumption); (case kd => first | exact roomD hd (by decide) | ktr_room); (case ku => first | exact roomU hu (by decide) | ktr_units); k_whole); intro D9 t9 u9 v9 n9 h9 tk9 F9 N9; (try dsimp only); (try k_sweep); (try k_fold); walk_say "CONTRACT law_julian")
  k_with "call ref" => (k_here; k_dflt (refine' use (c_to_julian_mov _ _ _ _ ?kp) ?k1 ?k2 ?k3 ?k4 ?k5 ?kK ?kd ?ku ?_; (case kp => (first | assumption | omega | with_reducible exact ⟨Int.le_refl 1, gLen_pos _ _⟩ | with_reducible exact a_pre (by assumption) | with_reducible exact s_pre (by assumption) | with_reducible exact s_pos (by assumption) | with_reducible exact s_pos3 (by assumption) (by assumption) | with_reducible exact p_pre (by assumption) | with_reducible exact ind_pre _ _ | with_reducible exact o_pre0 | with_reducible exact o_pre1 | with_reducible exact o_pre2 (by assumption) | with_reducible exact o_tr (by decide) | (law_clear; (try (simp (disch := decide) only [Int.fmod_eq_emod_of_nonneg, Int.fdiv_eq_ediv_of_nonneg] at *)); omega))); (case k1 => k_asm); (case k2 => k_asm); (case k3 => k_asm); (case k4 => k_asm); (case k5 => k_asm); (case kK => first | exact rfl | assumption); (case kd => first | exact roomD hd (by decide) | ktr_room); (case ku => first | exact roomU hu (by decide) | ktr_units); k_whole); intro D9 t9 u9 v9 n9 h9 tk9 F9 N9; (try dsimp only); (try k_sweep); (try k_fold); walk_say "CONTRACT to_julian_mov")
  k_with "call ref" => (k_here; k_dflt (refine' use (c_from_julian_mov _ _ _ _ ?kp) ?k1 ?k2 ?k3 ?k4 ?k5 ?kK ?kd ?ku ?_; (case kp => (first | assumption | omega | with_reducible exact ⟨Int.le_refl 1, gLen_pos _ _⟩ | with_reducible exact a_pre (by assumption) | with_reducible exact s_pre (by assumption) | with_reducible exact s_pos (by assumption) | with_reducible exact s_pos3 (by assumption) (by assumption) | with_reducible exact p_pre (by assumption) | with_reducible exact ind_pre _ _ | with_reducible exact o_pre0 | with_reducible exact o_pre1 | with_reducible exact o_pre2 (by assumption) | with_reducible exact o_tr (by decide) | (law_clear; (try (simp (disch := decide) only [Int.fmod_eq_emod_of_nonneg, Int.fdiv_eq_ediv_of_nonneg] at *)); omega))); (case k1 => k_asm); (case k2 => k_asm); (case k3 => k_asm); (case k4 => k_asm); (case k5 => k_asm); (case kK => first | exact rfl | assumption); (case kd => first | exact roomD hd (by decide) | ktr_room); (case ku => first | exact roomU hu (by decide) | ktr_units); k_whole); intro D9 t9 u9 v9 n9 h9 tk9 F9 N9; (try dsimp only); (try k_sweep); (try k_fold); walk_say "CONTRACT from_julian_mov")
  k_with "call ref" => (k_here; k_dflt (refine' useR (c_refused_moveable _ _ _ ?kp) ?k1 ?k2 ?k3 ?k4 ?k5 ?k6 ?k7 ?kD ?kT ?kK ?kd ?ku ?_; (case kp => (first | assumption | omega | with_reducible exact ⟨Int.le_refl 1, gLen_pos _ _⟩ | with_reducible exact a_pre (by assumption) | with_reducible exact s_pre (by assumption) | with_reducible exact s_pos (by assumption) | with_reducible exact s_pos3 (by assumption) (by assumption) | with_reducible exact p_pre (by assumption) | with_reducible exact ind_pre _ _ | with_reducible exact o_pre0 | with_reducible exact o_pre1 | with_reducible exact o_pre2 (by assumption) | with_reducible exact o_tr (by decide) | (law_clear; (try (simp (disch := decide) only [Int.fmod_eq_emod_of_nonneg, Int.fdiv_eq_ediv_of_nonneg] at *)); omega))); (case k1 => k_asm); (case k2 => k_asm); (case k3 => k_asm); (case k4 => k_asm); (case k5 => k_asm); (case k6 => assumption); (case k7 => assumption); (case kD => assumption); (case kT => first | assumption | exact KtsTurn.refl); (case kK => first | exact rfl | assumption); (case kd => first | exact roomD hd (by decide) | ktr_room); (case ku => first | exact roomU hu (by decide) | ktr_units); k_whole); intro kg h9 tk9 kT kF kN kB kX₀ kP kD; (try dsimp only); (have kX := kX₀.keeps kF.keep); (try k_lift kB); (try k_fold); walk_say "CONTRACT refused_moveable")
  k_with "call ref" => (k_here; k_dflt (refine' useR (c_refused_sarkawag _ _ _ ?kp) ?k1 ?k2 ?k3 ?k4 ?k5 ?k6 ?k7 ?kD ?kT ?kK ?kd ?ku ?_; (case kp => (first | assumption | omega | with_reducible exact ⟨Int.le_refl 1, gLen_pos _ _⟩ | with_reducible exact a_pre (by assumption) | with_reducible exact s_pre (by assumption) | with_reducible exact s_pos (by assumption) | with_reducible exact s_pos3 (by assumption) (by assumption) | with_reducible exact p_pre (by assumption) | with_reducible exact ind_pre _ _ | with_reducible exact o_pre0 | with_reducible exact o_pre1 | with_reducible exact o_pre2 (by assumption) | with_reducible exact o_tr (by decide) | (law_clear; (try (simp (disch := decide) only [Int.fmod_eq_emod_of_nonneg, Int.fdiv_eq_ediv_of_nonneg] at *)); omega))); (case k1 => k_asm); (case k2 => k_asm); (case k3 => k_asm); (case k4 => k_asm); (case k5 => k_asm); (case k6 => assumption); (case k7 => assumption); (case kD => assumption); (case kT => first | assumption | exact KtsTurn.refl); (case kK => first | exact rfl | assumption); (case kd => first | exact roomD hd (by decide) | ktr_room); (case ku => first | exact roomU hu (by decide) | ktr_units); k_whole); intro kg h9 tk9 kT kF kN kB kX₀ kP kD; (try dsimp only); (have kX := kX₀.keeps kF.keep); (try k_lift kB); (try k_fold); walk_say "CONTRACT refused_sarkawag")
  intro dp un gd cn cs a ccd A₀ base h₀ L m' news s Q E hB hF hK hN hT hKB hTB hk hd hu hret
  refine wpAny_call ?_
  k_dflt (((refine' enterS0 ?k1 ?k2 ?k3 ?k4 ?k5 ?kA ?k6 ?k7 ?k8 ?k9 ?kB ?_ ?cK ?c2 ?c3 ?c4 ?c5; (case kA => exact rfl); (case k2 => k_asm); (case k1 => k_asm); (case k3 => k_asm); (case k4 => k_asm); (case k5 => k_asm); (case k6 => k_is); (case k7 => k_is); (case k8 => first | exact roomE hd | ktr_room); (case k9 => exact BindsTo.of_eq rfl); (case kB => exact locs rfl); (case cK => first | exact rfl | assumption); (case c2 => exact rfl); (case c3 => exact rfl); (case c4 => exact rfl); (case c5 => decide); k_whole; intro g' L' h' FG' F' N' B' X' T' D'; (try dsimp only); (try k_lift B'); (try k_fold))))
  k_steps
  all_goals first | (exfalso; exact absurd rfl (by assumption)) | ((((try intro kN2); (try dsimp only); first | refine' fin1I (by assumption) (by k_asm) (by assumption) ?_ | refine' fin1B (by assumption) (by k_asm) (by assumption) ?_ | ((rename News _ _ _ (_ :: _) => kN1); first | refine' fin3 (by assumption) (by k_asm) (by assumption) kN1 (by k_mem) ?_ | refine' fin2 (by assumption) (by k_asm) (by assumption) kN1 (by k_mem) ?_ | refine' fin5 (by assumption) (by k_asm) (by assumption) kN1 (by k_mem) ?_ | refine' finL (by assumption) (by k_asm) (by assumption) kN1 (by k_mem) ?_))); first | rfl | exact beq_self_eq_true _ | simp)
end
theorem c_from_jd_mayan {prog w p loose mean mg mb} (n : Int) (t : Tok) (hp : 584283 ≤ n) : Ctr prog w (heapK w.params) p loose mean mg mb 261 [.int n t] 9 (Ret5 (m1 n) (m2 n) (m3 n) (m4 n) (m5 n)) :=
  ctr_5 (args := [.i (n)]) (k_from_jd_mayan _ _ (by exact ⟨hp, rfl⟩)) fun news => r_i1 news
theorem c_from_gregorian_mayan {prog w p loose mean mg mb} (n : Int) (t0 t1 t2 : Tok) (hp : 584283 ≤ n) : Ctr prog w (heapK w.params) p loose mean mg mb 275 [.int (gY n) t0, .int (gM n) t1, .int (gD n) t2] 12 (Ret5 (m1 n) (m2 n) (m3 n) (m4 n) (m5 n)) :=
  ctr_5 (args := [.i (gY n), .i (gM n), .i (gD n)]) (k_from_gregorian_mayan _ _ (by refine Exists.intro n ⟨⟨rfl, rfl, rfl⟩, hp, rfl⟩)) fun news => r_i3 news
theorem c_to_jd_mayan {prog w p loose mean mg mb} (n : Int) (t0 t1 t2 t3 t4 : Tok) : Ctr prog w (heapK w.params) p loose mean mg mb 254 [.int (m1 n) t0, .int (m2 n) t1, .int (m3 n) t2, .int (m4 n) t3, .int (m5 n) t4] 9 (Ret1 (fun t => .int (n) t)) :=
  ctr_1I (args := [.i (m1 n), .i (m2 n), .i (m3 n), .i (m4 n), .i (m5 n)]) (k_to_jd_mayan _ _ (by refine Exists.intro n ⟨⟨rfl, rfl, rfl, rfl, rfl⟩, rfl⟩)) fun news => r_i5 news
theorem c_to_gregorian_mayan {prog w p loose mean mg mb} (n : Int) (t0 t1 t2 t3 t4 : Tok) : Ctr prog w (heapK w.params) p loose mean mg mb 268 [.int (m1 n) t0, .int (m2 n) t1, .int (m3 n) t2, .int (m4 n) t3, .int (m5 n) t4] 13 (Ret3 (gY n) (gM n) (gD n)) :=
  ctr_3 (args := [.i (m1 n), .i (m2 n), .i (m3 n), .i (m4 n), .i (m5 n)]) (k_to_gregorian_mayan _ _ (by refine Exists.intro n ⟨⟨rfl, rfl, rfl, rfl, rfl⟩, rfl⟩)) fun news => r_i5 news
section
set_option maxRecDepth 100000 in
set_option maxHeartbeats 4000000 in
theorem c_refused_mayan {prog w mean mg mb} (n : Int) (t z : Tok) (hp : n < 584283) : CtrR prog w (heapK w.params) q0 LS mean mg mb 429 [.str (Str.ofString "mayan") z, .int n t] 12 := by
  k_with_none
  intro dp un gd cn cs a ccd outer A₀ base g₀ h₀ L m' news s Q E hB hF hK hN hT hKB hTB hDX hT0 hk hd hu hret
  refine wpAny_call ?_
  k_dflt (refine' code_defS ?k1 ?k2 ?k3 ?k4 ?k5 ?XB ?TB ?D ?T0 ?kA ?k6 ?k7 ?k8 ?k9 ?kB ?_ ?cK ?c2 ?c3 ?c4 ?c5; (case kA => exact rfl); (case k2 => k_asm); (case k1 => k_asm); (case XB => assumption); (case TB => assumption); (case D => assumption); (case T0 => assumption); (case k3 => k_asm); (case k4 => k_asm); (case k5 => k_asm); (case k6 => k_is); (case k7 => k_is); (case k8 => exact roomE hd); (case k9 => exact BindsTo.of_eq rfl); (case kB => exact locs rfl); (case cK => first | exact rfl | assumption); (case c2 => exact rfl); (case c3 => exact rfl); (case c4 => exact rfl); (case c5 => decide); k_whole; intro g' L' h' FG' F' N' B' X' T' D'; (try dsimp only); (try k_lift B'); (try k_fold))
  k_steps
  all_goals (refine' hret _ _ _ ?zT ?zF ?zN ?zB ?zX ?zP ?zD; (case zT => assumption); (case zF => assumption); (case zN => exact fun q hq => (by assumption : News _ _ _ _) q (by repeat (first | exact hq | refine List.mem_cons_of_mem _ ?_))); (case zB => assumption); (case zX => assumption); (case zP => assumption); (case zD => assumption))
end
section
local macro_rules | `(tactic| walk_at "noteFrame ref") => `(tactic| (k_here; (rename Heap.NewExc _ _ _ _ => kNX); k_dflt (refine' pos_clause ?K kNX ?F ?N ?XB ?TB ?hk ?e1 ?e2 ?l ?x1 ?x2 ?nd ?_; (case K => assumption); (case F => assumption); (case N => assumption); (case XB => assumption); (case TB => assumption); (case hk => exact rfl); (case e1 => k_is); (case e2 => k_is); (case l => exact rfl); (case x1 => exact rfl); (case x2 => exact rfl); (case nd => decide); k_whole); intro kG km kh ke kt ktk ktm kR kF kU; clear kNX; (try dsimp only at kR kF kU ⊢)))
set_option maxRecDepth 100000 in
set_option maxHeartbeats 4000000 in
theorem c_refused_positivist {prog w mean mg mb} (n : Int) (t z : Tok) (hp : n < 2374480) : CtrR prog w (heapK w.params) q0 LS mean mg mb 429 [.str (Str.ofString "positivist") z, .int n t] 12 := by
  k_with_none
  intro dp un gd cn cs a ccd outer A₀ base g₀ h₀ L m' news s Q E hB hF hK hN hT hKB hTB hDX hT0 hk hd hu hret
  refine wpAny_call ?_
  k_dflt (refine' code_defS ?k1 ?k2 ?k3 ?k4 ?k5 ?XB ?TB ?D ?T0 ?kA ?k6 ?k7 ?k8 ?k9 ?kB ?_ ?cK ?c2 ?c3 ?c4 ?c5; (case kA => exact rfl); (case k2 => k_asm); (case k1 => k_asm); (case XB => assumption); (case TB => assumption); (case D => assumption); (case T0 => assumption); (case k3 => k_asm); (case k4 => k_asm); (case k5 => k_asm); (case k6 => k_is); (case k7 => k_is); (case k8 => exact roomE hd); (case k9 => exact BindsTo.of_eq rfl); (case kB => exact locs rfl); (case cK => first | exact rfl | assumption); (case c2 => exact rfl); (case c3 => exact rfl); (case c4 => exact rfl); (case c5 => decide); k_whole; intro g' L' h' FG' F' N' B' X' T' D'; (try dsimp only); (try k_lift B'); (try k_fold))
  k_steps
  all_goals (refine' hret _ _ _ ?zT ?zF ?zN ?zB ?zX ?zP ?zD; (case zT => assumption); (case zF => assumption); (case zN => exact fun q hq => (by assumption : News _ _ _ _) q (by repeat (first | exact hq | refine List.mem_cons_of_mem _ ?_))); (case zB => assumption); (case zX => assumption); (case zP => assumption); (case zD => assumption))
end
section
local macro_rules | `(tactic| walk_at "noteFrame ref") => `(tactic| (k_here; (rename Heap.NewExc _ _ _ _ => kNX); k_dflt (refine' pos_clause ?K kNX ?F ?N ?XB ?TB ?hk ?e1 ?e2 ?l ?x1 ?x2 ?nd ?_; (case K => assumption); (case F => assumption); (case N => assumption); (case XB => assumption); (case TB => assumption); (case hk => exact rfl); (case e1 => k_is); (case e2 => k_is); (case l => exact rfl); (case x1 => exact rfl); (case x2 => exact rfl); (case nd => decide); k_whole); intro kG km kh ke kt ktk ktm kR kF kU; clear kNX; (try dsimp only at kR kF kU ⊢)))
set_option maxRecDepth 100000 in
set_option maxHeartbeats 4000000 in
theorem c_law_last_two_l {prog w mean mg mb} (n : Int) (t9 t0 t1 t2 : Tok) (hlow : n < 2374480) : CtrS prog w (heapK w.params) q0 LS mean mg mb 450 [.int n t9, .int (gY n) t0, .int (gM n) t1, .int (gD n) t2] 20 (Ret1 (fun _ => .bool (true))) := by
  k_with_none
  k_with "call ref" => (k_here; k_dflt (refine' use (c_law_longcount _ _) ?k1 ?k2 ?k3 ?k4 ?k5 ?kK ?kd ?ku ?_; (case k1 => k_asm); (case k2 => k_asm); (case k3 => k_asm); (case k4 => k_asm); (case k5 => k_asm); (case kK => first | exact rfl | assumption); (case kd => first | exact roomD hd (by decide) | ktr_room); (case ku => first | exact roomU hu (by decide) | ktr_units); k_whole); intro D9 t9 u9 v9 w9 x9 n9 h9 tk9 F9 N9; (try dsimp only); (try k_sweep); (try k_fold); walk_say "CONTRACT law_longcount")
  k_with "call ref" => (k_here; k_dflt (refine' use (c_from_jd_mayan _ _ ?kp) ?k1 ?k2 ?k3 ?k4 ?k5 ?kK ?kd ?ku ?_; (case kp => (first | assumption | omega | with_reducible exact ⟨Int.le_refl 1, gLen_pos _ _⟩ | with_reducible exact a_pre (by assumption) | with_reducible exact s_pre (by assumption) | with_reducible exact s_pos (by assumption) | with_reducible exact s_pos3 (by assumption) (by assumption) | with_reducible exact p_pre (by assumption) | with_reducible exact ind_pre _ _ | with_reducible exact o_pre0 | with_reducible exact o_pre1 | with_reducible exact o_pre2 (by assumption) | with_reducible exact o_tr (by decide) | (law_clear; (try (simp (disch := decide) only [Int.fmod_eq_emod_of_nonneg, Int.fdiv_eq_ediv_of_nonneg] at *)); omega))); (case k1 => k_asm); (case k2 => k_asm); (case k3 => k_asm); (case k4 => k_asm); (case k5 => k_asm); (case kK => first | exact rfl | assumption); (case kd => first | exact roomD hd (by decide) | ktr_room); (case ku => first | exact roomU hu (by decide) | ktr_units); k_whole); intro D9 t9 u9 v9 w9 x9 n9 h9 tk9 F9 N9; (try dsimp only); (try k_sweep); (try k_fold); walk_say "CONTRACT from_jd_mayan")
  k_with "call ref" => (k_here; k_dflt (refine' use (c_from_gregorian_mayan _ _ _ _ ?kp) ?k1 ?k2 ?k3 ?k4 ?k5 ?kK ?kd ?ku ?_; (case kp => (first | assumption | omega | with_reducible exact ⟨Int.le_refl 1, gLen_pos _ _⟩ | with_reducible exact a_pre (by assumption) | with_reducible exact s_pre (by assumption) | with_reducible exact s_pos (by assumption) | with_reducible exact s_pos3 (by assumption) (by assumption) | with_reducible exact p_pre (by assumption) | with_reducible exact ind_pre _ _ | with_reducible exact o_pre0 | with_reducible exact o_pre1 | with_reducible exact o_pre2 (by assumption) | with_reducible exact o_tr (by decide) | (law_clear; (try (simp (disch := decide) only [Int.fmod_eq_emod_of_nonneg, Int.fdiv_eq_ediv_of_nonneg] at *)); omega))); (case k1 => k_asm); (case k2 => k_asm); (case k3 => k_asm); (case k4 => k_asm); (case k5 => k_asm); (case kK => first | exact rfl | assumption); (case kd => first | exact roomD hd (by decide) | ktr_room); (case ku => first | exact roomU hu (by decide) | ktr_units); k_whole); intro D9 t9 u9 v9 w9 x9 n9 h9 tk9 F9 N9; (try dsimp only); (try k_sweep); (try k_fold); walk_say "CONTRACT from_gregorian_mayan")
  k_with "call ref" => (k_here; k_dflt (refine' use (c_to_jd_mayan _ _ _ _ _ _) ?k1 ?k2 ?k3 ?k4 ?k5 ?kK ?kd ?ku ?_; (case k1 => k_asm); (case k2 => k_asm); (case k3 => k_asm); (case k4 => k_asm); (case k5 => k_asm); (case kK => first | exact rfl | assumption); (case kd => first | exact roomD hd (by decide) | ktr_room); (case ku => first | exact roomU hu (by decide) | ktr_units); k_whole); intro t9 h9 tk9 F9 N9; (try dsimp only); (try k_sweep); (try k_fold); walk_say "CONTRACT to_jd_mayan")
  k_with "call ref" => (k_here; k_dflt (refine' use (c_to_gregorian_mayan _ _ _ _ _ _) ?k1 ?k2 ?k3 ?k4 ?k5 ?kK ?kd ?ku ?_; (case k1 => k_asm); (case k2 => k_asm); (case k3 => k_asm); (case k4 => k_asm); (case k5 => k_asm); (case kK => first | exact rfl | assumption); (case kd => first | exact roomD hd (by decide) | ktr_room); (case ku => first | exact roomU hu (by decide) | ktr_units); k_whole); intro D9 t9 u9 v9 n9 h9 tk9 F9 N9; (try dsimp only); (try k_sweep); (try k_fold); walk_say "CONTRACT to_gregorian_mayan")
  k_with "call ref" => (k_here; k_dflt (refine' useR (c_refused_mayan _ _ _ ?kp) ?k1 ?k2 ?k3 ?k4 ?k5 ?k6 ?k7 ?kD ?kT ?kK ?kd ?ku ?_; (case kp => (first | assumption | omega | with_reducible exact ⟨Int.le_refl 1, gLen_pos _ _⟩ | with_reducible exact a_pre (by assumption) | with_reducible exact s_pre (by assumption) | with_reducible exact s_pos (by assumption) | with_reducible exact s_pos3 (by assumption) (by assumption) | with_reducible exact p_pre (by assumption) | with_reducible exact ind_pre _ _ | with_reducible exact o_pre0 | with_reducible exact o_pre1 | with_reducible exact o_pre2 (by assumption) | with_reducible exact o_tr (by decide) | (law_clear; (try (simp (disch := decide) only [Int.fmod_eq_emod_of_nonneg, Int.fdiv_eq_ediv_of_nonneg] at *)); omega))); (case k1 => k_asm); (case k2 => k_asm); (case k3 => k_asm); (case k4 => k_asm); (case k5 => k_asm); (case k6 => assumption); (case k7 => assumption); (case kD => assumption); (case kT => first | assumption | exact KtsTurn.refl); (case kK => first | exact rfl | assumption); (case kd => first | exact roomD hd (by decide) | ktr_room); (case ku => first | exact roomU hu (by decide) | ktr_units); k_whole); intro kg h9 tk9 kT kF kN kB kX₀ kP kD; (try dsimp only); (have kX := kX₀.keeps kF.keep); (try k_lift kB); (try k_fold); walk_say "CONTRACT refused_mayan")
  k_with "call ref" => (k_here; k_dflt (refine' useR (c_refused_positivist _ _ _ ?kp) ?k1 ?k2 ?k3 ?k4 ?k5 ?k6 ?k7 ?kD ?kT ?kK ?kd ?ku ?_; (case kp => (first | assumption | omega | with_reducible exact ⟨Int.le_refl 1, gLen_pos _ _⟩ | with_reducible exact a_pre (by assumption) | with_reducible exact s_pre (by assumption) | with_reducible exact s_pos (by assumption) | with_reducible exact s_pos3 (by assumption) (by assumption) | with_reducible exact p_pre (by assumption) | with_reducible exact ind_pre _ _ | with_reducible exact o_pre0 | with_reducible exact o_pre1 | with_reducible exact o_pre2 (by assumption) | with_reducible exact o_tr (by decide) | (law_clear; (try (simp (disch := decide) only [Int.fmod_eq_emod_of_nonneg, Int.fdiv_eq_ediv_of_nonneg] at *)); omega))); (case k1 => k_asm); (case k2 => k_asm); (case k3 => k_asm); (case k4 => k_asm); (case k5 => k_asm); (case k6 => assumption); (case k7 => assumption); (case kD => assumption); (case kT => first | assumption | exact KtsTurn.refl); (case kK => first | exact rfl | assumption); (case kd => first | exact roomD hd (by decide) | ktr_room); (case ku => first | exact roomU hu (by decide) | ktr_units); k_whole); intro kg h9 tk9 kT kF kN kB kX₀ kP kD; (try dsimp only); (have kX := kX₀.keeps kF.keep); (try k_lift kB); (try k_fold); walk_say "CONTRACT refused_positivist")
  intro dp un gd cn cs a ccd A₀ base h₀ L m' news s Q E hB hF hK hN hT hKB hTB hk hd hu hret
  refine wpAny_call ?_
  k_dflt (((refine' enterS0 ?k1 ?k2 ?k3 ?k4 ?k5 ?kA ?k6 ?k7 ?k8 ?k9 ?kB ?_ ?cK ?c2 ?c3 ?c4 ?c5; (case kA => exact rfl); (case k2 => k_asm); (case k1 => k_asm); (case k3 => k_asm); (case k4 => k_asm); (case k5 => k_asm); (case k6 => k_is); (case k7 => k_is); (case k8 => first | exact roomE hd | ktr_room); (case k9 => exact BindsTo.of_eq rfl); (case kB => exact locs rfl); (case cK => first | exact rfl | assumption); (case c2 => exact rfl); (case c3 => exact rfl); (case c4 => exact rfl); (case c5 => decide); k_whole; intro g' L' h' FG' F' N' B' X' T' D'; (try dsimp only); (try k_lift B'); (try k_fold))))
  k_steps
  all_goals first | (exfalso; exact absurd rfl (by assumption)) | ((((try intro kN2); (try dsimp only); first | refine' fin1I (by assumption) (by k_asm) (by assumption) ?_ | refine' fin1B (by assumption) (by k_asm) (by assumption) ?_ | ((rename News _ _ _ (_ :: _) => kN1); first | refine' fin3 (by assumption) (by k_asm) (by assumption) kN1 (by k_mem) ?_ | refine' fin2 (by assumption) (by k_asm) (by assumption) kN1 (by k_mem) ?_ | refine' fin5 (by assumption) (by k_asm) (by assumption) kN1 (by k_mem) ?_ | refine' finL (by assumption) (by k_asm) (by assumption) kN1 (by k_mem) ?_))); first | rfl | exact beq_self_eq_true _ | simp)
end
theorem c_law_january {prog w p loose mean mg mb} (y : Int) (t : Tok) : Ctr prog w (heapK w.params) p loose mean mg mb 380 [.int y t] 9 (Ret1 (fun t => .int (jan1 y) t)) :=
  ctr_1I (args := [.i (y)]) (k_law_january _ _ (by exact rfl)) fun news => r_i1 news
theorem c_law_gregorian {prog w p loose mean mg mb} (n : Int) (t : Tok) : Ctr prog w (heapK w.params) p loose mean mg mb 359 [.int n t] 10 (Ret3 (gY n) (gM n) (gD n)) :=
  ctr_3 (args := [.i (n)]) (k_law_gregorian _ _ (by exact rfl)) fun news => r_i1 news
theorem c_from_jd_gregorian {prog w p loose mean mg mb} (n : Int) (t : Tok) : Ctr prog w (heapK w.params) p loose mean mg mb 50 [.int n t] 12 (Ret3 (gY n) (gM n) (gD n)) :=
  ctr_3 (args := [.i (n)]) (k_from_jd_gregorian _ _ (by exact rfl)) fun news => r_i1 news
theorem c_to_jd_gregorian_at {prog w p loose mean mg mb} (n : Int) (t0 t1 t2 : Tok) : Ctr prog w (heapK w.params) p loose mean mg mb 43 [.int (gY n) t0, .int (gM n) t1, .int (gD n) t2] 11 (Ret1 (fun t => .int (n) t)) :=
  ctr_1I (args := [.i (gY n), .i (gM n), .i (gD n)]) (k_to_jd_gregorian_at _ _ (by refine Exists.intro n ⟨⟨rfl, rfl, rfl⟩, rfl⟩)) fun news => r_i3 news
theorem c_law_first_five {prog w p loose mean mg mb} (n : Int) (t9 t0 t1 t2 : Tok) : Ctr prog w (heapK w.params) p loose mean mg mb 436 [.int n t9, .int (gY n) t0, .int (gM n) t1, .int (gD n) t2] 15 (Ret1 (fun _ => .bool (true))) :=
  ctr_1B (args := [.i n, .i (gY n), .i (gM n), .i (gD n)]) ((k_law_first_five _ _ (by refine Exists.intro n ⟨⟨rfl, rfl, rfl, rfl⟩, rfl⟩)).mono (by decide)) fun news => r_i4 news
theorem c_law_armenians {prog w mean mg mb} (n : Int) (t9 t0 t1 t2 : Tok) : CtrS prog w (heapK w.params) q0 LS mean mg mb 443 [.int n t9, .int (gY n) t0, .int (gM n) t1, .int (gD n) t2] 20 (Ret1 fun _ => .bool true) := by
  by_cases hlow : n < 2117211
  · exact c_law_armenians_l n t9 t0 t1 t2 hlow
  · exact ctrS_of (ctr_1B (args := [.i n, .i (gY n), .i (gM n), .i (gD n)]) ((k_law_armenians_e _ _ (by refine Exists.intro n ⟨⟨rfl, rfl, rfl, rfl⟩, by omega, rfl⟩)).mono (by decide)) fun news => r_i4 news)
theorem c_law_last_two {prog w mean mg mb} (n : Int) (t9 t0 t1 t2 : Tok) : CtrS prog w (heapK w.params) q0 LS mean mg mb 450 [.int n t9, .int (gY n) t0, .int (gM n) t1, .int (gD n) t2] 20 (Ret1 fun _ => .bool true) := by
  by_cases hlow : n < 2374480
  · exact c_law_last_two_l n t9 t0 t1 t2 hlow
  · exact ctrS_of (ctr_1B (args := [.i n, .i (gY n), .i (gM n), .i (gD n)]) ((k_law_last_two_e _ _ (by refine Exists.intro n ⟨⟨rfl, rfl, rfl, rfl⟩, by omega, rfl⟩)).mono (by decide)) fun news => r_i4 news)
theorem and_of {a b : Bool} (x : a = true) (y : b = true) : (a && b) = true := by rw [x, y]; rfl
theorem said_of (l : OpenLaw) (h1 : l.row.wellSaid = true) (h2 : decide (l.foot ≤ (behindTheImports l.prog).length) = true) (h3 : l.footing.all footLine = true) (h4 : noClassBlock l.prog l.footing = true)
  (h5 : l.most.all (fun n => decide (63 ≤ n)) = true) (h6 : l.bound.all (fun n => decide (2 ^ 63 ≤ n)) = true)
  (h7 : noRoadLSs { strict := true, foot := some l.bound', writes := l.writes, may := l.may } l.footing = true)
  (h8 : defStands l.about l.above = true) (h9 : l.namesIt = true)
  (h10 : (["type", "isinstance", "issubclass", "getattr", "hasattr"] : List Str).all (fun n => l.about != [n]) = true) (h11 : l.bound'.all (fun n => !builtinNamed n || l.about == [n] || !l.reads n) = true)
  (h12 : (!l.writes || (l.prog.main.body.flatMap importedNames).all fun n => !l.reads n) = true)
  (h13 : (l.prog.main.body.flatMap importedNames).all (fun n => !l.reads n || (drawsOf n l.prog.main.body).all fun mn => mn.2 != ("attrgetter" : Str) && mn.2 != ("methodcaller" : Str)) = true)
  (h14 : namesMeet l.prog l.footing (fun sc n => (!(["type", "isinstance", "issubclass", "getattr", "hasattr"] : List Str).contains n || sc.names.lookup n == some .globalImplicit) &&
    (l.may != some n || sc.kind == .module || sc.names.lookup n == some .globalImplicit)) = true)
  (h15 : l.own.contains l.name = true) (h16 : (l.own.eraseDups.length == l.own.length) = true) (h17 : l.own.all (fun n => !builtinNamed n) = true)
  (h18 : namesMeet l.prog l.above (fun _ n => !l.own.contains n) = true) (h19 : (namesMeet l.prog l.footing fun sc n => sc.kind == .module || sc.names.lookup n != some .globalExplicit) = true) : l.wellSaid = true := by
  unfold OpenLaw.wellSaid
  exact and_of (and_of (and_of (and_of (and_of (and_of (and_of (and_of (and_of (and_of (and_of (and_of (and_of (and_of (and_of (and_of (and_of (and_of h1 h2) h3) h4) h5) h6) h7) h8) h9) h10) h11) h12) h13) h14) h15) h16) h17) h18) h19
theorem looks_of (p : Program) (h1 : sreFenced p.main = true) (h2 : ((moduleNames p.main.body).isEmpty || lookedIntoSs (moduleNames p.main.body) p.main.body) = true) (h3 : namesResolve p = true)
  (h4 : p.boundNames.all (fun n => !worldNames.contains n) = true) (bare : List Str) (hb : (["vars", "dir", "locals"] : List Str).filter (readsOut p p.main.body) = bare)
  (h5 : noRoadLSs { strict := !(importedModules p.main.body).all cThrough.contains, foot := none, bare := bare } p.main.body = true) (h6 : (namesMeet p p.main.body fun _ n => attrL n) = true) : looksOpen p = true := by
  unfold looksOpen
  rw [hb]
  exact and_of (and_of (and_of (and_of (and_of h1 h2) h3) h4) h5) h6
theorem lk : looksOpen PySem.Challenge.pw_ja0025_01 = true := by
  refine looks_of _ ?h1 ?h2 ?h3 ?h4 [] ?hb ?h5 ?h6
  case h1 => decide +kernel
  case h2 => decide +kernel
  case h3 => decide +kernel
  case h4 => decide +kernel
  case hb => decide +kernel
  case h5 => decide +kernel
  case h6 => decide +kernel
theorem row_of (r : OpenRow) (h1 : looksOpen r.prog = true) (h2 : r.loose.isEmpty = true) (h3 : r.makers.isEmpty = true)
  (h4 : (r.records.isEmpty || r.raises.all fun ct => ct.1 != .builtin "AttributeError" && ct.1 != .builtin "TypeError") = true)
  (h5 : (r.raises.all fun ct => match ct.1 with | .builtin n => !r.prog.boundNames.contains (Str.ofString n) && !ofTheWorld.contains n | .own _ => true) = true)
  (h6 : decide (r.records.map (·.1)).Nodup = true) (h7 : (r.records.all fun x => !x.1.opensWith "__" && !builtinNamed x.1 && r.prog.boundNames.contains x.1 && x.2.all fun f => !f.1.opensWith "__") = true)
  (h8 : r.toRowW.solid = true) (h9 : r.pre.litsOk = true) (h10 : r.post.litsOk = true) (h11 : r.raises.all (·.2.litsOk) = true)
  (h12 : r.mutates.all (fun i => match r.args[i]? with
    | some sh => !sh.arms.any WShape.isObj
    | none => false) = true)
  (h13 : r.within.all (fun i => decide (i < r.args.length)) = true) (h14 : r.same.all (fun i => decide (i < r.args.length)) = true)
  (h15 : r.prog.boundNames.contains r.name = true) (h16 : (!startupNames.contains r.name) = true) : r.wellSaid = true := by
  unfold OpenRow.wellSaid OpenRow.partSaid
  exact and_of (and_of (and_of (and_of (and_of (and_of (and_of (and_of (and_of (and_of (and_of (and_of (and_of (and_of (and_of h1 h2) h3) h4) h5) h6) h7) h8) h9) h10) h11) h12) h13) h14) h15) h16
theorem a1 : PySem.Challenge.rw_ja0025_01.row.wellSaid = true := by
  refine row_of _ lk ?h2 ?h3 ?h4 ?h5 ?h6 ?h7 ?h8 ?h9 ?h10 ?h11 ?h12 ?h13 ?h14 ?h15 ?h16 <;> decide +kernel
theorem said0 : PySem.Challenge.rw_ja0025_01.wellSaid = true := by
  refine said_of _ a1 ?h2 ?h3 ?h4 ?h5 ?h6 ?h7 ?h8 ?h9 ?h10 ?h11 ?h12 ?h13 ?h14 ?h15 ?h16 ?h17 ?h18 ?h19
  case h2 => decide +kernel
  case h3 => decide +kernel
  case h4 => decide +kernel
  case h5 => decide +kernel
  case h6 => decide +kernel
  case h7 => decide +kernel
  case h8 => decide +kernel
  case h9 => decide +kernel
  case h10 => decide +kernel
  case h11 => decide +kernel
  case h12 => decide +kernel
  case h13 => decide +kernel
  case h14 => decide +kernel
  case h15 => decide +kernel
  case h16 => decide +kernel
  case h17 => decide +kernel
  case h18 => decide +kernel
  case h19 => decide +kernel
theorem fm13 (x : Int) : 0 ≤ Int.fmod x 13 ∧ Int.fmod x 13 < 13 := ⟨Int.fmod_nonneg_of_pos x (by decide), Int.fmod_lt_of_pos x (by decide)⟩
theorem item_some {prog : Program} {w : World} {A : Around} {E : Value → Shared → Prop} {s : Shared} {h₀ : Heap} {L : Addr} {news : Led} {value slice : PySem.Expr} {l : Addr} {vs : List Value} {n₀ : Nat} {ns : List Int} {k : Int} {u : Tok} {Q : Value → Shared → Prop}
    (N : News h₀ L s.heap news) (hm : (l, listOf vs.toArray n₀) ∈ news) (hi : IntsAre vs ns) (hn : ns.length = 13) (h : ∀ x t, Q (.int x t) s)
    (hs : subscripted slice false (.ref l) (.int (Int.fmod k 13) u) = operate [.ref l, .int (Int.fmod k 13) u] (getItem (.ref l) (.int (Int.fmod k 13) u))) :
    wpAny (model prog w) A (subscriptTail value slice (.ref l) (.int (Int.fmod k 13) u)) Q E s :=
  item_list_intsR (N.isList hm) hi (fm13 k).1 (by rw [hn]; exact (fm13 k).2) (Int.lt_trans (fm13 k).2 (by decide)) (h _) hs
local macro_rules | `(tactic| k_qdec) => `(tactic| decide +kernel)
set_option maxRecDepth 100000 in
set_option maxHeartbeats 8000000 in
theorem law_holds : PySem.Challenge.rw_ja0025_01.Holds := by
  k_with_none
  k_with "call ref" => (k_here; k_dflt (refine' use (c_law_year _ _) ?k1 ?k2 ?k3 ?k4 ?k5 ?kK ?kd ?ku ?_; (case k1 => k_asm); (case k2 => k_asm); (case k3 => k_asm); (case k4 => k_asm); (case k5 => k_asm); (case kK => first | exact rfl | assumption); (case kd => first | exact roomD hd (by decide) | ktr_room); (case ku => first | exact roomU hu (by decide) | ktr_units); k_whole); intro t9 h9 tk9 F9 N9; (try dsimp only); (try k_sweep); (try k_fold); walk_say "CONTRACT law_year")
  k_with "call ref" => (k_here; k_dflt (refine' use (c_law_january _ _) ?k1 ?k2 ?k3 ?k4 ?k5 ?kK ?kd ?ku ?_; (case k1 => k_asm); (case k2 => k_asm); (case k3 => k_asm); (case k4 => k_asm); (case k5 => k_asm); (case kK => first | exact rfl | assumption); (case kd => first | exact roomD hd (by decide) | ktr_room); (case ku => first | exact roomU hu (by decide) | ktr_units); k_whole); intro t9 h9 tk9 F9 N9; (try dsimp only); (try k_sweep); (try k_fold); walk_say "CONTRACT law_january")
  k_with "call ref" => (k_here; k_dflt (refine' use (c_law_gregorian _ _) ?k1 ?k2 ?k3 ?k4 ?k5 ?kK ?kd ?ku ?_; (case k1 => k_asm); (case k2 => k_asm); (case k3 => k_asm); (case k4 => k_asm); (case k5 => k_asm); (case kK => first | exact rfl | assumption); (case kd => first | exact roomD hd (by decide) | ktr_room); (case ku => first | exact roomU hu (by decide) | ktr_units); k_whole); intro D9 t9 u9 v9 n9 h9 tk9 F9 N9; (try dsimp only); (try k_sweep); (try k_fold); walk_say "CONTRACT law_gregorian")
  k_with "call ref" => (k_here; k_dflt (refine' use (c_from_jd_gregorian _ _) ?k1 ?k2 ?k3 ?k4 ?k5 ?kK ?kd ?ku ?_; (case k1 => k_asm); (case k2 => k_asm); (case k3 => k_asm); (case k4 => k_asm); (case k5 => k_asm); (case kK => first | exact rfl | assumption); (case kd => first | exact roomD hd (by decide) | ktr_room); (case ku => first | exact roomU hu (by decide) | ktr_units); k_whole); intro D9 t9 u9 v9 n9 h9 tk9 F9 N9; (try dsimp only); (try k_sweep); (try k_fold); walk_say "CONTRACT from_jd_gregorian")
  k_with "call ref" => (k_here; k_dflt (refine' use (c_to_jd_gregorian_at _ _ _ _) ?k1 ?k2 ?k3 ?k4 ?k5 ?kK ?kd ?ku ?_; (case k1 => k_asm); (case k2 => k_asm); (case k3 => k_asm); (case k4 => k_asm); (case k5 => k_asm); (case kK => first | exact rfl | assumption); (case kd => first | exact roomD hd (by decide) | ktr_room); (case ku => first | exact roomU hu (by decide) | ktr_units); k_whole); intro t9 h9 tk9 F9 N9; (try dsimp only); (try k_sweep); (try k_fold); walk_say "CONTRACT to_jd_gregorian_at")
  k_with "call ref" => (k_here; k_dflt (refine' use (c_law_first_five _ _ _ _ _) ?k1 ?k2 ?k3 ?k4 ?k5 ?kK ?kd ?ku ?_; (case k1 => k_asm); (case k2 => k_asm); (case k3 => k_asm); (case k4 => k_asm); (case k5 => k_asm); (case kK => first | exact rfl | assumption); (case kd => first | exact roomD hd (by decide) | ktr_room); (case ku => first | exact roomU hu (by decide) | ktr_units); k_whole); intro t9 h9 tk9 F9 N9; (try dsimp only); (try k_sweep); (try k_fold); walk_say "CONTRACT law_first_five")
  k_with "call ref" => (k_here; k_dflt (refine' useS (c_law_armenians _ _ _ _ _) ?k1 ?k2 ?k3 ?k4 ?k5 ?k6 ?k7 ?kK ?kd ?ku ?_; (case k1 => k_asm); (case k2 => k_asm); (case k3 => k_asm); (case k4 => k_asm); (case k5 => k_asm); (case k6 => k_asm); (case k7 => k_asm); (case kK => first | exact rfl | assumption); (case kd => first | exact roomD hd (by decide) | ktr_room); (case ku => first | exact roomU hu (by decide) | ktr_units); k_whole); intro t9 h9 tk9 F9 N9; (try dsimp only); (try k_sweep); (try k_fold); walk_say "CONTRACT law_armenians")
  k_with "call ref" => (k_here; k_dflt (refine' useS (c_law_last_two _ _ _ _ _) ?k1 ?k2 ?k3 ?k4 ?k5 ?k6 ?k7 ?kK ?kd ?ku ?_; (case k1 => k_asm); (case k2 => k_asm); (case k3 => k_asm); (case k4 => k_asm); (case k5 => k_asm); (case k6 => k_asm); (case k7 => k_asm); (case kK => first | exact rfl | assumption); (case kd => first | exact roomD hd (by decide) | ktr_room); (case ku => first | exact roomU hu (by decide) | ktr_units); k_whole); intro t9 h9 tk9 F9 N9; (try dsimp only); (try k_sweep); (try k_fold); walk_say "CONTRACT law_last_two")
  k_with "subscriptTail" => (k_here; (with_reducible show wpAny _ _ (subscriptTail _ _ (Value.ref _) (Value.int (Int.fmod _ 13) _)) _ _ _); k_dflt (refine' item_some ?k1 ?k2 ?k3 ?k4 ?_ ?k5; (case k1 => k_asm); (case k2 => k_mem); (case k3 => l_ints); (case k4 => exact rfl); (case k5 => with_unfolding_all rfl); k_whole); intro sx9 st9; walk_say "OWN ITEM")
  w_on
  refine holds_law said0 fun said => ?_
  refine holds_open (q := q0) (loose := loose0) (Xt := fun s => xlAt q0 [] s && recOk [] s) (XP := XL q0 []) (Yf := (kHook heapK as0 as0_eq).obs) (Ya := (kHook heapK as0 as0_eq).val) (YP := (kHook heapK as0 as0_eq).says) (N := 5516) hl1 (kHook heapK as0 as0_eq).of (kHook heapK as0 as0_eq).keeps (fun s e => xl_of s (Bool.and_eq_true_iff.mp e).1) XL.keeps (by rfl) (by rfl) (by rfl) (fun s e => recFacts_of (Bool.and_eq_true_iff.mp e).2) (by rfl) (by first | assumption | decide +kernel) (by decide +kernel) ⟨rfl, rfl, rfl, rfl, rfl, by decide +kernel⟩ ?hw ?hc
  case hw => w_witness2
  w_strict (k_go0; (all_goals try k_fold); k_steps; (all_goals (try k_data)))
end Mine
theorem PySem.Challenge.cw_ja0025_01_holds : PySem.Challenge.rw_ja0025_01.Holds := by
  exact Mine.law_holds
