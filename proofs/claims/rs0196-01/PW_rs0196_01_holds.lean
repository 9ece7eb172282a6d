import PyProof.Rows.All
import Wide.All
import OpenK.AllK
import Wide.FinOn
import PySem.Challenge.RW_rs0196_01
open PySem PySem.W PyProof.Rows
set_option Elab.async false
open PySem.Calls
set_option linter.unusedVariables false
namespace Td
/-! K1 -/
/-- the part of the heap that the walk reads: the top's names, the operators' table, two code objects (printed by a program) -/
def entF (P : Params) (k : Str) (t : Tok) (v : Value) : DictEntry := ⟨PyData.keyHash P k, .str k t, v⟩
def mk78 (P : Params) (l : List (Str × Tok × Int × Tok)) : List DictEntry := l.map fun q => entF P q.1 q.2.1 (.int q.2.2.1 q.2.2.2)
def tab78 : List (Str × Tok × Int × Tok) :=
  ("!", 424, 54, 420) ::
  ("!=", 426, 28, 368) ::
  ("%", 428, 24, 360) ::
  ("%=", 430, 40, 392) ::
  ("&", 432, 19, 350) ::
  ("&=", 434, 41, 394) ::
  ("(", 436, 7, 326) ::
  (")", 438, 8, 328) ::
  ("*", 440, 16, 344) ::
  ("**", 442, 35, 382) ::
  ("**=", 444, 46, 404) ::
  ("*=", 446, 38, 388) ::
  ("+", 448, 14, 340) ::
  ("+=", 450, 36, 384) ::
  (",", 452, 12, 336) ::
  ("-", 454, 15, 342) ::
  ("-=", 456, 37, 386) ::
  ("->", 458, 51, 414) ::
  (".", 460, 23, 358) ::
  ("...", 462, 52, 416) ::
  ("/", 464, 17, 346) ::
  ("//", 466, 47, 406) ::
  ("//=", 468, 48, 408) ::
  ("/=", 470, 39, 390) ::
  (":", 472, 11, 334) ::
  (":=", 474, 53, 418) ::
  (";", 476, 13, 338) ::
  ("<", 478, 20, 352) ::
  ("<<", 480, 33, 378) ::
  ("<<=", 482, 44, 400) ::
  ("<=", 484, 29, 370) ::
  ("=", 486, 22, 356) ::
  ("==", 488, 27, 366) ::
  (">", 490, 21, 354) ::
  (">=", 492, 30, 372) ::
  (">>", 493, 34, 380) ::
  (">>=", 494, 45, 402) ::
  ("@", 495, 49, 410) ::
  ("@=", 496, 50, 412) ::
  ("[", 497, 9, 330) ::
  ("]", 498, 10, 332) ::
  ("^", 499, 32, 376) ::
  ("^=", 500, 43, 398) ::
  ("{", 501, 25, 362) ::
  ("|", 502, 18, 348) ::
  ("|=", 503, 42, 396) ::
  ("}", 504, 26, 364) ::
  ("~", 505, 31, 374) :: []
def top3 (P : Params) : List DictEntry :=
  entF P "__name__" 165 (.str (Str.ofString "law_rs0196_01") 542) ::
  entF P "__doc__" 166 (.none) ::
  entF P "__package__" 167 (.none) ::
  entF P "__loader__" 168 (.builtin "__main__.__loader__#opaque") ::
  entF P "__spec__" 169 (.none) ::
  entF P "__annotations__" 170 (.ref 6) ::
  entF P "__builtins__" 171 (.ref 4) ::
  entF P "__file__" 173 (.str (Str.ofString "/claim/cut.py") 172) ::
  entF P "__cached__" 174 (.none) ::
  entF P "ONE_THIRD" 192 (.float 4599676419421066581 191) ::
  entF P "ONE_SIXTH" 196 (.float 4595172819793696085 195) ::
  entF P "TWO_THIRD" 200 (.float 4604180019048437077 199) ::
  entF P "rgb_to_hls" 219 (.ref 21) ::
  entF P "hls_to_rgb" 230 (.ref 28) ::
  entF P "_v" 239 (.ref 35) ::
  entF P "_DIV_LIMIT" 243 (.int 4000 242) ::
  entF P "_div2n1n" 260 (.ref 42) ::
  entF P "_div3n2n" 274 (.ref 49) ::
  entF P "_int2digits" 285 (.ref 56) ::
  entF P "_digits2int" 296 (.ref 63) ::
  entF P "_divmod_pos" 311 (.ref 70) ::
  entF P "int_divmod" 321 (.ref 77) ::
  entF P "ENDMARKER" 325 (.int 0 324) ::
  entF P "LPAR" 327 (.int 7 326) ::
  entF P "RPAR" 329 (.int 8 328) ::
  entF P "LSQB" 331 (.int 9 330) ::
  entF P "RSQB" 333 (.int 10 332) ::
  entF P "COLON" 335 (.int 11 334) ::
  entF P "COMMA" 337 (.int 12 336) ::
  entF P "SEMI" 339 (.int 13 338) ::
  entF P "PLUS" 341 (.int 14 340) ::
  entF P "MINUS" 343 (.int 15 342) ::
  entF P "STAR" 345 (.int 16 344) ::
  entF P "SLASH" 347 (.int 17 346) ::
  entF P "VBAR" 349 (.int 18 348) ::
  entF P "AMPER" 351 (.int 19 350) ::
  entF P "LESS" 353 (.int 20 352) ::
  entF P "GREATER" 355 (.int 21 354) ::
  entF P "EQUAL" 357 (.int 22 356) ::
  entF P "DOT" 359 (.int 23 358) ::
  entF P "PERCENT" 361 (.int 24 360) ::
  entF P "LBRACE" 363 (.int 25 362) ::
  entF P "RBRACE" 365 (.int 26 364) ::
  entF P "EQEQUAL" 367 (.int 27 366) ::
  entF P "NOTEQUAL" 369 (.int 28 368) ::
  entF P "LESSEQUAL" 371 (.int 29 370) ::
  entF P "GREATEREQUAL" 373 (.int 30 372) ::
  entF P "TILDE" 375 (.int 31 374) ::
  entF P "CIRCUMFLEX" 377 (.int 32 376) ::
  entF P "LEFTSHIFT" 379 (.int 33 378) ::
  entF P "RIGHTSHIFT" 381 (.int 34 380) ::
  entF P "DOUBLESTAR" 383 (.int 35 382) ::
  entF P "PLUSEQUAL" 385 (.int 36 384) ::
  entF P "MINEQUAL" 387 (.int 37 386) ::
  entF P "STAREQUAL" 389 (.int 38 388) ::
  entF P "SLASHEQUAL" 391 (.int 39 390) ::
  entF P "PERCENTEQUAL" 393 (.int 40 392) ::
  entF P "AMPEREQUAL" 395 (.int 41 394) ::
  entF P "VBAREQUAL" 397 (.int 42 396) ::
  entF P "CIRCUMFLEXEQUAL" 399 (.int 43 398) ::
  entF P "LEFTSHIFTEQUAL" 401 (.int 44 400) ::
  entF P "RIGHTSHIFTEQUAL" 403 (.int 45 402) ::
  entF P "DOUBLESTAREQUAL" 405 (.int 46 404) ::
  entF P "DOUBLESLASH" 407 (.int 47 406) ::
  entF P "DOUBLESLASHEQUAL" 409 (.int 48 408) ::
  entF P "AT" 411 (.int 49 410) ::
  entF P "ATEQUAL" 413 (.int 50 412) ::
  entF P "RARROW" 415 (.int 51 414) ::
  entF P "ELLIPSIS" 417 (.int 52 416) ::
  entF P "COLONEQUAL" 419 (.int 53 418) ::
  entF P "EXCLAMATION" 421 (.int 54 420) ::
  entF P "NT_OFFSET" 423 (.int 256 422) ::
  entF P "EXACT_TOKEN_TYPES" 520 (.ref 78) ::
  entF P "ISTERMINAL" 527 (.ref 87) ::
  entF P "ISNONTERMINAL" 534 (.ref 94) ::
  entF P "ISEOF" 541 (.ref 101) ::
  entF P "_law_read" 553 (.ref 108) ::
  entF P "_law_over" 564 (.ref 115) ::
  entF P "law" 570 (.ref 120) :: []
def K0 (P : Params) : Frag :=
  (3, { cls := .type "dict", data := .dict (top3 P).toArray 79 }) ::
  (55, { cls := .type "code", data := .fields #[.str (Str.ofString "_int2digits") 275, .str (Str.ofString "_int2digits") 276, .str (Str.ofString "/claim/cut.py") 277, .int 74 0, .int 2 0, .int 0 0, .int 0 0, .int 3 0, .ref 50, .bool true, .int 181 0, .ref 51, .none, .ref 52, .ref 53, .ref 54, .int 283 0, .int 74 0, .str (Str.ofString "/claim/cut.py") 284] }) ::
  (62, { cls := .type "code", data := .fields #[.str (Str.ofString "_digits2int") 286, .str (Str.ofString "_digits2int") 287, .str (Str.ofString "/claim/cut.py") 288, .int 90 0, .int 2 0, .int 0 0, .int 0 0, .int 3 0, .ref 57, .bool true, .int 181 0, .ref 58, .none, .ref 59, .ref 60, .ref 61, .int 294 0, .int 90 0, .str (Str.ofString "/claim/cut.py") 295] }) ::
  (78, { cls := .type "dict", data := .dict (mk78 P tab78).toArray 48 }) :: []
def fnCode : Option Obj → Option Value
  | some ⟨_, _, .func fd, _⟩ => some fd.code
  | _ => none
structure SaysL (w : World) (h : Heap) : Prop where
  k : (K0 w.params).In h
  t1 : h.get? 58 = some (tabObj #[])
  t2 : h.get? 51 = some (tabObj #[])
  f1 : fnCode (h.get? 56) = some (.ref 55)
  f2 : fnCode (h.get? 63) = some (.ref 62)
def hookL : Hook where
  α := List (Option Obj) × List (Option Obj) × List (Option Value)
  obs := fun s => ([s.heap.get? 3, s.heap.get? 55, s.heap.get? 62, s.heap.get? 78], [s.heap.get? 58, s.heap.get? 51], [fnCode (s.heap.get? 56), fnCode (s.heap.get? 63)])
  val := fun w => ((K0 w.params).map fun p => some p.2, [some (tabObj #[]), some (tabObj #[])], [some (.ref 55), some (.ref 62)])
  says := SaysL
  of := fun w s x => by
    obtain ⟨x1, x2⟩ := Prod.mk.inj x
    obtain ⟨x2, x3⟩ := Prod.mk.inj x2
    simp only [List.cons.injEq, and_true] at x2 x3
    exact ⟨InK.of (as := [3, 55, 62, 78]) (fun _ => rfl) w s x1, x2.1, x2.2, x3.1, x3.2⟩
  keeps := fun w h h' x k => by
    have lift : ∀ (a : Addr) (v : Value), fnCode (h.get? a) = some v → fnCode (h'.get? a) = some v := fun a v e => by
      cases q : h.get? a with
      | none => rw [q] at e; cases e
      | some o => rw [q] at e; rw [k _ _ q]; exact e
    exact ⟨InK.keeps w h h' x.k k, k _ _ x.t1, k _ _ x.t2, lift _ _ x.f1, lift _ _ x.f2⟩
/-! L1 -/
abbrev rowP : Program := PySem.Challenge.rw_rs0196_01.row.prog
noncomputable def view : Program := { rowP with main := { rowP.main with body := (rowP.main.body.drop 1).take 6 ++ ((rowP.main.body.drop 8).take 7 ++ ((rowP.main.body.drop 16).take 54 ++ rowP.main.body.drop 71)) } }
def loose : List Str := [Str.ofString "ONE_THIRD", Str.ofString "ONE_SIXTH", Str.ofString "TWO_THIRD", Str.ofString "EXACT_TOKEN_TYPES"]
def lv : List (Str × WData) := [(Str.ofString "ONE_THIRD", WData.float 4599676419421066581), (Str.ofString "ONE_SIXTH", WData.float 4595172819793696085), (Str.ofString "TWO_THIRD", WData.float 4604180019048437077)]
noncomputable def Xt (s : Shared) : Bool := xlAt view lv s && recOk (RowW.records PySem.Challenge.rw_rs0196_01.row.toRowW) s
def Left (w : World) : Prop := (openEnds treeTable rowP w 4148).map (fun s => (openSeen view loose (importedModules rowP.main.body) Xt true s, hookL.obs s)) = some (openGood view loose, hookL.val w)
/-! what the top's dict tells: no run is needed -/
theorem obs3 {w : World} {s : Shared} (e : hookL.obs s = hookL.val w) : s.heap.get? 3 = some { cls := .type "dict", data := .dict (top3 w.params).toArray 79 } := by
  have x := congrArg (fun p : List (Option Obj) × List (Option Obj) × List (Option Value) => p.1.head?) e
  have y : some (s.heap.get? 3) = some (some _) := x
  exact Option.some.inj y
theorem map3 {h : Heap} {P : Params} (e : h.get? 3 = some { cls := .type "dict", data := .dict (top3 P).toArray 79 }) : h.nsMap mainGlobals = nsFind (top3 P).toArray := by
  funext x
  show h.nsMap 3 x = _
  unfold Heap.nsMap
  rw [e]
set_option maxRecDepth 100000 in
set_option maxHeartbeats 8000000 in
theorem post_keys {h : Heap} {P : Params} (e : h.get? 3 = some { cls := .type "dict", data := .dict (top3 P).toArray 79 }) : h.keysOk (looseW view loose) ((recsOf view).map (·.name)) ((litsOf view).map (·.1)) ((clssOf view (looseW view loose)).map (·.name)) = true := by
  unfold Heap.keysOk Heap.nsKeys
  rw [show mainGlobals = 3 from rfl, e]
  kernel_rfl
theorem post_ns {h : Heap} {P : Params} (e : h.get? 3 = some { cls := .type "dict", data := .dict (top3 P).toArray 79 }) : h.isNs mainGlobals = true := by
  unfold Heap.isNs
  rw [show mainGlobals = 3 from rfl, e]
  kernel_rfl
set_option maxRecDepth 100000 in
set_option maxHeartbeats 8000000 in
theorem post_vals {h : Heap} {P : Params} (e : h.nsMap mainGlobals = nsFind (top3 P).toArray) : valsOk view h = true := by
  unfold valsOk Heap.constOk
  rw [e]
  kernel_rfl
set_option maxRecDepth 100000 in
set_option maxHeartbeats 8000000 in
theorem post_Xt {s : Shared} {P : Params} (e : s.heap.nsMap mainGlobals = nsFind (top3 P).toArray) : Xt s = true := by
  unfold Xt xlAt
  rw [e]
  kernel_rfl
/-! what the program alone tells: no state is needed -/
set_option maxRecDepth 100000 in
set_option maxHeartbeats 8000000 in
theorem gen_tables (h : Heap) : tablesOk view h = true := by kernel_rfl
set_option maxRecDepth 100000 in
set_option maxHeartbeats 8000000 in
theorem gen_empty (s : Shared) : (pinSeenD view (drecsOf view) s, plainSeenE view (looseW view loose) s, plainSeenD view loose s, wideSeen view s, clsSeenW view loose s) = (pinGoodD (drecsOf view), plainGoodE view (looseW view loose), plainGoodD view loose, wideGood view, clsGoodW view loose) := by kernel_rfl
/-! what the run tells: one run a row -/
noncomputable def restOf (s : Shared) : Bool := s.heap.accountedOkI (importedModules rowP.main.body) && s.heap.isNs builtinsNs && (s.gens.size == 0) && ((recsOf view).all fun d => s.heap.tab0Ok d.name) && s.heap.bmainOk && s.heap.noSeerOk
def Ends (w : World) : Prop := (openEnds treeTable rowP w 4148).map (fun s => (hookL.obs s, seen ((recsOf view).map (·.name)) (ownsOf view) [] { s with gens := #[] }, s.heap.bltView, restOf s)) = some (hookL.val w, expectedOf view, bltViewBooted, true)
set_option maxRecDepth 100000 in
set_option maxHeartbeats 8000000 in
theorem endsF (w : World) : Ends (w.withFollow "special-get-raises" false) := by unfold Ends; kernel_rfl
set_option maxRecDepth 100000 in
set_option maxHeartbeats 8000000 in
theorem endsT (w : World) : Ends (w.withFollow "special-get-raises" true) := by unfold Ends; kernel_rfl
theorem left_of {w : World} (E : Ends w) : Left w := by
  unfold Ends at E
  obtain ⟨s, a, b⟩ := Option.map_eq_some_iff.mp E
  clear E
  obtain ⟨bO, b⟩ := Prod.mk.inj b
  obtain ⟨bS, b⟩ := Prod.mk.inj b
  obtain ⟨bB, bR⟩ := Prod.mk.inj b
  unfold restOf at bR
  obtain ⟨bR, r6⟩ := Bool.and_eq_true_iff.mp bR
  obtain ⟨bR, r5⟩ := Bool.and_eq_true_iff.mp bR
  obtain ⟨bR, r4⟩ := Bool.and_eq_true_iff.mp bR
  obtain ⟨bR, r3⟩ := Bool.and_eq_true_iff.mp bR
  obtain ⟨r1, r2⟩ := Bool.and_eq_true_iff.mp bR
  have h3 := obs3 bO
  have hm := map3 h3
  obtain ⟨g1, g⟩ := Prod.mk.inj (gen_empty s)
  obtain ⟨g2, g⟩ := Prod.mk.inj g
  obtain ⟨g3, g⟩ := Prod.mk.inj g
  obtain ⟨g4, g5⟩ := Prod.mk.inj g
  have T : tabsOk view s = true := by
    unfold tabsOk
    rw [r4, r5, post_vals hm, r6, Bool.or_true]
    rfl
  have S : openSeen view loose (importedModules rowP.main.body) Xt true s = openGood view loose := by
    unfold openSeen openGood
    rw [bS, bB, post_keys h3, r1, post_ns h3, r2, gen_tables, post_Xt hm, if_pos rfl, r3, T, g1, g2, g3, g4, g5]
    rfl
  unfold Left
  rw [a, Option.map_some, S, bO]
theorem left : LeftO rowP view loose Xt hookL.obs hookL.val 4148 := fun w => byRow2 (P := Left) "special-get-raises" (fun w => left_of (endsF w)) (fun w => left_of (endsT w)) w
/-! L2 -/
set_option maxRecDepth 100000 in
set_option maxHeartbeats 8000000 in
theorem wellR : PySem.Challenge.rw_rs0196_01.row.wellSaid = true := by
  unfold OpenRow.wellSaid OpenRow.partSaid
  repeat' (with_reducible refine look_both ?_ ?_)
  all_goals kernel_rfl
set_option maxRecDepth 100000 in
set_option maxHeartbeats 8000000 in
theorem well : PySem.Challenge.rw_rs0196_01.wellSaid = true := by
  unfold OpenLaw.wellSaid
  repeat' (with_reducible refine look_both ?_ ?_)
  all_goals first | (with_reducible exact wellR) | kernel_rfl
/-! P1 -/
/-- digits, the lowest first -/
def digs (n : Nat) : Nat → Int → List Int
  | 0, _ => []
  | k + 1, x => x % 2 ^ n :: digs n k (x / 2 ^ n)
def dval (n : Nat) : List Int → Int
  | [] => 0
  | d :: ds => d + 2 ^ n * dval n ds
theorem digs_length (n k : Nat) (x : Int) : (digs n k x).length = k := by
  induction k generalizing x with
  | zero => rfl
  | succ k ih => simp [digs, ih]
theorem p2 (n : Nat) : (0 : Int) < 2 ^ n := Int.pow_pos (by decide)
theorem digs_add (n : Nat) : ∀ (j k : Nat) (x : Int), digs n (j + k) x = digs n j (x % 2 ^ (n * j)) ++ digs n k (x / 2 ^ (n * j))
  | 0, k, x => by simp [digs]
  | j + 1, k, x => by
    have e : j + 1 + k = (j + k) + 1 := by lia
    rw [e, digs, digs_add n j k]
    have e2 : (2 : Int) ^ (n * (j + 1)) = 2 ^ n * 2 ^ (n * j) := by rw [Nat.mul_succ, Nat.add_comm, Int.pow_add]
    have h1 : x % 2 ^ (n * (j + 1)) % 2 ^ n = x % 2 ^ n := by rw [e2]; exact Int.emod_emod_of_dvd _ (Int.dvd_mul_right _ _)
    have h2 : x % 2 ^ (n * (j + 1)) / 2 ^ n = x / 2 ^ n % 2 ^ (n * j) := by
      rw [e2, Int.emod_def, Int.emod_def (x / 2 ^ n), Int.ediv_ediv_of_nonneg (Int.le_of_lt (p2 n)), Int.mul_assoc]
      have := Int.add_mul_ediv_left x (-(2 ^ (n * j) * (x / (2 ^ n * 2 ^ (n * j))))) (Int.ne_of_gt (p2 n))
      rw [Int.mul_neg, ← Int.sub_eq_add_neg, ← Int.sub_eq_add_neg] at this
      exact this
    have h3 : x / 2 ^ n / 2 ^ (n * j) = x / 2 ^ (n * (j + 1)) := by rw [e2, Int.ediv_ediv_of_nonneg (Int.le_of_lt (p2 n))]
    simp [digs, h1, h2, h3]
theorem dval_app (n : Nat) (xs ys : List Int) : dval n (xs ++ ys) = dval n xs + 2 ^ (n * xs.length) * dval n ys := by
  induction xs with
  | nil => simp [dval]
  | cons x xs ih =>
    simp only [List.cons_append, dval, ih, List.length_cons]
    rw [Nat.mul_succ, Nat.add_comm (n * xs.length), Int.pow_add, Int.mul_add, Int.add_assoc, Int.mul_assoc]
theorem dval_digs (n : Nat) : ∀ (k : Nat) (x : Int), 0 ≤ x → x < 2 ^ (n * k) → dval n (digs n k x) = x
  | 0, x, h0, h1 => by simp at h1; simp [digs, dval]; lia
  | k + 1, x, h0, h1 => by
    have e2 : (2 : Int) ^ (n * (k + 1)) = 2 ^ n * 2 ^ (n * k) := by rw [Nat.mul_succ, Nat.add_comm, Int.pow_add]
    rw [digs, dval, dval_digs n k _ (Int.ediv_nonneg h0 (Int.le_of_lt (p2 n))) (by rw [Int.ediv_lt_iff_lt_mul (p2 n), Int.mul_comm, ← e2]; exact h1)]
    exact Int.emod_add_mul_ediv x (2 ^ n)
/-- the low digits by xor -/
theorem xor_low {x : Int} (h : 0 ≤ x) (s : Nat) : Builtin.bitXor x (x / 2 ^ s * 2 ^ s) = x % 2 ^ s := by
  obtain ⟨a, rfl⟩ := Int.eq_ofNat_of_zero_le h
  have e : ((a : Int) / 2 ^ s * 2 ^ s) = ((a / 2 ^ s * 2 ^ s : Nat) : Int) := by push_cast; rfl
  rw [PyProof.Rows.bitXor_and, e]
  have hand : a &&& (a / 2 ^ s * 2 ^ s) = a / 2 ^ s * 2 ^ s := by
    apply Nat.eq_of_testBit_eq
    intro i
    rw [Nat.testBit_and, ← Nat.shiftLeft_eq, ← Nat.shiftRight_eq_div_pow, Nat.testBit_shiftLeft, Nat.testBit_shiftRight]
    by_cases h : s ≤ i
    · rw [Nat.add_sub_cancel' h]; simp [h]
    · simp [h]
  have hb : Builtin.bitAnd (a : Int) ((a / 2 ^ s * 2 ^ s : Nat) : Int) = ((a / 2 ^ s * 2 ^ s : Nat) : Int) := by
    unfold Builtin.bitAnd
    simp only [Int.natCast_nonneg, decide_true, Int.toNat_natCast]
    rw [hand]
  rw [hb]
  have := Nat.div_add_mod a (2 ^ s)
  have e3 : (a : Int) = (a / 2 ^ s * 2 ^ s : Nat) + (a % 2 ^ s : Nat) := by rw [Nat.mul_comm] at this; exact_mod_cast this.symm
  have e4 : ((a : Int) % 2 ^ s) = ((a % 2 ^ s : Nat) : Int) := by push_cast; rfl
  rw [e4]
  lia
theorem bits_lt {a : Int} (h : 0 ≤ a) : a < 2 ^ Builtin.Int.intBits a := by
  obtain ⟨k, rfl⟩ := Int.eq_ofNat_of_zero_le h
  unfold Builtin.Int.intBits
  by_cases h0 : k = 0
  · subst h0; decide
  · have e : ((k : Int) == 0) = false := by simpa using h0
    rw [e]
    simp only [Bool.false_eq_true, if_false, Int.natAbs_natCast]
    exact_mod_cast Nat.lt_log2_self
theorem bits_le {a : Int} {k : Nat} (h : 0 ≤ a) (h1 : a < 2 ^ k) : Builtin.Int.intBits a ≤ k := by
  obtain ⟨m, rfl⟩ := Int.eq_ofNat_of_zero_le h
  unfold Builtin.Int.intBits
  split
  · exact Nat.zero_le _
  · rename_i h0
    have hm : m ≠ 0 := by simpa using h0
    have : m < 2 ^ k := by exact_mod_cast h1
    rw [Int.natAbs_natCast]
    exact (Nat.log2_lt hm).mpr this
def cnt (n : Nat) (a : Int) : Nat := (Builtin.Int.intBits a + n - 1) / n
theorem cnt_bits {n : Nat} (hn : 1 ≤ n) (a : Int) : Builtin.Int.intBits a ≤ n * cnt n a := by
  unfold cnt
  have := Nat.div_add_mod (Builtin.Int.intBits a + n - 1) n
  have h2 := Nat.mod_lt (Builtin.Int.intBits a + n - 1) (show n > 0 from hn)
  lia
theorem cnt_lt {n : Nat} (hn : 1 ≤ n) {a : Int} (h : 0 ≤ a) : a < 2 ^ (n * cnt n a) :=
  Int.lt_of_lt_of_le (bits_lt h) (by exact_mod_cast Nat.pow_le_pow_right (n := 2) (by decide) (cnt_bits hn a))
theorem cnt_le {n k : Nat} (hn : 1 ≤ n) {a : Int} (h : 0 ≤ a) (h1 : a < 2 ^ (n * k)) : cnt n a ≤ k := by
  unfold cnt
  have := bits_le h h1
  have h3 : (Builtin.Int.intBits a + n - 1) / n < k + 1 := by
    rw [Nat.div_lt_iff_lt_mul hn, Nat.add_mul, Nat.one_mul, Nat.mul_comm k n]
    lia
  lia
/-! P2 -/
theorem divstep {n : Nat} {b V d : Int} (hb : 0 < b) (hd0 : 0 ≤ d) (hd1 : d < 2 ^ n) :
    (V % b * 2 ^ n + d) % b = (d + 2 ^ n * V) % b ∧ (V % b * 2 ^ n + d) / b + 2 ^ n * (V / b) = (d + 2 ^ n * V) / b ∧ 0 ≤ (V % b * 2 ^ n + d) / b ∧ (V % b * 2 ^ n + d) / b < 2 ^ n ∧ 0 ≤ V % b * 2 ^ n + d ∧ V % b * 2 ^ n + d < b * 2 ^ n := by
  have p := p2 n
  have h0 := Int.emod_nonneg V (Int.ne_of_gt hb)
  have h1 := Int.emod_lt_of_pos V hb
  have e : d + 2 ^ n * V = (V % b * 2 ^ n + d) + b * (2 ^ n * (V / b)) := by
    have := Int.emod_add_mul_ediv V b
    conv => lhs; rw [← this]
    rw [Int.mul_add, Int.mul_comm (V % b), ← Int.mul_assoc, ← Int.mul_assoc, Int.mul_comm (2 ^ n) b]
    lia
  have hn0 : 0 ≤ V % b * 2 ^ n := Int.mul_nonneg h0 (Int.le_of_lt p)
  have hlt : V % b * 2 ^ n + d < b * 2 ^ n := by
    have : (V % b + 1) * 2 ^ n ≤ b * 2 ^ n := Int.mul_le_mul_of_nonneg_right (by lia) (Int.le_of_lt p)
    rw [Int.add_mul] at this
    lia
  refine ⟨?_, ?_, Int.ediv_nonneg (by lia) (Int.le_of_lt hb), ?_, by lia, hlt⟩
  · rw [e, Int.add_mul_emod_self_left]
  · rw [e, Int.add_mul_ediv_left _ _ (Int.ne_of_gt hb)]
  · rw [Int.ediv_lt_iff_lt_mul hb, Int.mul_comm (2 ^ n) b]; exact hlt
/-- what stands behind the i highest digits -/
def hiV (n : Nat) (ds : List Int) (i : Nat) : Int := dval n (ds.drop (ds.length - i))
theorem hiV_succ {n : Nat} {ds : List Int} {i : Nat} (h : i < ds.length) : hiV n ds (i + 1) = ds[ds.length - 1 - i] + 2 ^ n * hiV n ds i := by
  unfold hiV
  have e : ds.length - (i + 1) = ds.length - 1 - i := by lia
  rw [e, List.drop_eq_getElem_cons (by lia : ds.length - 1 - i < ds.length), dval]
  have e2 : ds.length - 1 - i + 1 = ds.length - i := by lia
  rw [e2]
theorem digs_bound (n : Nat) : ∀ (k : Nat) (x : Int), ∀ d ∈ digs n k x, 0 ≤ d ∧ d < 2 ^ n
  | 0, _, d, h => absurd h List.not_mem_nil
  | k + 1, x, d, h => by
    rcases List.mem_cons.mp h with rfl | h
    · exact ⟨Int.emod_nonneg _ (Int.ne_of_gt (p2 n)), Int.emod_lt_of_pos _ (p2 n)⟩
    · exact digs_bound n k _ d h
theorem bits_pos {b : Int} (h : 0 < b) : 1 ≤ Builtin.Int.intBits b := by
  unfold Builtin.Int.intBits
  have : (b == 0) = false := by simpa using Int.ne_of_gt h
  rw [this]; simp
theorem neg_div {a b : Int} (hb : 0 < b) : -((-a - 1) / b) - 1 = a / b ∧ b + (-((-a - 1) % b) - 1) = a % b := by
  have h1 := Int.emod_add_mul_ediv (-a - 1) b
  have h2 := Int.emod_nonneg (-a - 1) (Int.ne_of_gt hb)
  have h3 := Int.emod_lt_of_pos (-a - 1) hb
  have u := (Int.ediv_emod_unique (a := a) (b := b) (r := b + (-((-a - 1) % b) - 1)) (q := -((-a - 1) / b) - 1) hb).mpr ⟨by
    rw [Int.mul_sub, Int.mul_neg]; lia, by lia, by lia⟩
  exact ⟨u.1.symm, u.2.symm⟩
/-! H1 -/
/-- a datum: a tree -/
inductive D where
  | none
  | bool (b : Bool)
  | int (i : Int)
  | flt (b : UInt64)
  | str (x : Str)
  | tup (ds : List D)
  | lst (ds : List D)

abbrev Led := List (Addr × Obj)
abbrev tupOf (its : Array Value) (n : Nat) : Obj := { cls := .type "tuple", data := .seq its n }

mutual
inductive DIn (Z : Led) : Value → D → Prop
  | none : DIn Z .none .none
  | bool (b : Bool) : DIn Z (.bool b) (.bool b)
  | int (i : Int) (t : Tok) : DIn Z (.int i t) (.int i)
  | flt (b : UInt64) (t : Tok) : DIn Z (.float b t) (.flt b)
  | str (x : Str) (t : Tok) : DIn Z (.str x t) (.str x)
  | tup {a : Addr} {vs : List Value} {n : Nat} {ds : List D} : (a, tupOf vs.toArray n) ∈ Z → DAll Z vs ds → DIn Z (.ref a) (.tup ds)
  | lst {a : Addr} {vs : List Value} {n : Nat} {ds : List D} : (a, listOf vs.toArray n) ∈ Z → DAll Z vs ds → DIn Z (.ref a) (.lst ds)
inductive DAll (Z : Led) : List Value → List D → Prop
  | nil : DAll Z [] []
  | cons {v : Value} {vs : List Value} {d : D} {ds : List D} : DIn Z v d → DAll Z vs ds → DAll Z (v :: vs) (d :: ds)
end

def Sub (Z Z' : Led) : Prop := ∀ p ∈ Z, p ∈ Z'
theorem Sub.refl {Z : Led} : Sub Z Z := fun _ h => h
theorem Sub.trans {a b c : Led} (h : Sub a b) (k : Sub b c) : Sub a c := fun p hp => k p (h p hp)
theorem Sub.cons {Z : Led} {p : Addr × Obj} : Sub Z (p :: Z) := fun _ h => .tail _ h

mutual
theorem DIn.mono {Z Z' : Led} (hs : Sub Z Z') : ∀ {v : Value} {d : D}, DIn Z v d → DIn Z' v d
  | _, _, .none => .none
  | _, _, .bool b => .bool b
  | _, _, .int i t => .int i t
  | _, _, .flt b t => .flt b t
  | _, _, .str x t => .str x t
  | _, _, .tup h r => .tup (hs _ h) (DAll.mono hs r)
  | _, _, .lst h r => .lst (hs _ h) (DAll.mono hs r)
theorem DAll.mono {Z Z' : Led} (hs : Sub Z Z') : ∀ {vs : List Value} {ds : List D}, DAll Z vs ds → DAll Z' vs ds
  | _, _, .nil => .nil
  | _, _, .cons h r => .cons (DIn.mono hs h) (DAll.mono hs r)
end
section
variable {Z : Led} {v : Value} {d : D} {vs ws : List Value} {ds es : List D}
theorem DAll.length (h : DAll Z vs ds) : vs.length = ds.length := by
  induction vs generalizing ds with
  | nil => cases h; rfl
  | cons v vs ih => cases h with | cons _ r => simp [ih r]
theorem DAll.append (h : DAll Z vs ds) (k : DAll Z ws es) : DAll Z (vs ++ ws) (ds ++ es) := by
  induction vs generalizing ds with
  | nil => cases h; exact k
  | cons v vs ih => cases h with | cons h r => exact .cons h (ih r)
theorem DAll.get (h : DAll Z vs ds) {k : Nat} {d : D} (hk : ds[k]? = some d) : ∃ v, vs[k]? = some v ∧ DIn Z v d := by
  induction vs generalizing ds k with
  | nil => cases h; cases hk
  | cons v vs ih =>
    cases h with
    | cons h r =>
      cases k with
      | zero => cases hk; exact ⟨v, rfl, h⟩
      | succ k => exact ih r hk
theorem DAll.set (h : DAll Z vs ds) (k : Nat) (hv : DIn Z v d) : DAll Z (vs.set k v) (ds.set k d) := by
  induction vs generalizing ds k with
  | nil => cases h; exact .nil
  | cons u us ih =>
    cases h with
    | cons h r =>
      cases k with
      | zero => exact .cons hv r
      | succ k => exact .cons h (ih r k)
theorem DAll.take (h : DAll Z vs ds) (k : Nat) : DAll Z (vs.take k) (ds.take k) := by
  induction vs generalizing ds k with
  | nil => cases h; cases k <;> exact .nil
  | cons u us ih =>
    cases h with
    | cons h r =>
      cases k with
      | zero => exact .nil
      | succ k => exact .cons h (ih r k)
theorem DAll.reverse (h : DAll Z vs ds) : DAll Z vs.reverse ds.reverse := by
  induction vs generalizing ds with
  | nil => cases h; exact .nil
  | cons u us ih =>
    cases h with
    | cons h r => rw [List.reverse_cons, List.reverse_cons]; exact (ih r).append (.cons h .nil)
end

/-- what a local name holds -/
inductive Sl where
  | no
  | val (d : D)
  | own (a : Addr) (vs : List Value) (n : Nat) (ds : List D)
  | ucell (ca : Addr)
  | cell (ca : Addr) (d : D)
  | free (ca : Addr) (d : D)
  | cown (ca a : Addr) (vs : List Value) (n : Nat) (ds : List D)
  | cfun (ca fa : Addr) (d : DefRec) (qual : Str) (clos : List (Str × Addr))
  | idict (a : Addr) (ks : List Int) (vs : List Value) (ds : List D)
def Sl.addr : Sl → Option Addr
  | .own a _ _ _ => some a
  | .cown _ a _ _ _ => some a
  | .idict a _ _ _ => some a
  | .ucell a => some a
  | _ => none
abbrev Sig := List Sl

inductive Look : List Str → Sig → Str → Sl → Prop
  | head {x : Str} {ns : List Str} {sl : Sl} {σ : Sig} : Look (x :: ns) (sl :: σ) x sl
  | tail {x y : Str} {ns : List Str} {sl o : Sl} {σ : Sig} : Look ns σ x sl → Look (y :: ns) (o :: σ) x sl
inductive Put : List Str → Sig → Str → Sl → Sl → Sig → Prop
  | head {x : Str} {ns : List Str} {sl o : Sl} {σ : Sig} : Put (x :: ns) (o :: σ) x o sl (sl :: σ)
  | tail {x y : Str} {ns : List Str} {sl o p : Sl} {σ σ' : Sig} : Put ns σ x o sl σ' → Put (y :: ns) (p :: σ) x o sl (p :: σ')
theorem Look.mem {ns : List Str} {σ : Sig} {x : Str} {sl : Sl} (h : Look ns σ x sl) : x ∈ ns := by
  induction h with
  | head => exact .head _
  | tail _ ih => exact .tail _ ih
theorem Put.mem {ns : List Str} {σ σ' : Sig} {x : Str} {o sl : Sl} (h : Put ns σ x o sl σ') : x ∈ ns := by
  induction h with
  | head => exact .head _
  | tail _ ih => exact .tail _ ih
theorem Put.old {ns : List Str} {σ σ' : Sig} {x : Str} {o sl : Sl} (h : Put ns σ x o sl σ') : Look ns σ x o := by
  induction h with
  | head => exact .head
  | tail _ ih => exact .tail ih
theorem Look.unique {ns : List Str} {σ : Sig} {x : Str} {s t : Sl} (hn : ns.Nodup) (h : Look ns σ x s) (k : Look ns σ x t) : s = t := by
  induction h with
  | head =>
    cases k with
    | head => rfl
    | tail k => exact absurd k.mem (List.nodup_cons.mp hn).1
  | tail h ih =>
    cases k with
    | head => exact absurd h.mem (List.nodup_cons.mp hn).1
    | tail k => exact ih (List.nodup_cons.mp hn).2 k
theorem Put.split {ns : List Str} {σ σ' : Sig} {x y : Str} {o sl s : Sl} (hn : ns.Nodup) (h : Put ns σ x o sl σ') (k : Look ns σ' y s) : (y = x ∧ s = sl) ∨ (y ≠ x ∧ Look ns σ y s) := by
  induction h with
  | head =>
    cases k with
    | head => exact .inl ⟨rfl, rfl⟩
    | tail k => exact .inr ⟨fun e => (List.nodup_cons.mp hn).1 (e ▸ k.mem), .tail k⟩
  | tail h ih =>
    cases k with
    | head => exact .inr ⟨fun e => (List.nodup_cons.mp hn).1 (e ▸ h.mem), .head⟩
    | tail k =>
      rcases ih (List.nodup_cons.mp hn).2 k with e | ⟨e, l⟩
      · exact .inl e
      · exact .inr ⟨e, .tail l⟩

/-- the whole text's facts -/
structure Tab where
  d : DefRec
  c : Addr
  P : Addr
  pos : Pos
  qual : Str
structure Glo where
  prog : Program
  w : World
  mg : Str → Option Value
  mb : Str → Option Value
  tp : Program
  tl : List Str
  mean : ExcName → Option Value
  t1 : Tab
  t2 : Tab
  fns : List DefRec
  consts : List (Str × D)
  bns : List (Str × Value)
  dnm : Str
  dtab : List (Str × Int)
def Glo.tab (G : Glo) : List (PyData × PyData) := G.dtab.map fun p => (.str p.1, .int p.2)
def FnAt (mg : Str → Option Value) (h : Heap) (d : DefRec) : Prop :=
  ∃ a o pm code doc, mg d.name = some (.ref a) ∧ h.get? a = some o ∧ o.data = .func (docDef d.name d.params d.body d.scope pm code doc) ∧ h.CodeRec code d.name
def FnAtC (mg : Str → Option Value) (h : Heap) (t : Tab) : Prop :=
  ∃ a o pm doc, mg t.d.name = some (.ref a) ∧ h.get? a = some o ∧ o.data = .func (docDef t.d.name t.d.params t.d.body t.d.scope pm (.ref t.c) doc) ∧ h.CodeRec (.ref t.c) t.d.name
structure Glo.Facts (G : Glo) (h : Heap) : Prop where
  top : Top G.tp G.tl G.mean G.mg G.mb h
  fn : ∀ d ∈ G.fns, FnAt G.mg h d
  cn : ∀ p ∈ G.consts, ∃ v, G.mg p.1 = some v ∧ DIn [] v p.2
  bn : ∀ p ∈ G.bns, G.mg p.1 = none ∧ p.1 ≠ "__name__" ∧ bootBuiltins p.1 = some p.2
  hd1 : CodeHd h G.t1.c G.t1.P
  hd2 : CodeHd h G.t2.c G.t2.P
  ft1 : FnAtC G.mg h G.t1
  ft2 : FnAtC G.mg h G.t2
  tne : G.t1.P ≠ G.t2.P
  dct : ∃ a, G.mg G.dnm = some (.ref a) ∧ StrTab G.prog G.w h a G.tab
theorem Glo.Facts.keeps {G : Glo} {h h' : Heap} (F : G.Facts h) (k : ∀ b o, h.get? b = some o → h'.get? b = some o) : G.Facts h' where
  top := F.top.keeps k
  fn := fun d hd => let ⟨a, o, pm, code, doc, h1, h2, h3, h4⟩ := F.fn d hd; ⟨a, o, pm, code, doc, h1, k _ _ h2, h3, h4.keeps k⟩
  cn := F.cn
  bn := F.bn
  hd1 := F.hd1.keeps k
  hd2 := F.hd2.keeps k
  ft1 := let ⟨a, o, pm, doc, h1, h2, h3, h4⟩ := F.ft1; ⟨a, o, pm, doc, h1, k _ _ h2, h3, h4.keeps k⟩
  ft2 := let ⟨a, o, pm, doc, h1, h2, h3, h4⟩ := F.ft2; ⟨a, o, pm, doc, h1, k _ _ h2, h3, h4.keeps k⟩
  tne := F.tne
  dct := let ⟨a, h1, h2⟩ := F.dct; ⟨a, h1, h2.keep k⟩

/-- one activation -/
structure Cx where
  G : Glo
  A : Around
  env : Env
  h₀ : Heap
  names : List Str
  gnames : List Str
  av : Addr → Prop
  room : Nat
abbrev Cx.L (c : Cx) : Addr := c.env.locals
abbrev Cx.M (c : Cx) : Model := model c.G.prog c.G.w
structure Cx.OK (c : Cx) : Prop where
  gf : c.G.Facts c.h₀
  hh : c.A.handled = none
  kind : c.env.scope.kind = .function
  glob : c.env.globals = mainGlobals
  blt : c.env.builtins = builtinsNs
  nd : c.names.Nodup
  gn : ∀ x ∈ c.gnames, c.env.kindOf x = some .globalImplicit
  dp : c.A.depth + c.room < recursionLimit
  un : c.A.units + 8 * c.room + 80 < cLine
  av : ∀ b, c.av b → b < c.h₀.objs.size
  avk : ∀ b, c.av b → (∃ o, c.h₀.get? b = some o) ∨ b = c.G.t1.P ∨ b = c.G.t2.P
  av1 : c.av c.G.t1.P
  av2 : c.av c.G.t2.P
  g1 : c.h₀.get? c.G.t1.P = none
  g2 : c.h₀.get? c.G.t2.P = none

def CellAt (Z : Led) (ca : Addr) (d : D) : Prop := ∃ o v, (ca, o) ∈ Z ∧ o.data = .cell (some v) ∧ DIn Z v d
theorem CellAt.mono {Z Z' : Led} {ca : Addr} {d : D} (h : CellAt Z ca d) (s : Sub Z Z') : CellAt Z' ca d := let ⟨o, v, a, b, e⟩ := h; ⟨o, v, s _ a, b, e.mono s⟩

/-- an inner def's object -/
def FunAt (Z : Led) (fa : Addr) (d : DefRec) (qual : Str) (clos : List (Str × Addr)) : Prop :=
  ∃ o doc pm c' ctv oc vs tk, (fa, o) ∈ Z ∧ o.data = .func (fnX d.name qual d.params d.body d.scope clos .none .none doc pm none (.ref c') ctv) ∧ (c', oc) ∈ Z ∧ oc.data = .fields vs ∧ vs[1]? = some (.str qual tk)
theorem FunAt.mono {Z Z' : Led} {fa : Addr} {d : DefRec} {qual : Str} {clos : List (Str × Addr)} (h : FunAt Z fa d qual clos) (s : Sub Z Z') : FunAt Z' fa d qual clos :=
  let ⟨o, doc, pm, c', ctv, oc, vs, tk, h1, h2, h3, h4⟩ := h; ⟨o, doc, pm, c', ctv, oc, vs, tk, s _ h1, h2, s _ h3, h4⟩
def SlOK (c : Cx) (Z : Led) (m : Str → Option Value) (h : Heap) (x : Str) : Sl → Prop
  | .no => c.env.kindOf x = some .local
  | .val d => c.env.kindOf x = some .local ∧ ∃ v, m x = some v ∧ DIn Z v d
  | .own a vs n ds => c.env.kindOf x = some .local ∧ m x = some (.ref a) ∧ h.get? a = some (listOf vs.toArray n) ∧ DAll Z vs ds
  | .ucell ca => c.env.kindOf x = some .cell ∧ c.env.cells.lookup x = some ca ∧ h.IsCell ca none
  | .cell ca d => c.env.kindOf x = some .cell ∧ c.env.cells.lookup x = some ca ∧ CellAt Z ca d
  | .free ca d => c.env.kindOf x = some .free ∧ c.env.cells.lookup x = some ca ∧ CellAt Z ca d
  | .cown ca a vs n ds => (c.env.kindOf x = some .cell ∨ c.env.kindOf x = some .free) ∧ c.env.cells.lookup x = some ca ∧ (∃ co, (ca, co) ∈ Z ∧ co.data = .cell (some (.ref a))) ∧ h.get? a = some (listOf vs.toArray n) ∧ DAll Z vs ds
  | .cfun ca fa d qual clos => (c.env.kindOf x = some .cell ∨ c.env.kindOf x = some .free) ∧ c.env.cells.lookup x = some ca ∧ (∃ co, (ca, co) ∈ Z ∧ co.data = .cell (some (.ref fa))) ∧ FunAt Z fa d qual clos
  | .idict a ks vs ds => c.env.kindOf x = some .local ∧ m x = some (.ref a) ∧ (a == sysModules) = false ∧ (∃ o, h.get? a = some o ∧ o.IsDictOf (intKind c.G.prog c.G.w) (ks.zip vs)) ∧ DAll Z vs ds ∧ ks.Nodup
def Sl.local : Sl → Bool
  | .no => true
  | .val _ => true
  | .own .. => true
  | .idict .. => true
  | _ => false
theorem SlOK.kind {c : Cx} {Z : Led} {m : Str → Option Value} {h : Heap} {x : Str} {sl : Sl} (k : SlOK c Z m h x sl) (e : sl.local = true) : c.env.kindOf x = some .local := by
  cases sl with
  | no => exact k
  | val => exact k.1
  | own => exact k.1
  | idict => exact k.1
  | _ => cases e

/-- a code object's table: not grown yet, or grown by the one inner def -/
def TabSt (Z : Led) (h : Heap) (t : Tab) : Prop :=
  h.get? t.P = some (tabObj #[]) ∨ ∃ c' oc vs tk, h.get? t.P = some (tabObj #[rawInt t.pos.line, rawInt t.pos.col, .ref c']) ∧ (c', oc) ∈ Z ∧ oc.data = .fields vs ∧ vs[1]? = some (.str t.qual tk)
theorem TabSt.mono {Z Z' : Led} {h h' : Heap} {t : Tab} (T : TabSt Z h t) (s : Sub Z Z') (k : ∀ o, h.get? t.P = some o → h'.get? t.P = some o) : TabSt Z' h' t := by
  rcases T with e | ⟨c', oc, vs, tk, e, r1, r2⟩
  · exact .inl (k _ e)
  · exact .inr ⟨c', oc, vs, tk, k _ e, s _ r1, r2⟩

structure R (c : Cx) (σ : Sig) (Z : Led) (h : Heap) : Prop where
  ok : c.OK
  fr : ∃ m, Fr c.h₀ c.L h m ∧ ∀ x sl, Look c.names σ x sl → SlOK c Z m h x sl
  zs : ∀ p ∈ Z, h.get? p.1 = some p.2 ∧ p.1 ≠ c.L ∧ ¬ c.av p.1
  ow : ∀ x sl a, Look c.names σ x sl → sl.addr = some a → (c.h₀.get? a = none ∧ ¬ c.av a) ∧ a ≠ c.L ∧ ∀ p ∈ Z, p.1 ≠ a
  sep : ∀ x y s t a, Look c.names σ x s → Look c.names σ y t → x ≠ y → s.addr = some a → t.addr ≠ some a
  tb1 : TabSt Z h c.G.t1
  tb2 : TabSt Z h c.G.t2

theorem SlOK.ext {c : Cx} {Z : Led} {m : Str → Option Value} {h h' : Heap} {x : Str} {sl : Sl} (k : SlOK c Z m h x sl) (e : ∀ a o, sl.addr = some a → h.get? a = some o → h'.get? a = some o) : SlOK c Z m h' x sl := by
  cases sl with
  | no => exact k
  | val => exact k
  | own a vs n ds => exact ⟨k.1, k.2.1, e a _ rfl k.2.2.1, k.2.2.2⟩
  | ucell ca => let ⟨o, ho, hd⟩ := k.2.2; exact ⟨k.1, k.2.1, ⟨o, e ca _ rfl ho, hd⟩⟩
  | cell => exact k
  | free => exact k
  | cown ca a vs n ds => exact ⟨k.1, k.2.1, k.2.2.1, e a _ rfl k.2.2.2.1, k.2.2.2.2⟩
  | cfun ca fa d q cl => exact k
  | idict a ks vs ds => let ⟨k1, k2, k3, ⟨o, ho, hd⟩, k4⟩ := k; exact ⟨k1, k2, k3, ⟨o, e a _ rfl ho, hd⟩, k4⟩
theorem SlOK.mono {c : Cx} {Z Z' : Led} {m : Str → Option Value} {h : Heap} {x : Str} {sl : Sl} (k : SlOK c Z m h x sl) (s : Sub Z Z') : SlOK c Z' m h x sl := by
  cases sl with
  | no => exact k
  | val d => let ⟨v, e, i⟩ := k.2; exact ⟨k.1, v, e, i.mono s⟩
  | own a vs n ds => exact ⟨k.1, k.2.1, k.2.2.1, k.2.2.2.mono s⟩
  | ucell ca => exact k
  | cell => exact ⟨k.1, k.2.1, k.2.2.mono s⟩
  | free => exact ⟨k.1, k.2.1, k.2.2.mono s⟩
  | cown ca a vs n ds => let ⟨k1, k2, ⟨co, k3, k4⟩, k5, k6⟩ := k; exact ⟨k1, k2, ⟨co, s _ k3, k4⟩, k5, k6.mono s⟩
  | cfun ca fa d q cl => let ⟨k1, k2, ⟨co, k3, k4⟩, k5⟩ := k; exact ⟨k1, k2, ⟨co, s _ k3, k4⟩, k5.mono s⟩
  | idict a ks vs ds => let ⟨k1, k2, k3, k4, k5, k6⟩ := k; exact ⟨k1, k2, k3, k4, k5.mono s, k6⟩
section
variable {c : Cx} {σ σ' : Sig} {Z Z' : Led} {h h' : Heap}
theorem R.sizes (r : R c σ Z h) : c.h₀.objs.size ≤ c.L ∧ c.L < h.objs.size := let ⟨_, F, _⟩ := r.fr; ⟨F.above, F.ns.lt⟩
/-- the heap grows, and keeps all -/
theorem R.grow (r : R c σ Z h) (k : ∀ b o, h.get? b = some o → h'.get? b = some o) : R c σ Z h' where
  ok := r.ok
  fr := let ⟨m, F, l⟩ := r.fr; ⟨m, ⟨F.ns.keeps k, fun b o e => k _ _ (F.keep b o e), F.above⟩, fun x sl hl => (l x sl hl).ext fun a o _ e => k _ _ e⟩
  zs := fun p hp => ⟨k _ _ (r.zs p hp).1, (r.zs p hp).2⟩
  ow := r.ow
  sep := r.sep
  tb1 := r.tb1.mono .refl fun o e => k _ _ e
  tb2 := r.tb2.mono .refl fun o e => k _ _ e
/-- one more frozen object, at an address that was free -/
theorem R.freeze1 (r : R c σ Z h) {a : Addr} {o : Obj} (e : h.get? a = some o) (ha : c.h₀.objs.size ≤ a) (hL : a ≠ c.L) (hn : ∀ x sl, Look c.names σ x sl → sl.addr ≠ some a) : R c σ ((a, o) :: Z) h where
  ok := r.ok
  fr := let ⟨m, F, l⟩ := r.fr; ⟨m, F, fun x sl hl => (l x sl hl).mono .cons⟩
  zs := fun p hp => by
    rcases List.mem_cons.mp hp with rfl | hp
    · exact ⟨e, hL, fun q => absurd (r.ok.av _ q) (Nat.not_lt.mpr ha)⟩
    · exact r.zs p hp
  ow := fun x sl b hl hb => by
    obtain ⟨o1, o2, o3⟩ := r.ow x sl b hl hb
    refine ⟨o1, o2, fun p hp => ?_⟩
    rcases List.mem_cons.mp hp with rfl | hp
    · exact fun q => hn x sl hl (hb.trans (congrArg some q.symm))
    · exact o3 p hp
  sep := r.sep
  tb1 := r.tb1.mono .cons fun _ e => e
  tb2 := r.tb2.mono .cons fun _ e => e
theorem R.fresh (r : R c σ Z h) {a : Addr} (ha : c.h₀.objs.size ≤ a) : c.h₀.get? a = none ∧ ¬ c.av a := ⟨Heap.get?_none_of_le ha, fun q => absurd (r.ok.av _ q) (Nat.not_lt.mpr ha)⟩
theorem TabSt.some {Z : Led} {h : Heap} {t : Tab} (T : TabSt Z h t) : ∃ o, h.get? t.P = some o := by
  rcases T with e | ⟨c', oc, vs, tk, e, _⟩
  · exact ⟨_, e⟩
  · exact ⟨_, e⟩
/-- what is av stands in the heap -/
theorem R.avs (r : R c σ Z h) {b : Addr} (hb : c.av b) : ∃ o, h.get? b = some o := by
  obtain ⟨m, F, _⟩ := r.fr
  rcases r.ok.avk b hb with ⟨o, e⟩ | rfl | rfl
  · exact ⟨o, F.keep _ _ e⟩
  · exact r.tb1.some
  · exact r.tb2.some
theorem R.addr_lt (r : R c σ Z h) {x : Str} {sl : Sl} {a : Addr} (hl : Look c.names σ x sl) (ha : sl.addr = some a) : a < h.objs.size := by
  obtain ⟨m, _, l⟩ := r.fr
  have k := l x sl hl
  cases sl with
  | own b vs n ds => cases ha; exact Heap.lt_size k.2.2.1
  | cown ca b vs n ds => cases ha; exact Heap.lt_size k.2.2.2.1
  | idict b ks vs ds => cases ha; obtain ⟨_, _, _, ⟨o, ho, _⟩, _⟩ := k; exact Heap.lt_size ho
  | ucell b => cases ha; exact k.2.2.lt
  | _ => cases ha
theorem R.push (r : R c σ Z h) (o : Obj) : R c σ Z (h.push o) := r.grow fun _ _ e => Heap.get?_push_of_some _ e
theorem R.new (r : R c σ Z h) {o : Obj} (hf : o.isFreed = false) : R c σ ((h.objs.size, o) :: Z) (h.push o) :=
  (r.push o).freeze1 (Heap.get?_push_size _ hf) (Nat.le_trans r.sizes.1 (Nat.le_of_lt r.sizes.2)) (Nat.ne_of_gt r.sizes.2) fun _ _ hl e => Nat.lt_irrefl _ (r.addr_lt hl e)
end
/-! H2 -/
/-- an expression's value -/
def Ev (c : Cx) (σ : Sig) (e : Expr) (d : D) : Prop :=
  ∀ (s : Shared) (Z : Led) (Q : Value → Shared → Prop) (E : Value → Shared → Prop), R c σ Z s.heap →
    (∀ h' tk' Z' v, R c σ Z' h' → Sub Z Z' → DIn Z' v d → Q v { s with heap := h', toks := tk' }) → wpAny c.M c.A (eval e c.env) Q E s
def EvL (c : Cx) (σ : Sig) (pos : Pos) (es : List Expr) (ds : List D) : Prop :=
  ∀ (s : Shared) (Z : Led) (Q : List Value → Shared → Prop) (E : Value → Shared → Prop), R c σ Z s.heap →
    (∀ h' tk' Z' vs, R c σ Z' h' → Sub Z Z' → DAll Z' vs ds → Q vs { s with heap := h', toks := tk' }) → wpAny c.M c.A (spliced (backTo pos (starEach es c.env))) Q E s
/-- an operation's answer -/
def Op2 (c : Cx) (f : Value → Value → Sem Value) (d1 d2 d : D) : Prop :=
  ∀ (σ : Sig) (s : Shared) (Z : Led) (v1 v2 : Value) (Q : Value → Shared → Prop) (E : Value → Shared → Prop), R c σ Z s.heap → DIn Z v1 d1 → DIn Z v2 d2 →
    (∀ h' tk' Z' v, R c σ Z' h' → Sub Z Z' → DIn Z' v d → Q v { s with heap := h', toks := tk' }) → wpAny c.M c.A (f v1 v2) Q E s
def Op1 (c : Cx) (f : Value → Sem Value) (d1 d : D) : Prop :=
  ∀ (σ : Sig) (s : Shared) (Z : Led) (v1 : Value) (Q : Value → Shared → Prop) (E : Value → Shared → Prop), R c σ Z s.heap → DIn Z v1 d1 →
    (∀ h' tk' Z' v, R c σ Z' h' → Sub Z Z' → DIn Z' v d → Q v { s with heap := h', toks := tk' }) → wpAny c.M c.A (f v1) Q E s
/-- a call's answer -/
def CB (c : Cx) (f : Value) (ds : List D) (d : D) : Prop :=
  ∀ (σ : Sig) (s : Shared) (Z : Led) (vs : List Value) (Q : Value → Shared → Prop) (E : Value → Shared → Prop), R c σ Z s.heap → DAll Z vs ds →
    (∀ h' tk' Z' v, R c σ Z' h' → Sub Z Z' → DIn Z' v d → Q v { s with heap := h', toks := tk' }) → wpAny c.M c.A (call f vs) Q E s
/-- truth -/
inductive Tr : D → Bool → Prop
  | none : Tr .none false
  | bool (b : Bool) : Tr (.bool b) b
  | int (i : Int) : Tr (.int i) (i != 0)
def Tst (c : Cx) (σ : Sig) (e : Expr) (b : Bool) : Prop :=
  ∀ (s : Shared) (Z : Led) (Q : Bool → Shared → Prop) (E : Value → Shared → Prop), R c σ Z s.heap →
    (∀ h' tk' Z', R c σ Z' h' → Sub Z Z' → Q b { s with heap := h', toks := tk' }) → wpAny c.M c.A (isTrue e c.env (eval e c.env)) Q E s

section
variable {c : Cx} {σ : Sig}
theorem Ev.conv {e : Expr} {d d' : D} (h : Ev c σ e d) (k : d = d') : Ev c σ e d' := k ▸ h
theorem Ev.name {x : Str} {pos : Pos} {d : D} (hl : Look c.names σ x (.val d)) (hd : (x == ("__debug__" : Str)) = false := by decide) : Ev c σ (.Name x pos) d := by
  intro s Z Q E r k
  obtain ⟨m, F, l⟩ := r.fr
  obtain ⟨hk, v, hv, i⟩ := l _ _ hl
  exact wpAny_Name (wpAny_loadName_local r.ok.kind hk F.ns hv (k _ _ _ _ r .refl i)) hd
theorem CellAt.isCell {c : Cx} {σ : Sig} {Z : Led} {h : Heap} {ca : Addr} {d : D} (r : R c σ Z h) (x : CellAt Z ca d) : ∃ v, h.IsCell ca (some v) ∧ DIn Z v d :=
  let ⟨o, v, a, b, i⟩ := x; ⟨v, ⟨o, (r.zs _ a).1, b⟩, i⟩
theorem Ev.cell {x : Str} {pos : Pos} {d : D} {ca : Addr} (hl : Look c.names σ x (.cell ca d)) (hd : (x == ("__debug__" : Str)) = false := by decide) : Ev c σ (.Name x pos) d := by
  intro s Z Q E r k
  obtain ⟨m, F, l⟩ := r.fr
  obtain ⟨hk, hc, x⟩ := l _ _ hl
  obtain ⟨v, hv, i⟩ := x.isCell r
  exact wpAny_Name (wpAny_loadName_cell r.ok.kind hk hc hv (k _ _ _ _ r .refl i)) hd
theorem Ev.free {x : Str} {pos : Pos} {d : D} {ca : Addr} (hl : Look c.names σ x (.free ca d)) (hd : (x == ("__debug__" : Str)) = false := by decide) (hn : (x == ("__classdict__" : Str)) = false := by decide) : Ev c σ (.Name x pos) d := by
  intro s Z Q E r k
  obtain ⟨m, F, l⟩ := r.fr
  obtain ⟨hk, hc, x⟩ := l _ _ hl
  obtain ⟨v, hv, i⟩ := x.isCell r
  exact wpAny_Name (wpAny_loadName_free r.ok.kind hk hc hv (k _ _ _ _ r .refl i) hn) hd
theorem R.ns {Z : Led} {h : Heap} (r : R c σ Z h) : h.Ns c.env.globals c.G.mg := by
  obtain ⟨m, F, _⟩ := r.fr
  rw [r.ok.glob]; exact r.ok.gf.top.g.keeps F.keep
theorem R.bns {Z : Led} {h : Heap} (r : R c σ Z h) : h.Ns c.env.builtins c.G.mb := by
  obtain ⟨m, F, _⟩ := r.fr
  rw [r.ok.blt]; exact r.ok.gf.top.b.keeps F.keep
theorem DIn.of_nil {Z : Led} {v : Value} {d : D} (h : DIn [] v d) : DIn Z v d := h.mono fun _ hp => absurd hp List.not_mem_nil
theorem Ev.glob {x : Str} {pos : Pos} {d : D} (hg : x ∈ c.gnames) (hc : (x, d) ∈ c.G.consts) (hd : (x == ("__debug__" : Str)) = false := by decide) : Ev c σ (.Name x pos) d := by
  intro s Z Q E r k
  obtain ⟨v, hv, i⟩ := r.ok.gf.cn _ hc
  exact Name_function_global r.ok.kind (r.ok.gn _ hg) (loadGlobal_global r.ns hv (k _ _ _ _ r .refl i.of_nil)) hd
theorem Ev.constI {i : Int} {k : Nat} {pos : Pos} : Ev c σ (.Constant (.int i) k pos) (.int i) := fun s Z Q E r q => wpAny_Constant_int (q _ _ _ _ r .refl (.int _ _))
theorem Ev.constF {i : UInt64} {k : Nat} {pos : Pos} : Ev c σ (.Constant (.float i) k pos) (.flt i) := fun s Z Q E r q => wpAny_Constant_float (q _ _ _ _ r .refl (.flt _ _))
theorem Ev.constS {i : Str} {k : Nat} {pos : Pos} : Ev c σ (.Constant (.str i) k pos) (.str i) := fun s Z Q E r q => wpAny_Constant_str (q _ _ _ _ r .refl (.str _ _))
theorem Ev.constN {k : Nat} {pos : Pos} : Ev c σ (.Constant .none k pos) .none := fun s Z Q E r q => wpAny_Constant_none (q _ s.toks _ _ r .refl .none)
theorem Ev.constB {b : Bool} {k : Nat} {pos : Pos} : Ev c σ (.Constant (.bool b) k pos) (.bool b) := fun s Z Q E r q => wpAny_Constant_bool (q _ s.toks _ _ r .refl (.bool _))
theorem Ev.bin {l r : Expr} {op : Operator} {pos : Pos} {d1 d2 d : D} (h1 : Ev c σ l d1) (h2 : Ev c σ r d2) (h : Op2 c (binaryOp op) d1 d2 d) : Ev c σ (.BinOp l op r pos) d := by
  intro s Z Q E r k
  refine wpAny_BinOp (h1 _ _ _ _ r fun h' tk' Z' v r' z' i' => h2 _ _ _ _ r' fun h'' tk'' Z'' v'' r'' z'' i'' => h _ _ _ _ _ _ _ r'' (i'.mono z'') i'' fun h3 tk3 Z3 v3 r3 z3 i3 => k _ _ _ _ r3 ((z'.trans z'').trans z3) i3)
theorem Ev.un {x : Expr} {op : UnaryOp} {pos : Pos} {d1 d : D} (h1 : Ev c σ x d1) (h : Op1 c (unaryOp op) d1 d) : Ev c σ (.UnaryOp op x pos) d := by
  intro s Z Q E r k
  refine wpAny_UnaryOp (h1 _ _ _ _ r fun h' tk' Z' v r' z' i' => h _ _ _ _ _ _ r' i' fun h3 tk3 Z3 v3 r3 z3 i3 => k _ _ _ _ r3 (z'.trans z3) i3)
theorem Ev.cmp {l r : Expr} {op : CmpOp} {pos : Pos} {d1 d2 d : D} (h1 : Ev c σ l d1) (h2 : Ev c σ r d2) (h : Op2 c (compareOp op) d1 d2 d) (hm : behindInMarks op r = false := by with_unfolding_all rfl) : Ev c σ (.Compare l [op] [r] pos) d := by
  intro s Z Q E r k
  refine wpAny_Compare1 (h1 _ _ _ _ r fun h' tk' Z' v r' z' i' => h2 _ _ _ _ r' fun h'' tk'' Z'' v'' r'' z'' i'' => h _ _ _ _ _ _ _ r'' (i'.mono z'') i'' fun h3 tk3 Z3 v3 r3 z3 i3 => k _ _ _ _ r3 ((z'.trans z'').trans z3) i3) hm
theorem Tr.run {Z : Led} {h : Heap} {d : D} {b : Bool} (t : Tr d b) {s : Shared} {v : Value} {Q : Bool → Shared → Prop} {E : Value → Shared → Prop} (i : DIn Z v d) (q : Q b s) : wpAny c.M c.A (truthy v) Q E s := by
  cases t with
  | none => cases i; exact truthy_none q
  | bool b => cases i; exact wpAny_truthy_bool q
  | int n => cases i; exact truthy_int q
theorem Tst.cmp {l r : Expr} {op : CmpOp} {pos : Pos} {d1 d2 d : D} {b : Bool} (h1 : Ev c σ l d1) (h2 : Ev c σ r d2) (h : Op2 c (compareOp op) d1 d2 d) (t : Tr d b) (hm : behindInMarks op r = false := by with_unfolding_all rfl) : Tst c σ (.Compare l [op] [r] pos) b := by
  intro s Z Q E r k
  refine wpAny_isTrue_Compare1 (h1 _ _ _ _ r fun h' tk' Z' v r' z' i' => h2 _ _ _ _ r' fun h'' tk'' Z'' v'' r'' z'' i'' => h _ _ _ _ _ _ _ r'' (i'.mono z'') i'' fun h3 tk3 Z3 v3 r3 z3 i3 => t.run (h := h3) i3 (k _ _ _ r3 ((z'.trans z'').trans z3))) hm
theorem Tst.plain {e : Expr} {d : D} {b : Bool} (h : Ev c σ e d) (t : Tr d b) (he : ∀ whole, isTrue e c.env whole = (do let v ← whole; standAt e.pos; holding [v] (truthy v)) := by intro _; rfl) : Tst c σ e b := by
  intro s Z Q E r k
  exact isTrue_plain (h _ _ _ _ r fun h' tk' Z' v r' z' i' => t.run (h := h') i' (k _ _ _ r' z')) (he _)
theorem Tst.not {e : Expr} {b : Bool} {pos : Pos} (h : Tst c σ e b) : Tst c σ (.UnaryOp .Not e pos) (!b) := by
  intro s Z Q E r k
  exact isTrue_not (h _ _ _ _ r fun h' tk' Z' r' z' => k _ _ _ r' z')
theorem Tst.and_nil {pos : Pos} : Tst c σ (.BoolOp .And [] pos) true := by
  intro s Z Q E r k
  exact isTrue_and_nil (k _ s.toks _ r .refl)
theorem Tst.and {x : Expr} {rest : List Expr} {pos : Pos} {b1 b2 : Bool} (h1 : Tst c σ x b1) (h2 : b1 = true → Tst c σ (.BoolOp .And rest pos) b2) : Tst c σ (.BoolOp .And (x :: rest) pos) (b1 && b2) := by
  intro s Z Q E r k
  refine isTrue_and (h1 _ _ _ _ r fun h' tk' Z' r' z' => ?_)
  cases b1 with
  | false => exact k _ _ _ r' z'
  | true =>
    have q := h2 rfl { s with heap := h', toks := tk' } _ Q E r' fun h3 tk3 Z3 r3 z3 => k _ _ _ r3 (z'.trans z3)
    exact q
theorem Ev.ifExp {test body orelse : Expr} {pos : Pos} {b : Bool} {d : D} (ht : Tst c σ test b) (h1 : b = true → Ev c σ body d) (h2 : b = false → Ev c σ orelse d) : Ev c σ (.IfExp test body orelse pos) d := by
  intro s Z Q E r k
  refine wpAny_IfExp (ht _ _ _ _ r fun h' tk' Z' r' z' => ?_)
  cases b with
  | true => exact h1 rfl _ _ _ _ r' fun h3 tk3 Z3 v3 r3 z3 i3 => k _ _ _ _ r3 (z'.trans z3) i3
  | false => exact h2 rfl _ _ _ _ r' fun h3 tk3 Z3 v3 r3 z3 i3 => k _ _ _ _ r3 (z'.trans z3) i3
theorem EvL.nil {pos : Pos} : EvL c σ pos [] [] := fun s Z Q E r k => spliced_none (k _ s.toks _ _ r .refl .nil)
theorem EvL.cons {pos : Pos} {e : Expr} {es : List Expr} {d : D} {ds : List D} (h1 : Ev c σ e d) (h2 : EvL c σ pos es ds) (he : ∀ env, starEach (e :: es) env = (false, eval e env) :: starEach es env := by intro _; rfl) : EvL c σ pos (e :: es) (d :: ds) :=
  fun s Z Q E r k => spliced_more (h1 _ _ _ _ r fun h' tk' Z' v r' z' i' => h2 _ _ _ _ r' fun h3 tk3 Z3 vs r3 z3 i3 => k _ _ _ _ r3 (z'.trans z3) (.cons (i'.mono z3) i3)) (he _)
theorem Ev.list {pos : Pos} {es : List Expr} {ds : List D} (h : EvL c σ pos es ds) (hl : ds.length ≤ sizeLine) : Ev c σ (.List es pos) (.lst ds) := by
  intro s Z Q E r k
  refine wpAny_List_spliced (h _ _ _ _ r fun h' tk' Z' vs r' z' i' => ⟨by rw [i'.length]; exact hl, ?_⟩)
  exact k _ _ _ _ (r'.new rfl) (z'.trans .cons) (.lst (.head _) (i'.mono .cons))
theorem Ev.tuple {pos : Pos} {n : Nat} {es : List Expr} {ds : List D} (h : EvL c σ pos es ds) (hl : ds.length ≤ sizeLine) : Ev c σ (.Tuple es n pos) (.tup ds) := by
  intro s Z Q E r k
  refine wpAny_Tuple_spliced (h _ _ _ _ r fun h' tk' Z' vs r' z' i' => ⟨by rw [i'.length]; exact hl, ?_⟩)
  exact k _ _ _ _ (r'.new rfl) (z'.trans .cons) (.tup (.head _) (i'.mono .cons))
end
/-! H3 -/
theorem DIn.intv {Z : Led} {v : Value} {a : Int} (i : DIn Z v (.int a)) : ∃ t, v = .int a t := by cases i; exact ⟨_, rfl⟩
theorem DIn.fltv {Z : Led} {v : Value} {a : UInt64} (i : DIn Z v (.flt a)) : ∃ t, v = .float a t := by cases i; exact ⟨_, rfl⟩
theorem DIn.strv {Z : Led} {v : Value} {a : Str} (i : DIn Z v (.str a)) : ∃ t, v = .str a t := by cases i; exact ⟨_, rfl⟩
/-- what an operation on two scalars is asked for -/
theorem Op2.ints {c : Cx} {f : Value → Value → Sem Value} {a b : Int} {d : D} (h : ∀ (s : Shared) (Q E : Value → Shared → Prop) (t u : Tok), (∀ v tk, DIn [] v d → Q v { s with toks := tk }) → wpAny c.M c.A (f (.int a t) (.int b u)) Q E s) : Op2 c f (.int a) (.int b) d := by
  intro σ s Z v1 v2 Q E r i1 i2 k
  obtain ⟨t, rfl⟩ := i1.intv
  obtain ⟨u, rfl⟩ := i2.intv
  exact h s Q E t u fun v tk i => k _ _ _ _ r .refl i.of_nil
theorem Op2.flts {c : Cx} {f : Value → Value → Sem Value} {a b : UInt64} {d : D} (h : ∀ (s : Shared) (Q E : Value → Shared → Prop) (t u : Tok), (∀ v tk, DIn [] v d → Q v { s with toks := tk }) → wpAny c.M c.A (f (.float a t) (.float b u)) Q E s) : Op2 c f (.flt a) (.flt b) d := by
  intro σ s Z v1 v2 Q E r i1 i2 k
  obtain ⟨t, rfl⟩ := i1.fltv
  obtain ⟨u, rfl⟩ := i2.fltv
  exact h s Q E t u fun v tk i => k _ _ _ _ r .refl i.of_nil
theorem Op1.ints {c : Cx} {f : Value → Sem Value} {a : Int} {d : D} (h : ∀ (s : Shared) (Q E : Value → Shared → Prop) (t : Tok), (∀ v tk, DIn [] v d → Q v { s with toks := tk }) → wpAny c.M c.A (f (.int a t)) Q E s) : Op1 c f (.int a) d := by
  intro σ s Z v1 Q E r i1 k
  obtain ⟨t, rfl⟩ := i1.intv
  exact h s Q E t fun v tk i => k _ _ _ _ r .refl i.of_nil
section
variable {c : Cx} {a b : Int} {x y : UInt64}
theorem addII : Op2 c (binaryOp .Add) (.int a) (.int b) (.int (a + b)) := .ints fun s Q E t u k => add_int (k _ _ (.int _ _))
theorem subII : Op2 c (binaryOp .Sub) (.int a) (.int b) (.int (a - b)) := .ints fun s Q E t u k => sub_int (k _ _ (.int _ _))
theorem iaddII : Op2 c (inplaceOp .Add) (.int a) (.int b) (.int (a + b)) := .ints fun s Q E t u k => iadd_int (k _ _ (.int _ _))
theorem isubII : Op2 c (inplaceOp .Sub) (.int a) (.int b) (.int (a - b)) := .ints fun s Q E t u k => isub_int (k _ _ (.int _ _))
theorem mulII (h : a.natAbs < 2 ^ 64 ∨ b.natAbs < 2 ^ 64) : Op2 c (binaryOp .Mult) (.int a) (.int b) (.int (a * b)) := .ints fun s Q E t u k => by
  refine mul_int (k _ _ (.int _ _)) ?_
  rcases h with h | h
  · exact .of_left (intBits_le_64 (by lia) (by lia))
  · exact .of_right (intBits_le_64 (by lia) (by lia))
theorem fdivII (h0 : b ≠ 0) (h : b.natAbs < 1073741824) : Op2 c (binaryOp .FloorDiv) (.int a) (.int b) (.int (a.fdiv b)) := .ints fun s Q E t u k => floordiv_int h0 (k _ _ (.int _ _)) (.inl (PyProof.noPylong_small h))
theorem fmodII (h0 : b ≠ 0) : Op2 c (binaryOp .Mod) (.int a) (.int b) (.int (a.fmod b)) := .ints fun s Q E t u k => mod_int' h0 (k _ _ (.int _ _))
theorem powII (h0 : 0 ≤ b) (h : (Builtin.Int.intBits a : Int) * b ≤ 2 ^ 27) : Op2 c (binaryOp .Pow) (.int a) (.int b) (.int (a ^ b.toNat)) := .ints fun s Q E t u k => pow_int h0 h (k _ _ (.int _ _))
theorem shlII (h0 : 0 ≤ b) (h1 : b ≤ 1000000) (h2 : a.natAbs < 2 ^ 64) : Op2 c (binaryOp .LShift) (.int a) (.int b) (.int (a * 2 ^ b.toNat)) := .ints fun s Q E t u k => lshift_int_small h0 h1 h2 (k _ _ (.int _ _))
theorem shrII (h0 : 0 ≤ b) : Op2 c (binaryOp .RShift) (.int a) (.int b) (.int (a.fdiv (2 ^ b.toNat))) := .ints fun s Q E t u k => rshift_int h0 (k _ _ (.int _ _))
theorem xorII : Op2 c (binaryOp .BitXor) (.int a) (.int b) (.int (Builtin.bitXor a b)) := .ints fun s Q E t u k => xor_int (k _ _ (.int _ _))
theorem divII (h0 : b ≠ 0) (h : Float64.isInf (Float64.ofFrac (decide (a < 0) != decide (b < 0)) a.natAbs b.natAbs) = false) :
    Op2 c (binaryOp .Div) (.int a) (.int b) (.flt (Float64.ofFrac (decide (a < 0) != decide (b < 0)) a.natAbs b.natAbs)) := .ints fun s Q E t u k => AutoIntOps.truediv_2 (by simpa using h0) (by simp [h]) (k _ _ (.flt _ _))
theorem negI : Op1 c (unaryOp .USub) (.int a) (.int (-a)) := .ints fun s Q E t k => neg_int (k _ _ (.int _ _))
theorem invI : Op1 c (unaryOp .Invert) (.int a) (.int (Builtin.bitNot a)) := .ints fun s Q E t k => invert_int (k _ _ (.int _ _))
theorem eqII : Op2 c (compareOp .Eq) (.int a) (.int b) (.bool (a == b)) := .ints fun s Q E t u k => eq_int (k _ s.toks (.bool _))
theorem neII : Op2 c (compareOp .NotEq) (.int a) (.int b) (.bool (a != b)) := .ints fun s Q E t u k => ne_int (k _ s.toks (.bool _))
theorem ltII : Op2 c (compareOp .Lt) (.int a) (.int b) (.bool (decide (a < b))) := .ints fun s Q E t u k => lt_int (k _ s.toks (.bool _))
theorem leII : Op2 c (compareOp .LtE) (.int a) (.int b) (.bool (decide (a ≤ b))) := .ints fun s Q E t u k => le_int (k _ s.toks (.bool _))
theorem gtII : Op2 c (compareOp .Gt) (.int a) (.int b) (.bool (decide (a > b))) := .ints fun s Q E t u k => gt_int (k _ s.toks (.bool _))
theorem geII : Op2 c (compareOp .GtE) (.int a) (.int b) (.bool (decide (a ≥ b))) := .ints fun s Q E t u k => ge_int (k _ s.toks (.bool _))
def D.isNone : D → Bool
  | .none => true
  | _ => false
theorem isNone {d : D} : Op2 c (compareOp .Is) d .none (.bool d.isNone) := by
  intro σ s Z v1 v2 Q E r i1 i2 k; cases i2
  refine is_none ?_
  have : (v1 == Value.none) = d.isNone := by cases i1 <;> rfl
  rw [this]; exact k _ s.toks _ _ r .refl (.bool _)
-- floats
theorem addFF : Op2 c (binaryOp .Add) (.flt x) (.flt y) (.flt (Float64.add x y)) := .flts fun s Q E t u k => add_float (k _ _ (.flt _ _))
theorem subFF : Op2 c (binaryOp .Sub) (.flt x) (.flt y) (.flt (Float64.sub x y)) := .flts fun s Q E t u k => sub_float (k _ _ (.flt _ _))
theorem mulFF : Op2 c (binaryOp .Mult) (.flt x) (.flt y) (.flt (Float64.mul x y)) := .flts fun s Q E t u k => mul_float (k _ _ (.flt _ _))
theorem divFF (h : Float64.isZero y = false) : Op2 c (binaryOp .Div) (.flt x) (.flt y) (.flt (Float64.div x y)) := .flts fun s Q E t u k => AutoFloatOps.truediv_1 (by simp [h]) (k _ _ (.flt _ _))
theorem modFF (h : Float64.isZero y = false) : Op2 c (binaryOp .Mod) (.flt x) (.flt y) (.flt (Float64.divmod x y).2) := .flts fun s Q E t u k => AutoFloatOps.mod_1 (by simp [h]) (k _ _ (.flt _ _))
theorem mulFI (h : b.natAbs < 2 ^ 64) : Op2 c (binaryOp .Mult) (.flt x) (.int b) (.flt (Float64.mul x (Float64.ofInt b))) := by
  intro σ s Z v1 v2 Q E r i1 i2 k
  obtain ⟨t, rfl⟩ := i1.fltv
  obtain ⟨u, rfl⟩ := i2.intv
  exact mul_fi_fits (Nat.lt_of_lt_of_le h (Nat.pow_le_pow_right (by decide) (by decide))) (k _ _ _ _ r .refl (.flt _ _))
theorem eqFF : Op2 c (compareOp .Eq) (.flt x) (.flt y) (.bool (Float64.cmp x y == some .eq)) := .flts fun s Q E t u k => AutoFloatOps.eq_0 (k _ s.toks (.bool _))
theorem ltFF : Op2 c (compareOp .Lt) (.flt x) (.flt y) (.bool (Float64.cmp x y == some .lt)) := .flts fun s Q E t u k => AutoFloatOps.lt_0 (k _ s.toks (.bool _))
theorem leFF : Op2 c (compareOp .LtE) (.flt x) (.flt y) (.bool (Float64.cmp x y == some .lt || Float64.cmp x y == some .eq)) := .flts fun s Q E t u k => AutoFloatOps.le_0 (k _ s.toks (.bool _))
-- texts
theorem addSS {p q : Str} (h : p.length + q.length ≤ sizeLine) : Op2 c (binaryOp .Add) (.str p) (.str q) (.str (p ++ q)) := by
  intro σ s Z v1 v2 Q E r i1 i2 k; cases i1; cases i2
  exact PyProof.Rows.add_str (fun t' tk => k _ _ _ _ r .refl (.str _ _)) h
-- lists
theorem DIn.isList {σ : Sig} {Z : Led} {h : Heap} {v : Value} {ds : List D} (r : R c σ Z h) (i : DIn Z v (.lst ds)) : ∃ a vs, v = .ref a ∧ h.IsList a vs.toArray ∧ DAll Z vs ds := by
  cases i with
  | lst hm k => exact ⟨_, _, rfl, ⟨_, (r.zs _ hm).1, rfl, _, rfl⟩, k⟩
theorem DIn.isTup {σ : Sig} {Z : Led} {h : Heap} {v : Value} {ds : List D} (r : R c σ Z h) (i : DIn Z v (.tup ds)) : ∃ a vs, v = .ref a ∧ h.IsTuple a vs.toArray ∧ DAll Z vs ds := by
  cases i with
  | tup hm k => exact ⟨_, _, rfl, ⟨_, (r.zs _ hm).1, rfl, _, rfl⟩, k⟩
theorem addLL {ds es : List D} (h : ds.length + es.length ≤ sizeLine) : Op2 c (binaryOp .Add) (.lst ds) (.lst es) (.lst (ds ++ es)) := by
  intro σ s Z v1 v2 Q E r i1 i2 k
  cases i1 with
  | lst m1 k1 =>
  rename_i l vs n
  cases i2 with
  | lst m2 k2 =>
  rename_i b ws n2
  have ho := (r.zs _ m1).1
  have ho2 := (r.zs _ m2).1
  have e : vs.toArray ++ ws.toArray = (vs ++ ws).toArray := by simp
  refine concat_meets ⟨_, ho, rfl⟩ ⟨_, ho2, rfl⟩ noFill_list_add seq_list_add PySem.F.slot_list_add PySem.F.entry_list_add (PySem.F.args_list_add_2 _ _) (list_addW l b vs.toArray ws.toArray n n2 none none #[] #[] (by simp [k1.length, k2.length]; exact h)) ⟨ho, ho2, ?_⟩
  rw [e]
  exact k _ _ _ _ (r.new rfl) .cons (.lst (.head _) ((k1.append k2).mono .cons))
/-- the intsD of a list of intsD -/
def intsD (ns : List Int) : List D := ns.map .int
theorem DAll.intsAre {Z : Led} : ∀ {vs : List Value} {ns : List Int}, DAll Z vs (intsD ns) → IntsAre vs ns
  | [], [], _ => .nil
  | _ :: _, n :: ns, .cons (.int _ t) r => .cons _ _ (DAll.intsAre r)
theorem eqLI {ns ms : List Int} : Op2 c (compareOp .Eq) (.lst (intsD ns)) (.lst (intsD ms)) (.bool (decide (ns = ms))) := by
  intro σ s Z v1 v2 Q E r i1 i2 k
  obtain ⟨a, vs, rfl, l1, k1⟩ := i1.isList r
  obtain ⟨b, ws, rfl, l2, k2⟩ := i2.isList r
  exact eq_intsK l1 k1.intsAre l2 k2.intsAre (by have := r.ok.un; lia) (k _ s.toks _ _ r .refl (.bool _))
theorem neLI {ns ms : List Int} : Op2 c (compareOp .NotEq) (.lst (intsD ns)) (.lst (intsD ms)) (.bool (!decide (ns = ms))) := by
  intro σ s Z v1 v2 Q E r i1 i2 k
  obtain ⟨a, vs, rfl, l1, k1⟩ := i1.isList r
  obtain ⟨b, ws, rfl, l2, k2⟩ := i2.isList r
  exact ne_intsK l1 k1.intsAre l2 k2.intsAre (by have := r.ok.un; lia) (k _ s.toks _ _ r .refl (.bool _))
end
/-! H4 -/
/-- a statement, statements: what stands behind them (N), what they hand back (Rt) -/
def X (c : Cx) (σ : Sig) (st : Stmt) (N : Sig → Prop) (Rt : Sig → D → Prop) : Prop :=
  ∀ (s : Shared) (Z : Led) (Q : Flow → Shared → Prop) (E : Value → Shared → Prop), R c σ Z s.heap →
    (∀ σ' h' tk' Z', N σ' → R c σ' Z' h' → Sub Z Z' → Q .next { s with heap := h', toks := tk' }) →
    (∀ σ' h' tk' Z' v d, Rt σ' d → R c σ' Z' h' → Sub Z Z' → DIn Z' v d → Q (.ret v) { s with heap := h', toks := tk' }) → wpAny c.M c.A (exec st c.env) Q E s
def XS (c : Cx) (σ : Sig) (st : List Stmt) (N : Sig → Prop) (Rt : Sig → D → Prop) : Prop :=
  ∀ (s : Shared) (Z : Led) (Q : Flow → Shared → Prop) (E : Value → Shared → Prop), R c σ Z s.heap →
    (∀ σ' h' tk' Z', N σ' → R c σ' Z' h' → Sub Z Z' → Q .next { s with heap := h', toks := tk' }) →
    (∀ σ' h' tk' Z' v d, Rt σ' d → R c σ' Z' h' → Sub Z Z' → DIn Z' v d → Q (.ret v) { s with heap := h', toks := tk' }) → wpAny c.M c.A (execs st c.env) Q E s

section
variable {c : Cx} {σ σ' : Sig} {N : Sig → Prop} {Rt : Sig → D → Prop}
theorem XS.nil (h : N σ) : XS c σ [] N Rt := fun s Z Q E r k1 k2 => wpAny_execs_nil (k1 _ _ s.toks _ h r .refl)
theorem XS.cons {st : Stmt} {rest : List Stmt} (h : X c σ st (fun σ' => XS c σ' rest N Rt) Rt) : XS c σ (st :: rest) N Rt := by
  intro s Z Q E r k1 k2
  refine wpAny_execs_cons (h _ _ _ _ r (fun σ' h' tk' Z' hx r' z' => ?_) fun σ' h' tk' Z' v d hd r' z' i' => k2 _ _ _ _ _ _ hd r' z' i')
  exact hx _ _ _ _ r' (fun σ'' h'' tk'' Z'' hn r'' z'' => k1 _ _ _ _ hn r'' (z'.trans z'')) fun σ'' h'' tk'' Z'' v d hd r'' z'' i'' => k2 _ _ _ _ _ _ hd r'' (z'.trans z'') i''
theorem X.mono {st : Stmt} {N' : Sig → Prop} {Rt' : Sig → D → Prop} (h : X c σ st N Rt) (hn : ∀ σ, N σ → N' σ) (hr : ∀ σ d, Rt σ d → Rt' σ d) : X c σ st N' Rt' :=
  fun s Z Q E r k1 k2 => h s Z Q E r (fun _ _ _ _ n => k1 _ _ _ _ (hn _ n)) fun _ _ _ _ _ _ n => k2 _ _ _ _ _ _ (hr _ _ n)
theorem XS.mono {st : List Stmt} {N' : Sig → Prop} {Rt' : Sig → D → Prop} (h : XS c σ st N Rt) (hn : ∀ σ, N σ → N' σ) (hr : ∀ σ d, Rt σ d → Rt' σ d) : XS c σ st N' Rt' :=
  fun s Z Q E r k1 k2 => h s Z Q E r (fun _ _ _ _ n => k1 _ _ _ _ (hn _ n)) fun _ _ _ _ _ _ n => k2 _ _ _ _ _ _ (hr _ _ n)
theorem X.ret {e : Expr} {pos : Pos} {d : D} (h : Ev c σ e d) (hr : Rt σ d) : X c σ (.Return (some e) pos) N Rt :=
  fun s Z Q E r k1 k2 => wpAny_Return_some (h _ _ _ _ r fun h' tk' Z' v r' z' i' => k2 _ _ _ _ _ _ hr r' z' i')
theorem X.ret0 {pos : Pos} (hr : Rt σ .none) : X c σ (.Return none pos) N Rt :=
  fun s Z Q E r k1 k2 => wpAny_Return_none (k2 _ _ s.toks _ _ _ hr r .refl .none)
theorem X.if_ {test : Expr} {body orelse : List Stmt} {pos : Pos} {b : Bool} (ht : Tst c σ test b) (h1 : b = true → XS c σ body N Rt) (h2 : b = false → XS c σ orelse N Rt) : X c σ (.If test body orelse pos) N Rt := by
  intro s Z Q E r k1 k2
  refine wpAny_If (ht _ _ _ _ r fun h' tk' Z' r' z' => ?_)
  cases b with
  | true => exact h1 rfl _ _ _ _ r' (fun _ _ _ _ hn r'' z'' => k1 _ _ _ _ hn r'' (z'.trans z'')) fun _ _ _ _ _ _ hd r'' z'' i'' => k2 _ _ _ _ _ _ hd r'' (z'.trans z'') i''
  | false => exact h2 rfl _ _ _ _ r' (fun _ _ _ _ hn r'' z'' => k1 _ _ _ _ hn r'' (z'.trans z'')) fun _ _ _ _ _ _ hd r'' z'' i'' => k2 _ _ _ _ _ _ hd r'' (z'.trans z'') i''

theorem SlOK.other {Z : Led} {m m' : Str → Option Value} {h h' : Heap} {y : Str} {s : Sl} (k : SlOK c Z m h y s) (hm : m' y = m y) (e : ∀ a o, s.addr = some a → h.get? a = some o → h'.get? a = some o) : SlOK c Z m' h' y s := by
  have k := k.ext e
  cases s with
  | no => exact k
  | val d => let ⟨v, q, i⟩ := k.2; exact ⟨k.1, v, hm.trans q, i⟩
  | own a vs n ds => exact ⟨k.1, hm.trans k.2.1, k.2.2⟩
  | ucell ca => exact k
  | cell => exact k
  | free => exact k
  | cown ca a vs n ds => exact k
  | cfun ca fa d q cl => exact k
  | idict a ks vs ds => exact ⟨k.1, hm.trans k.2.1, k.2.2⟩

/-- a local name is stored -/
theorem R.store {Z : Led} {s : Shared} {x : Str} {o sl : Sl} {v : Value} {Q : Unit → Shared → Prop} {E : Value → Shared → Prop} (r : R c σ Z s.heap) (hp : Put c.names σ x o sl σ') (ho : o.local = true)
    (hk : ∀ m h', m x = some v → (∀ b, b ≠ c.L → h'.get? b = s.heap.get? b) → SlOK c Z m h' x sl)
    (how : ∀ a, sl.addr = some a → (c.h₀.get? a = none ∧ ¬ c.av a) ∧ a ≠ c.L ∧ (∀ p ∈ Z, p.1 ≠ a) ∧ ∀ y t, Look c.names σ y t → y ≠ x → t.addr ≠ some a)
    (k : ∀ h' tk', R c σ' Z h' → Q () { s with heap := h', toks := tk' }) : wpAny c.M c.A (storeName c.env x v) Q E s := by
  obtain ⟨m, F, l⟩ := r.fr
  have hl := (l _ _ hp.old).kind ho
  refine wpAny_storeName_local hl F.ns (fun h' hn hs => k h' _ ?_) (by rw [r.ok.kind]; rfl)
  have hs' : ∀ b, b ≠ c.L → h'.get? b = s.heap.get? b := fun b hb => hs.2 b hb
  refine ⟨r.ok, ⟨_, F.set hn hs, fun y t hy => ?_⟩, fun p hp => ?_, fun y t a hy ha => ?_, fun y z t u a hy hz hne ha => ?_, ?_, ?_⟩
  · rcases hp.split r.ok.nd hy with ⟨rfl, rfl⟩ | ⟨hne, hy⟩
    · exact hk _ _ (if_pos rfl) hs'
    · exact (l _ _ hy).other (if_neg hne) fun a o ha e => (hs' a (r.ow _ _ _ hy ha).2.1).trans e
  · have z := r.zs p hp
    exact ⟨(hs' _ z.2.1).trans z.1, z.2⟩
  · rcases hp.split r.ok.nd hy with ⟨rfl, rfl⟩ | ⟨hne, hy⟩
    · exact ⟨(how a ha).1, (how a ha).2.1, (how a ha).2.2.1⟩
    · exact r.ow _ _ _ hy ha
  · rcases hp.split r.ok.nd hy with ⟨rfl, rfl⟩ | ⟨hney, hy⟩
    · rcases hp.split r.ok.nd hz with ⟨rfl, rfl⟩ | ⟨hnez, hz⟩
      · exact absurd rfl hne
      · exact (how a ha).2.2.2 _ _ hz hnez
    · rcases hp.split r.ok.nd hz with ⟨rfl, rfl⟩ | ⟨hnez, hz⟩
      · exact fun q => (how a q).2.2.2 _ _ hy hney ha
      · exact r.sep _ _ _ _ _ hy hz hne ha
  · refine r.tb1.mono .refl fun o e => (hs' _ fun q => ?_).trans e
    exact absurd (r.ok.av _ r.ok.av1) (Nat.not_lt.mpr (q ▸ r.sizes.1))
  · refine r.tb2.mono .refl fun o e => (hs' _ fun q => ?_).trans e
    exact absurd (r.ok.av _ r.ok.av2) (Nat.not_lt.mpr (q ▸ r.sizes.1))
theorem R.storeVal {Z : Led} {s : Shared} {x : Str} {o : Sl} {v : Value} {d : D} {Q : Unit → Shared → Prop} {E : Value → Shared → Prop} (r : R c σ Z s.heap) (hp : Put c.names σ x o (.val d) σ') (ho : o.local = true) (i : DIn Z v d)
    (k : ∀ h' tk', R c σ' Z h' → Q () { s with heap := h', toks := tk' }) : wpAny c.M c.A (storeName c.env x v) Q E s :=
  have hl : c.env.kindOf x = some .local := let ⟨m, F, l⟩ := r.fr; (l _ _ hp.old).kind ho
  r.store hp ho (fun m h' e _ => ⟨hl, v, e, i⟩) (fun a e => nomatch e) k
theorem X.assign {x : Str} {e : Expr} {p pos : Pos} {d : D} {o : Sl} (h : Ev c σ e d) (hp : Put c.names σ x o (.val d) σ') (ho : o.local = true) (hn : N σ')
    (hs : swapsWith e (some (.Name x p)) pos.line c.env = pure false := by rfl) : X c σ (.Assign [.Name x p] e pos) N Rt := by
  intro s Z Q E r k1 k2
  exact wpAny_Assign_Name (h _ _ _ _ r fun h' tk' Z' v r' z' i' => r'.storeVal hp ho i' fun h'' tk'' r'' => k1 _ _ _ _ hn r'' z') hs
theorem X.aug {x : Str} {e : Expr} {op : Operator} {p pos : Pos} {d d0 d1 : D} (hl : Look c.names σ x (.val d0)) (h : Ev c σ e d1) (ho : Op2 c (inplaceOp op) d0 d1 d) (hp : Put c.names σ x (.val d0) (.val d) σ') (hn : N σ') : X c σ (.AugAssign (.Name x p) op e pos) N Rt := by
  intro s Z Q E r k1 k2
  obtain ⟨m, F, l⟩ := r.fr
  obtain ⟨hk, v, hv, i⟩ := l _ _ hl
  refine wpAny_AugAssign_Name (wpAny_loadName_local r.ok.kind hk F.ns hv (h _ _ _ _ r fun h' tk' Z' v' r' z' i' => ho _ _ _ _ _ _ _ r' (i.mono z') i' fun h'' tk'' Z'' v'' r'' z'' i'' => r''.storeVal hp rfl i'' fun h3 tk3 r3 => k1 _ _ _ _ hn r3 (z'.trans z'')))
/-- a list display, kept by one name that may change it -/
theorem X.assignOwn {x : Str} {es : List Expr} {p lp pos : Pos} {ds : List D} {o : Sl} (h : EvL c σ lp es ds) (hl : ds.length ≤ sizeLine) (hlk : Look c.names σ x o) (ho : o.local = true)
    (hn : ∀ a vs n, ∃ σ', Put c.names σ x o (.own a vs n ds) σ' ∧ N σ') (hs : swapsWith (.List es lp) (some (.Name x p)) pos.line c.env = pure false := by rfl) : X c σ (.Assign [.Name x p] (.List es lp) pos) N Rt := by
  intro s Z Q E r k1 k2
  refine wpAny_Assign_Name (wpAny_List_spliced (h _ _ _ _ r fun h' tk' Z' vs r' z' i' => ⟨by rw [i'.length]; exact hl, ?_⟩)) hs
  obtain ⟨σ', hp, hn'⟩ := hn h'.objs.size vs 0
  have hk : c.env.kindOf x = some .local := let ⟨m, F, l⟩ := r.fr; (l _ _ hp.old).kind ho
  have r1 := r'.push (listOf vs.toArray 0)
  refine R.store (s := { s with heap := h'.push (listOf vs.toArray 0), toks := tk' }) r1 hp ho (fun m h2 e hs => ⟨hk, e, ?_, i'⟩) (fun a e => ?_) fun h2 tk2 r2 => k1 _ _ _ _ hn' r2 z'
  · exact (hs _ (Nat.ne_of_gt r'.sizes.2)).trans (Heap.get?_push_size _ rfl)
  · cases e
    refine ⟨r'.fresh (Nat.le_trans r'.sizes.1 (Nat.le_of_lt r'.sizes.2)), Nat.ne_of_gt r'.sizes.2, fun p hp q => ?_, fun y t hy _ q => Nat.lt_irrefl _ (r'.addr_lt hy q)⟩
    exact Nat.lt_irrefl _ (q ▸ Heap.lt_size (r'.zs p hp).1)
end
/-! H5 -/
section
variable {c : Cx} {σ σ' : Sig} {N : Sig → Prop} {Rt : Sig → D → Prop}

/-- an own list is changed in place -/
theorem R.ownUpd {Z : Led} {h h' : Heap} {x : Str} {a : Addr} {vs vs' : List Value} {n n' : Nat} {ds ds' : List D} (r : R c σ Z h) (hp : Put c.names σ x (.own a vs n ds) (.own a vs' n' ds') σ')
    (hs : ∀ b, b ≠ a → h'.get? b = h.get? b) (e : h'.get? a = some (listOf vs'.toArray n')) (k : DAll Z vs' ds') : R c σ' Z h' := by
  obtain ⟨o1, o2, o3⟩ := r.ow _ _ _ hp.old rfl
  have hb : ∀ b o, c.h₀.get? b = some o → b ≠ a := fun b o e q => by rw [q, o1.1] at e; cases e
  obtain ⟨m, F, l⟩ := r.fr
  refine ⟨r.ok, ⟨m, ⟨?_, fun b o q => (hs b (hb b o q)).trans (F.keep b o q), F.above⟩, fun y t hy => ?_⟩, fun p hp => ⟨(hs _ (o3 p hp)).trans (r.zs p hp).1, (r.zs p hp).2⟩, fun y t b hy hb' => ?_, fun y z t u b hy hz hne hb' => ?_, ?_, ?_⟩
  · obtain ⟨o, es, ep, q, r1⟩ := F.ns
    exact ⟨o, es, ep, (hs _ (Ne.symm o2)).trans q, r1⟩
  · rcases hp.split r.ok.nd hy with ⟨rfl, rfl⟩ | ⟨hne, hy⟩
    · have z := l _ _ hp.old
      exact ⟨z.1, z.2.1, e, k⟩
    · refine (l _ _ hy).ext fun b o hb' q => (hs b fun q' => ?_).trans q
      subst q'
      exact r.sep _ _ _ _ _ hy hp.old hne hb' rfl
  · rcases hp.split r.ok.nd hy with ⟨rfl, rfl⟩ | ⟨hne, hy⟩
    · cases hb'; exact ⟨o1, o2, o3⟩
    · exact r.ow _ _ _ hy hb'
  · rcases hp.split r.ok.nd hy with ⟨rfl, rfl⟩ | ⟨hney, hy⟩
    · rcases hp.split r.ok.nd hz with ⟨rfl, rfl⟩ | ⟨hnez, hz⟩
      · exact absurd rfl hne
      · exact r.sep _ _ _ _ _ hp.old hz hne hb'
    · rcases hp.split r.ok.nd hz with ⟨rfl, rfl⟩ | ⟨hnez, hz⟩
      · exact fun q => r.sep _ _ _ _ _ hy hp.old hne hb' q
      · exact r.sep _ _ _ _ _ hy hz hne hb'
  · refine r.tb1.mono .refl fun o e => (hs _ fun q => ?_).trans e
    exact o1.2 (q ▸ r.ok.av1)
  · refine r.tb2.mono .refl fun o e => (hs _ fun q => ?_).trans e
    exact o1.2 (q ▸ r.ok.av2)
theorem R.own {Z : Led} {h : Heap} {x : Str} {a : Addr} {vs : List Value} {n : Nat} {ds : List D} (r : R c σ Z h) (hl : Look c.names σ x (.own a vs n ds)) : h.get? a = some (listOf vs.toArray n) ∧ DAll Z vs ds :=
  let ⟨m, F, l⟩ := r.fr; ⟨(l _ _ hl).2.2.1, (l _ _ hl).2.2.2⟩
theorem R.loadOwn {s : Shared} {Z : Led} {x : Str} {p : Pos} {a : Addr} {vs : List Value} {n : Nat} {ds : List D} {Q : Value → Shared → Prop} {E : Value → Shared → Prop} (r : R c σ Z s.heap) (hl : Look c.names σ x (.own a vs n ds)) (h : Q (.ref a) s)
    (hd : (x == ("__debug__" : Str)) = false := by decide) : wpAny c.M c.A (eval (.Name x p) c.env) Q E s := by
  obtain ⟨m, F, l⟩ := r.fr
  have k := l _ _ hl
  exact wpAny_Name (wpAny_loadName_local r.ok.kind k.1 F.ns k.2.1 h) hd

theorem R.inter {Z : Led} {h : Heap} (r : R c σ Z h) : interactive c.env = false := by unfold interactive; rw [r.ok.kind]; rfl
theorem own_method {s : Shared} {Z : Led} {x : Str} {meth : Str} {id : String} {args : List Expr} {p apos pos : Pos} {a : Addr} {vs : List Value} {n : Nat} {ds : List D} {Q : Value → Shared → Prop} {E : Value → Shared → Prop} (r : R c σ Z s.heap) (hl : Look c.names σ x (.own a vs n ds))
    (slot : Slot "list" meth id) (hty : typeOf (.builtin id) = pure (.type "method_descriptor"))
    (h : wpAny c.M c.A (callWith pos (.builtin id) [.ref a] (backTo pos (starEach args c.env)) []) Q E s)
    (hfew : ((backTo pos (starEach args c.env)).all (fun x => !x.1) && (backToKw pos (keywordEach [] c.env)).all (fun x => x.1.isSome)
      && decide (args.length + ([] : List Keyword).length + (if ([] : List Keyword).isEmpty then 0 else 1) < 30)) = true)
    (hline : (apos.endLine == pos.line) = true) (hd : (x == ("__debug__" : Str)) = false) : wpAny c.M c.A (eval (.Call (.Attribute (.Name x p) meth apos) args [] pos) c.env) Q E s := by
  obtain ⟨ho, k⟩ := r.own hl
  exact wpAny_Call_method rfl hfew hline PySem.F.plainAttrs_list slot hty (r.loadOwn hl ⟨⟨_, ho, rfl⟩, fun b e => ⟨_, by cases e; exact ho, rfl⟩, h⟩ hd)

/-- x.meth(e) of an own list -/
theorem X.meth1 {x : Str} {meth : Str} {id : String} {e : Expr} {p apos pos epos : Pos} {a : Addr} {vs : List Value} {n : Nat} {ds ds' : List D} {d : D} (hl : Look c.names σ x (.own a vs n ds)) (h : Ev c σ e d)
    (slot : Slot "list" meth id) (hty : typeOf (.builtin id) = pure (.type "method_descriptor"))
    (hc : ∀ (s : Shared) (Z : Led) (v : Value) (Q : Value → Shared → Prop) (E : Value → Shared → Prop), R c σ Z s.heap → DIn Z v d →
      (∀ h' vs' n', (∀ b, b ≠ a → h'.get? b = s.heap.get? b) → h'.get? a = some (listOf vs'.toArray n') → DAll Z vs' ds' → Q .none { s with heap := h' }) → wpAny c.M c.A (call (.builtin id) [.ref a, v]) Q E s)
    (hn : ∀ vs' n', ∃ σ', Put c.names σ x (.own a vs n ds) (.own a vs' n' ds') σ' ∧ N σ')
    (he : ∀ env, starEach [e] env = [(false, eval e env)]) (hline : (apos.endLine == pos.line) = true)
    (hs : swapsWith (.Call (.Attribute (.Name x p) meth apos) [e] [] pos) none epos.line c.env = pure false)
    (hd : (x == ("__debug__" : Str)) = false) :
    X c σ (.Expr (.Call (.Attribute (.Name x p) meth apos) [e] [] pos) epos) N Rt := by
  intro s Z Q E r k1 k2
  refine wpAny_Expr_any (own_method r hl slot hty ?_ (by rw [he]; rfl) hline hd) r.inter hs
  refine callWith_method1 (args_cons (h _ _ _ _ r fun h' tk' Z' v r' z' i' => args_nil ?_) (he _)) (he _)
  refine hc _ _ _ _ _ r' i' fun h'' vs' n' hs e k => ?_
  obtain ⟨σ', hp, hn'⟩ := hn vs' n'
  exact k1 _ _ _ _ hn' (R.ownUpd (h := h') r' hp hs e k) z'
theorem X.append {x : Str} {e : Expr} {p apos pos epos : Pos} {a : Addr} {vs : List Value} {n : Nat} {ds : List D} {d : D} (hl : Look c.names σ x (.own a vs n ds)) (h : Ev c σ e d) (hz : ds.length ≤ sizeLine)
    (hn : ∀ vs' n', ∃ σ', Put c.names σ x (.own a vs n ds) (.own a vs' n' (ds ++ [d])) σ' ∧ N σ')
    (he : ∀ env, starEach [e] env = [(false, eval e env)] := by intro _; rfl) (hline : (apos.endLine == pos.line) = true := by rfl)
    (hs : swapsWith (.Call (.Attribute (.Name x p) "append" apos) [e] [] pos) none epos.line c.env = pure false := by rfl)
    (hd : (x == ("__debug__" : Str)) = false := by decide) :
    X c σ (.Expr (.Call (.Attribute (.Name x p) "append" apos) [e] [] pos) epos) N Rt := by
  refine X.meth1 hl h PySem.F.slot_list_append PySem.F.type_list_append (fun s Z v Q E r i k => ?_) hn he hline hs hd
  obtain ⟨ho, da⟩ := r.own hl
  refine call_meets PySem.F.slot_list_append ⟨_, ho, rfl⟩ PySem.F.entry_list_append (PySem.F.args_list_append_2 _ _) (PySem.AutoListH.list_append_list_val_0 a vs.toArray n v (by simp [da.length, hz])) ⟨ho, ?_⟩
  refine k _ (vs ++ [v]) (n + 1) (fun b hb => Heap.get?_update_ne _ _ _ _ hb) ?_ (da.append (.cons i .nil))
  rw [Heap.get?_update_self _ ho (by rw [mapSeq_push]; rfl), mapSeq_push]
  simp
theorem X.extend {x : Str} {e : Expr} {p apos pos epos : Pos} {a : Addr} {vs : List Value} {n : Nat} {ds es : List D} (hl : Look c.names σ x (.own a vs n ds)) (h : Ev c σ e (.lst es)) (hz : ds.length + es.length ≤ sizeLine)
    (hn : ∀ vs' n', ∃ σ', Put c.names σ x (.own a vs n ds) (.own a vs' n' (ds ++ es)) σ' ∧ N σ')
    (he : ∀ env, starEach [e] env = [(false, eval e env)] := by intro _; rfl) (hline : (apos.endLine == pos.line) = true := by rfl)
    (hs : swapsWith (.Call (.Attribute (.Name x p) "extend" apos) [e] [] pos) none epos.line c.env = pure false := by rfl)
    (hd : (x == ("__debug__" : Str)) = false := by decide) :
    X c σ (.Expr (.Call (.Attribute (.Name x p) "extend" apos) [e] [] pos) epos) N Rt := by
  refine X.meth1 hl h PySem.F.slot_list_extend PySem.F.type_list_extend (fun s Z v Q E r i k => ?_) hn he hline hs hd
  obtain ⟨ho, da⟩ := r.own hl
  cases i with
  | lst hm ka =>
  rename_i b ws n2
  have hb := (r.zs _ hm).1
  have z1 : vs.toArray.size + ws.toArray.size ≤ sizeLine := by simp [da.length, ka.length, hz]
  refine call_meets PySem.F.slot_list_extend ⟨_, ho, rfl⟩ PySem.F.entry_list_extend (PySem.F.args_list_extend_2 _ _) (PySem.AutoSeq1.list_extend_list_list_0 a vs.toArray n b ws.toArray n2 (extend_door z1) (by simp [da.length]; lia) (by lia)) ⟨ho, hb, ?_⟩
  have e : vs.toArray ++ ws.toArray = (vs ++ ws).toArray := by simp
  refine k _ (vs ++ ws) (if (vs.toArray ++ ws.toArray).size == vs.toArray.size then n else n + 1) (fun b hb => Heap.get?_update_ne _ _ _ _ hb) ?_ (da.append ka)
  rw [Heap.get?_update_self _ ho (by rw [mapSeq_app]; rfl), mapSeq_app, e]
/-- x.reverse() of an own list -/
theorem X.reverse {x : Str} {p apos pos epos : Pos} {a : Addr} {vs : List Value} {n : Nat} {ds : List D} (hl : Look c.names σ x (.own a vs n ds)) (hz : ds.length ≤ sizeLine)
    (hn : ∀ vs' n', ∃ σ', Put c.names σ x (.own a vs n ds) (.own a vs' n' ds.reverse) σ' ∧ N σ')
    (hline : (apos.endLine == pos.line) = true := by rfl)
    (hs : swapsWith (.Call (.Attribute (.Name x p) "reverse" apos) [] [] pos) none epos.line c.env = pure false := by rfl)
    (hd : (x == ("__debug__" : Str)) = false := by decide) :
    X c σ (.Expr (.Call (.Attribute (.Name x p) "reverse" apos) [] [] pos) epos) N Rt := by
  intro s Z Q E r k1 k2
  refine wpAny_Expr_any (own_method r hl PySem.F.slot_list_reverse PySem.F.type_list_reverse (callWith_method0 ?_) rfl hline hd) r.inter hs
  obtain ⟨ho, da⟩ := r.own hl
  refine call_meets PySem.F.slot_list_reverse ⟨_, ho, rfl⟩ PySem.F.entry_list_reverse (PySem.F.args_list_reverse_1 _) (AutoListH.list_reverse_list_0 a vs.toArray n (by simp [da.length, hz])) ⟨ho, ?_⟩
  obtain ⟨σ', hp, hn'⟩ := hn vs.reverse n
  refine k1 _ _ s.toks _ hn' (R.ownUpd (h := s.heap) r hp (fun b hb => Heap.get?_update_ne _ _ _ _ hb) ?_ da.reverse) .refl
  rw [Heap.get?_update_self _ ho (by rw [mapSeq_reverse]; rfl), mapSeq_reverse]

/-- an own list is frozen: from here on it is a value -/
theorem R.freezeOwn {Z : Led} {h : Heap} {x : Str} {a : Addr} {vs : List Value} {n : Nat} {ds : List D} (r : R c σ Z h) (hp : Put c.names σ x (.own a vs n ds) (.val (.lst ds)) σ') : R c σ' ((a, listOf vs.toArray n) :: Z) h := by
  obtain ⟨o1, o2, o3⟩ := r.ow _ _ _ hp.old rfl
  obtain ⟨m, F, l⟩ := r.fr
  have z := l _ _ hp.old
  refine ⟨r.ok, ⟨m, F, fun y t hy => ?_⟩, fun p hp => ?_, fun y t b hy hb' => ?_, fun y z t u b hy hz hne hb' => ?_, r.tb1.mono .cons fun _ e => e, r.tb2.mono .cons fun _ e => e⟩
  · rcases hp.split r.ok.nd hy with ⟨rfl, rfl⟩ | ⟨hne, hy⟩
    · exact ⟨z.1, _, z.2.1, .lst (.head _) (z.2.2.2.mono .cons)⟩
    · exact (l _ _ hy).mono .cons
  · rcases List.mem_cons.mp hp with rfl | hp
    · exact ⟨z.2.2.1, o2, o1.2⟩
    · exact r.zs p hp
  · rcases hp.split r.ok.nd hy with ⟨rfl, rfl⟩ | ⟨hne, hy⟩
    · cases hb'
    · obtain ⟨q1, q2, q3⟩ := r.ow _ _ _ hy hb'
      refine ⟨q1, q2, fun p hq => ?_⟩
      rcases List.mem_cons.mp hq with rfl | hq
      · exact fun e => r.sep _ _ _ _ _ hy hp.old hne hb' (congrArg some e)
      · exact q3 p hq
  · rcases hp.split r.ok.nd hy with ⟨rfl, rfl⟩ | ⟨hney, hy⟩
    · cases hb'
    · rcases hp.split r.ok.nd hz with ⟨rfl, rfl⟩ | ⟨hnez, hz⟩
      · exact fun q => nomatch q
      · exact r.sep _ _ _ _ _ hy hz hne hb'
theorem XS.freeze {st : List Stmt} {x : Str} {a : Addr} {vs : List Value} {n : Nat} {ds : List D} (hp : Put c.names σ x (.own a vs n ds) (.val (.lst ds)) σ') (h : XS c σ' st N Rt) : XS c σ st N Rt := by
  intro s Z Q E r k1 k2
  exact h _ _ _ _ (r.freezeOwn hp) (fun _ _ _ _ n r z => k1 _ _ _ _ n r (Sub.cons.trans z)) fun _ _ _ _ _ _ n r z i => k2 _ _ _ _ _ _ n r (Sub.cons.trans z) i
/-- a name is forgotten -/
theorem R.forget {Z : Led} {h : Heap} {x : Str} {o : Sl} (r : R c σ Z h) (hp : Put c.names σ x o .no σ') (ho : o.local = true) : R c σ' Z h := by
  obtain ⟨m, F, l⟩ := r.fr
  have z := (l _ _ hp.old).kind ho
  refine ⟨r.ok, ⟨m, F, fun y t hy => ?_⟩, r.zs, fun y t b hy hb' => ?_, fun y z t u b hy hz hne hb' => ?_, r.tb1, r.tb2⟩
  · rcases hp.split r.ok.nd hy with ⟨rfl, rfl⟩ | ⟨hne, hy⟩
    · exact z
    · exact l _ _ hy
  · rcases hp.split r.ok.nd hy with ⟨rfl, rfl⟩ | ⟨hne, hy⟩
    · cases hb'
    · exact r.ow _ _ _ hy hb'
  · rcases hp.split r.ok.nd hy with ⟨rfl, rfl⟩ | ⟨hney, hy⟩
    · cases hb'
    · rcases hp.split r.ok.nd hz with ⟨rfl, rfl⟩ | ⟨hnez, hz⟩
      · exact fun q => nomatch q
      · exact r.sep _ _ _ _ _ hy hz hne hb'
theorem XS.forget {st : List Stmt} {x : Str} {o : Sl} (hp : Put c.names σ x o .no σ') (ho : o.local = true) (h : XS c σ' st N Rt) : XS c σ st N Rt :=
  fun s Z Q E r k1 k2 => h _ _ _ _ (r.forget hp ho) k1 k2
/-- y = x of an own list: from here on it is y's -/
theorem X.move {x y : Str} {p q pos : Pos} {a : Addr} {vs : List Value} {n : Nat} {ds : List D} {o : Sl} {σ₁ : Sig} (h1 : Put c.names σ x (.own a vs n ds) .no σ₁) (h2 : Put c.names σ₁ y o (.own a vs n ds) σ') (ho : o.local = true) (hn : N σ')
    (hs : swapsWith (.Name x p) (some (.Name y q)) pos.line c.env = pure false := by rfl) (hd : (x == ("__debug__" : Str)) = false := by decide) : X c σ (.Assign [.Name y q] (.Name x p) pos) N Rt := by
  intro s Z Q E r k1 k2
  refine wpAny_Assign_Name (r.loadOwn h1.old ?_ hd) hs
  obtain ⟨e, da⟩ := r.own h1.old
  have w := r.ow _ _ _ h1.old rfl
  have r1 := r.forget h1 rfl
  have hk : c.env.kindOf y = some .local := let ⟨m, F, l⟩ := r1.fr; (l _ _ h2.old).kind ho
  refine R.store r1 h2 ho (fun m h' e' hs' => ⟨hk, e', (hs' _ w.2.1).trans e, da⟩) (fun b e' => ?_) fun h' tk' r' => k1 _ _ _ _ hn r' .refl
  cases e'
  refine ⟨w.1, w.2.1, w.2.2, fun z t hz hne q => ?_⟩
  rcases h1.split r.ok.nd hz with ⟨rfl, rfl⟩ | ⟨hnez, hz⟩
  · cases q
  · exact r.sep _ _ _ _ _ hz h1.old hnez q rfl
end
/-! H6 -/
section
variable {c : Cx} {σ σ' : Sig}

/-- what has items by place -/
inductive Seqs : D → Prop
  | lst (ds : List D) : Seqs (.lst ds)
  | tup (ds : List D) : Seqs (.tup ds)
theorem Ev.sub {value idx : Expr} {pos : Pos} {d1 d2 d : D} (h1 : Ev c σ value d1) (h2 : Ev c σ idx d2) (hq : Seqs d1) (h : Op2 c getItem d1 d2 d)
    (hs : ∀ o i, subscripted idx false o i = operate [o, i] (getItem o i) := by intro _ _; rfl) : Ev c σ (.Subscript value idx pos) d := by
  intro s Z Q E r k
  refine Subscript_ (h1 _ _ _ _ r fun h' tk' Z' v r' z' i' => h2 _ _ _ _ r' fun h'' tk'' Z'' v'' r'' z'' i'' => ?_)
  have g : wpAny c.M c.A (getItem v v'') Q E { s with heap := h'', toks := tk'' } := h _ { s with heap := h'', toks := tk'' } _ _ _ _ _ r'' (i'.mono z'') i'' fun h3 tk3 Z3 v3 r3 z3 i3 => k _ _ _ _ r3 ((z'.trans z'').trans z3) i3
  cases hq with
  | lst ds =>
    obtain ⟨a, vs, rfl, l, ka⟩ := (i'.mono z'').isList r''
    exact tail_any l.typeIs slot_list_getitem.lookup g (hs _ _)
  | tup ds =>
    obtain ⟨a, vs, rfl, l, ka⟩ := (i'.mono z'').isTup r''
    exact tail_any (IsTup.typeIs (l : IsTup _ _ _)) slot_tuple_getitem.lookup g (hs _ _)
theorem itemL {ds : List D} {i : Int} {d : D} (h0 : 0 ≤ i) (h1 : i < 2 ^ 63) (hd : ds[i.toNat]? = some d) : Op2 c getItem (.lst ds) (.int i) d := by
  intro σ s Z v1 v2 Q E r i1 i2 k
  obtain ⟨a, vs, rfl, l, ka⟩ := i1.isList r
  cases i2
  obtain ⟨v, hv, iv⟩ := ka.get hd
  exact wpAny_getItem_list l h0 h1 (by simpa using hv) (k _ s.toks _ _ r .refl iv)
theorem itemLneg {ds : List D} {i : Int} {d : D} (h0 : i < 0) (h1 : -(ds.length : Int) ≤ i) (h2 : -(2 ^ 63) ≤ i) (hd : ds[(i + ds.length).toNat]? = some d) : Op2 c getItem (.lst ds) (.int i) d := by
  intro σ s Z v1 v2 Q E r i1 i2 k
  obtain ⟨a, vs, rfl, l, ka⟩ := i1.isList r
  cases i2
  obtain ⟨v, hv, iv⟩ := ka.get hd
  exact wpAny_getItem_list_neg l h0 (by simpa [ka.length] using h1) h2 (by simpa [ka.length] using hv) (k _ s.toks _ _ r .refl iv)
theorem itemT {ds : List D} {i : Int} {d : D} (h0 : 0 ≤ i) (h1 : i < 2 ^ 63) (hd : ds[i.toNat]? = some d) : Op2 c getItem (.tup ds) (.int i) d := by
  intro σ s Z v1 v2 Q E r i1 i2 k
  obtain ⟨a, vs, rfl, l, ka⟩ := i1.isTup r
  cases i2
  obtain ⟨v, hv, iv⟩ := ka.get hd
  have hlt : i.toNat < ds.length := (List.getElem?_eq_some_iff.mp hd).1
  refine getItem_tuple (l : IsTup _ _ _) (by lia) h1 (j := i.toNat) ?_ (by simpa using hv) (k _ s.toks _ _ r .refl iv)
  unfold seqIndex?
  have e : (if i < 0 then i + (vs.toArray.size : Nat) else i) = i := if_neg (by lia)
  simp only [e]
  rw [if_pos]
  simp only [Bool.and_eq_true, decide_eq_true_eq, List.size_toArray, ka.length]
  lia
/-- an item of an own list -/
theorem Ev.subOwn {x : Str} {idx : Expr} {p pos : Pos} {a : Addr} {vs : List Value} {n : Nat} {ds : List D} {i : Int} {d : D} (hl : Look c.names σ x (.own a vs n ds)) (h2 : Ev c σ idx (.int i)) (h0 : 0 ≤ i) (h1 : i < 2 ^ 63) (hd : ds[i.toNat]? = some d)
    (hs : ∀ o i, subscripted idx false o i = operate [o, i] (getItem o i) := by intro _ _; rfl) (hb : (x == ("__debug__" : Str)) = false := by decide) : Ev c σ (.Subscript (.Name x p) idx pos) d := by
  intro s Z Q E r k
  refine Subscript_ (r.loadOwn hl (h2 _ _ _ _ r fun h' tk' Z' v r' z' i' => ?_) hb)
  obtain ⟨ho, ka⟩ := r'.own hl
  have l : h'.IsList a vs.toArray := ⟨_, ho, rfl, _, rfl⟩
  cases i'
  obtain ⟨v, hv, iv⟩ := ka.get hd
  exact tail_any l.typeIs slot_list_getitem.lookup (wpAny_getItem_list (s := { s with heap := h', toks := tk' }) l h0 h1 (by simpa using hv) (k _ _ _ _ r' z' iv)) (hs _ _)
theorem Ev.subOwnNeg {x : Str} {idx : Expr} {p pos : Pos} {a : Addr} {vs : List Value} {n : Nat} {ds : List D} {i : Int} {d : D} (hl : Look c.names σ x (.own a vs n ds)) (h2 : Ev c σ idx (.int i)) (h0 : i < 0) (h1 : -(ds.length : Int) ≤ i) (h3 : -(2 ^ 63) ≤ i) (hd : ds[(i + ds.length).toNat]? = some d)
    (hs : ∀ o i, subscripted idx false o i = operate [o, i] (getItem o i) := by intro _ _; rfl) (hb : (x == ("__debug__" : Str)) = false := by decide) : Ev c σ (.Subscript (.Name x p) idx pos) d := by
  intro s Z Q E r k
  refine Subscript_ (r.loadOwn hl (h2 _ _ _ _ r fun h' tk' Z' v r' z' i' => ?_) hb)
  obtain ⟨ho, ka⟩ := r'.own hl
  have l : h'.IsList a vs.toArray := ⟨_, ho, rfl, _, rfl⟩
  cases i'
  obtain ⟨v, hv, iv⟩ := ka.get hd
  exact tail_any l.typeIs slot_list_getitem.lookup (wpAny_getItem_list_neg (s := { s with heap := h', toks := tk' }) l h0 (by simpa [ka.length] using h1) h3 (by simpa [ka.length] using hv) (k _ _ _ _ r' z' iv)) (hs _ _)
theorem pick3 (v0 v1 v2 v3 v4 v5 : Value) : slicePick [v0, v1, v2, v3, v4, v5].toArray none (some 3) none = [v0, v1, v2].toArray := by
  unfold slicePick
  have e : sliceRange (sliceBounds none (some 3) none 6).1 (sliceBounds none (some 3) none 6).2.1 (sliceBounds none (some 3) none 6).2.2 = [0, 1, 2] := by decide
  have e2 : [v0, v1, v2, v3, v4, v5].toArray.size = 6 := rfl
  rw [e2, e]
  rfl
theorem DAll.uncons {Z : Led} {vs : List Value} {d : D} {ds : List D} (h : DAll Z vs (d :: ds)) : ∃ v ws, vs = v :: ws ∧ DIn Z v d ∧ DAll Z ws ds := by
  cases h with
  | cons a b => exact ⟨_, _, rfl, a, b⟩
theorem DAll.nil_inv {Z : Led} {vs : List Value} (h : DAll Z vs []) : vs = [] := by cases h; rfl
theorem take3_end {s : Shared} {Z : Led} {a : Addr} {vs : List Value} {d0 d1 d2 d3 d4 d5 : D} {tk : Nat} {S : Obj} (r : R c σ Z s.heap) (ka : DAll Z vs [d0, d1, d2, d3, d4, d5]) :
    ∃ ws : List Value, slicePick vs.toArray none (some 3) none = ws.toArray ∧ R c σ ((s.heap.objs.size + 1, listOf ws.toArray 0) :: Z) ((s.heap.push S).push (listOf ws.toArray 0)) ∧
      DIn ((s.heap.objs.size + 1, listOf ws.toArray 0) :: Z) (.ref (s.heap.objs.size + 1)) (.lst [d0, d1, d2]) := by
  obtain ⟨v0, w0, rfl, i0, ka⟩ := ka.uncons
  obtain ⟨v1, w1, rfl, i1, ka⟩ := ka.uncons
  obtain ⟨v2, w2, rfl, i2, ka⟩ := ka.uncons
  obtain ⟨v3, w3, rfl, i3, ka⟩ := ka.uncons
  obtain ⟨v4, w4, rfl, i4, ka⟩ := ka.uncons
  obtain ⟨v5, w5, rfl, i5, ka⟩ := ka.uncons
  obtain rfl := ka.nil_inv
  refine ⟨[v0, v1, v2], pick3 .., ?_, ?_⟩
  · have e : (s.heap.push S).objs.size = s.heap.objs.size + 1 := Heap.size_push ..
    have r2 := (r.push S).new (o := listOf [v0, v1, v2].toArray 0) rfl
    rw [e] at r2
    exact r2
  · exact .lst (.head _) (.cons (i0.mono .cons) (.cons (i1.mono .cons) (.cons (i2.mono .cons) .nil)))
/-- the first three of an own list of six -/
theorem Ev.take3 {x : Str} {ks : Nat} {p p3 pk pos : Pos} {a : Addr} {vs : List Value} {n : Nat} {d0 d1 d2 d3 d4 d5 : D} (hl : Look c.names σ x (.own a vs n [d0, d1, d2, d3, d4, d5])) (hb : (x == ("__debug__" : Str)) = false := by decide) :
    Ev c σ (.Subscript (.Name x p) (.Slice none (some (.Constant (.int 3) ks pk)) none p3) pos) (.lst [d0, d1, d2]) := by
  intro s Z Q E r k
  refine wpAny_Subscript_list_slice (r.loadOwn hl ?_ hb)
  rw [evalPart_none, evalPart_some]
  refine wpAny_pure (wpAny_Constant_int ?_)
  obtain ⟨ho, ka⟩ := r.own hl
  obtain ⟨ws, e, r2, i6⟩ := take3_end (a := a) (tk := s.toks) (S := { cls := .type "slice", data := .fields #[Value.none, Value.int 3 s.toks, Value.none] }) r ka
  refine ⟨a, vs.toArray, none, some 3, rfl, ⟨_, ho, rfl, _, rfl⟩, by simp [ka.length, sizeLine_eq], .none, .int _ _, ?_⟩
  rw [e]
  exact k _ (s.toks + 1) _ _ r2 .cons i6
end
/-! H7 -/
section
variable {c : Cx} {σ σ' : Sig}

theorem R.loadB {s : Shared} {Z : Led} {x : Str} {p : Pos} {v : Value} {Q : Value → Shared → Prop} {E : Value → Shared → Prop} (r : R c σ Z s.heap) (hg : x ∈ c.gnames) (hb : (x, v) ∈ c.G.bns) (h : Q v s)
    (hd : (x == ("__debug__" : Str)) = false) : wpAny c.M c.A (eval (.Name x p) c.env) Q E s := by
  obtain ⟨h1, h2, h3⟩ := r.ok.gf.bn _ hb
  exact Name_function_global r.ok.kind (r.ok.gn _ hg) (loadGlobal_builtin r.ns h1 r.bns ((r.ok.gf.top.builtins _ h2).trans h3) h) hd
/-- a call of a built-in -/
theorem Ev.callB {x : Str} {id : String} {e : Expr} {es : List Expr} {p pos : Pos} {ds : List D} {d : D} (hg : x ∈ c.gnames) (hb : (x, .builtin id) ∈ c.G.bns) (h : EvL c σ pos (e :: es) ds) (hc : CB c (.builtin id) ds d)
    (hd : (x == ("__debug__" : Str)) = false := by decide) (he : ∀ env, starEach (e :: es) env = (false, eval e env) :: starEach es env := by intro _; rfl)
    (hp : ∀ env, (backTo pos (starEach es env)).any (·.1) = false := by intro _; rfl) : Ev c σ (.Call (.Name x p) (e :: es) [] pos) d := by
  intro s Z Q E r k
  refine wpAny_Call_Name_kw (r.loadB hg hb (callWith_builtin1 (h _ _ _ _ r fun h' tk' Z' vs r' z' i' => ?_) (he _) (hp _)) hd)
  exact hc _ _ _ _ _ _ r' i' fun h3 tk3 Z3 v3 r3 z3 i3 => k _ _ _ _ r3 (z'.trans z3) i3
/-- a call of a built-in class -/
theorem Ev.callT {x : Str} {id : String} {e : Expr} {es : List Expr} {p pos : Pos} {ds : List D} {d : D} (hg : x ∈ c.gnames) (hb : (x, .type id) ∈ c.G.bns) (h : EvL c σ pos (e :: es) ds) (hc : CB c (.type id) ds d)
    (hd : (x == ("__debug__" : Str)) = false := by decide) (he : ∀ env, starEach (e :: es) env = (false, eval e env) :: starEach es env := by intro _; rfl)
    (hp : ∀ env, (backTo pos (starEach es env)).any (·.1) = false := by intro _; rfl) : Ev c σ (.Call (.Name x p) (e :: es) [] pos) d := by
  intro s Z Q E r k
  refine wpAny_Call_Name_kw (r.loadB hg hb (PyProof.Rows.callWith_type1 (h _ _ _ _ r fun h' tk' Z' vs r' z' i' => ?_) (he _) (hp _)) hd)
  exact hc _ _ _ _ _ _ r' i' fun h3 tk3 Z3 v3 r3 z3 i3 => k _ _ _ _ r3 (z'.trans z3) i3

/-- a def's answer -/
def Fn (G : Glo) (d : DefRec) (k : Nat) (args : List D) (res : D) : Prop :=
  ∀ (c : Cx) (σ : Sig) (s : Shared) (Z : Led) (vs : List Value) (a : Addr) (Q : Value → Shared → Prop) (E : Value → Shared → Prop), c.G = G → k < c.room → R c σ Z s.heap → DAll Z vs args → G.mg d.name = some (.ref a) →
    (∀ h' tk' Z' v, R c σ Z' h' → Sub Z Z' → DIn Z' v res → Q v { s with heap := h', toks := tk' }) → wpAny c.M c.A (call (.ref a) vs) Q E s
theorem Ev.callF {x : Str} {d : DefRec} {e : Expr} {es : List Expr} {p pos : Pos} {ds : List D} {r : D} {k : Nat} (hg : x ∈ c.gnames) (hf : d ∈ c.G.fns) (hx : d.name = x) (h : EvL c σ pos (e :: es) ds) (hc : Fn c.G d k ds r) (hk : k < c.room)
    (hd : (x == ("__debug__" : Str)) = false := by decide) (he : ∀ env, starEach (e :: es) env = (false, eval e env) :: starEach es env := by intro _; rfl) : Ev c σ (.Call (.Name x p) (e :: es) [] pos) r := by
  subst hx
  intro s Z Q E rr kk
  obtain ⟨a, o, pm, code, doc, h1, h2, h3, h4⟩ := rr.ok.gf.fn _ hf
  refine wpAny_Call_Name_kw (Name_function_global rr.ok.kind (rr.ok.gn _ hg) (loadGlobal_global rr.ns h1 ?_) hd)
  refine callWith_def h3 (h _ _ _ _ rr fun h' tk' Z' vs r' z' i' => ⟨?_, ?_⟩) (he _)
  · obtain ⟨m, F, _⟩ := r'.fr
    exact F.keep _ _ h2
  · exact hc _ _ _ _ _ _ _ _ rfl hk r' i' h1 fun h3 tk3 Z3 v3 r3 z3 i3 => kk _ _ _ _ r3 (z'.trans z3) i3

/-- the heap less the two tables and some more -/
def ghost (G : Glo) (h : Heap) (hid : List Addr) : Heap := hideAll h (G.t1.P :: G.t2.P :: hid)
theorem ghost_get {G : Glo} {h : Heap} {hid : List Addr} {b : Addr} {o : Obj} (e : h.get? b = some o) (h1 : b ≠ G.t1.P) (h2 : b ≠ G.t2.P) (h3 : b ∉ hid) : (ghost G h hid).get? b = some o := hideAll_get _ e (by simp [h1, h2, h3])
theorem ghost_of {G : Glo} {h : Heap} {hid : List Addr} {b : Addr} {o : Obj} (e : (ghost G h hid).get? b = some o) : h.get? b = some o := of_hideAll _ e
theorem ghost_size (G : Glo) (h : Heap) (hid : List Addr) : (ghost G h hid).objs.size = h.objs.size := hideAll_size _ _

/-- the frame of a call -/
def Cx.sub (c : Cx) (h : Heap) (Z : Led) (env : Env) (hid : List Addr) (names gnames : List Str) (k : Nat) : Cx where
  G := c.G
  A := c.A.deeper env
  env := env
  h₀ := ghost c.G h hid
  names := names
  gnames := gnames
  av := fun b => (∃ o, h.get? b = some o) ∧ b ∉ Z.map (·.1) ∧ b ∉ hid
  room := k

theorem ne_lo {a b n : Nat} (h1 : a < n) (h2 : n ≤ b) : b ≠ a := by lia
theorem Cx.OK.p1 {c : Cx} (h : c.OK) : c.G.t1.P < c.h₀.objs.size := h.av _ h.av1
theorem Cx.OK.p2 {c : Cx} (h : c.OK) : c.G.t2.P < c.h₀.objs.size := h.av _ h.av2
/-- what may be hidden -/
def Hid (c : Cx) (hid : List Addr) : Prop := ∀ b ∈ hid, c.h₀.get? b = none ∧ ¬ c.av b
theorem Hid.nil {c : Cx} : Hid c [] := fun _ h => absurd h List.not_mem_nil
theorem R.keeps0 {Z : Led} {h : Heap} {hid : List Addr} (r : R c σ Z h) (H : Hid c hid) : ∀ b o, c.h₀.get? b = some o → (ghost c.G h hid).get? b = some o := fun b o e => by
  obtain ⟨m, F, _⟩ := r.fr
  exact ghost_get (F.keep b o e) (fun q => by rw [q, r.ok.g1] at e; cases e) (fun q => by rw [q, r.ok.g2] at e; cases e) fun q => by rw [(H b q).1] at e; cases e
theorem R.subOK {Z : Led} {h : Heap} {env : Env} {hid : List Addr} {names gnames : List Str} {k : Nat} (r : R c σ Z h) (H : Hid c hid) (hk : k < c.room) (h1 : env.scope.kind = .function) (hgl : env.globals = mainGlobals) (hbl : env.builtins = builtinsNs) (h2 : names.Nodup) (h3 : ∀ x ∈ gnames, env.kindOf x = some .globalImplicit) :
    (c.sub h Z env hid names gnames k).OK where
  gf := r.ok.gf.keeps (r.keeps0 H)
  hh := r.ok.hh
  kind := h1
  glob := hgl
  blt := hbl
  nd := h2
  gn := h3
  dp := by have := r.ok.dp; show c.A.depth + 1 + k < recursionLimit; lia
  un := by have := r.ok.un; show c.A.units + 3 + 8 * k + 80 < cLine; lia
  av := fun b hb => by show b < (ghost c.G h hid).objs.size; rw [ghost_size]; obtain ⟨⟨o, e⟩, _⟩ := hb; exact Heap.lt_size e
  avk := fun b hb => by
    obtain ⟨⟨o, e⟩, _, hh⟩ := hb
    by_cases h1 : b = c.G.t1.P
    · exact .inr (.inl h1)
    · by_cases h2 : b = c.G.t2.P
      · exact .inr (.inr h2)
      · exact .inl ⟨o, ghost_get e h1 h2 hh⟩
  av1 := by
    refine ⟨r.tb1.some, fun q => ?_, fun q => (H _ q).2 r.ok.av1⟩
    obtain ⟨p, hp, e⟩ := List.mem_map.mp q
    exact (r.zs p hp).2.2 (by rw [e]; exact r.ok.av1)
  av2 := by
    refine ⟨r.tb2.some, fun q => ?_, fun q => (H _ q).2 r.ok.av2⟩
    obtain ⟨p, hp, e⟩ := List.mem_map.mp q
    exact (r.zs p hp).2.2 (by rw [e]; exact r.ok.av2)
  g1 := hideAll_none _ (.head _)
  g2 := hideAll_none _ (.tail _ (.head _))
section
variable {Z Z' : Led} {h h' : Heap} {c' : Cx} {σ₁ : Sig} {names gnames : List Str} {env : Env} {hid : List Addr} {k : Nat}
theorem R.kp (hc : c' = c.sub h Z env hid names gnames k) (r' : R c' σ₁ Z' h') : ∀ b o, h.get? b = some o → b ≠ c.G.t1.P → b ≠ c.G.t2.P → b ∉ hid → h'.get? b = some o := by
  subst hc
  obtain ⟨m', F', _⟩ := r'.fr
  exact fun b o e h1 h2 h3 => F'.keep b o (ghost_get e h1 h2 h3)
theorem R.off (hc : c' = c.sub h Z env hid names gnames k) (r' : R c' σ₁ Z' h') : ∀ p ∈ Z', p.1 ∈ Z.map (·.1) ∨ p.1 ∈ hid ∨ ∀ o, h.get? p.1 ≠ some o := by
  subst hc
  intro p hp
  have q := (r'.zs p hp).2.2
  refine Classical.byContradiction fun hn => q ⟨?_, fun x => hn (.inl x), fun x => hn (.inr (.inl x))⟩
  exact Classical.byContradiction fun x => hn (.inr (.inr fun o e => x ⟨o, e⟩))
theorem R.zn (r : R c σ Z h) (hc : c' = c.sub h Z env hid names gnames k) (r' : R c' σ₁ Z' h') : ∀ p ∈ Z', ∀ b, (∃ o, h.get? b = some o) → b ∉ hid → (∀ q ∈ Z, q.1 ≠ b) → p.1 ≠ b := fun p hp b hb hn hq e => by
  rcases R.off hc r' p hp with h1 | h1 | h1
  · obtain ⟨q, hq1, hq2⟩ := List.mem_map.mp h1
    exact hq q hq1 (hq2.trans e)
  · exact hn (e ▸ h1)
  · obtain ⟨o, ho⟩ := hb
    exact h1 o (e ▸ ho)
theorem R.Lsome (r : R c σ Z h) : ∃ o, h.get? c.L = some o := let ⟨m, F, _⟩ := r.fr; let ⟨o, es, ep, q, _⟩ := F.ns; ⟨o, q⟩
theorem R.osome (r : R c σ Z h) {x : Str} {sl : Sl} {a : Addr} (hl : Look c.names σ x sl) (ha : sl.addr = some a) : ∃ o, h.get? a = some o := by
  obtain ⟨m, _, l⟩ := r.fr
  have k := l x sl hl
  cases sl with
  | own b vs n ds => cases ha; exact ⟨_, k.2.2.1⟩
  | cown ca b vs n ds => cases ha; exact ⟨_, k.2.2.2.1⟩
  | idict b ks vs ds => cases ha; obtain ⟨_, _, _, ⟨o, ho, _⟩, _⟩ := k; exact ⟨o, ho⟩
  | ucell b => cases ha; obtain ⟨o, ho, _⟩ := k.2.2; exact ⟨o, ho⟩
  | _ => cases ha
theorem R.backZ (r : R c σ Z h) (H : Hid c hid) (hc : c' = c.sub h Z env hid names gnames k) (r' : R c' σ₁ Z' h') (hL : c.L ∉ hid) (hz : ∀ b ∈ hid, ∀ p ∈ Z', p.1 ≠ b) : ∀ p ∈ Z', h'.get? p.1 = some p.2 ∧ p.1 ≠ c.L ∧ ¬ c.av p.1 := fun p hp => by
  refine ⟨(r'.zs p hp).1, r.zn hc r' p hp _ r.Lsome hL fun q hq => (r.zs q hq).2.1, fun q => ?_⟩
  exact r.zn hc r' p hp p.1 (r.avs q) (fun hm => (H _ hm).2 q) (fun u hu e => (r.zs u hu).2.2 (e ▸ q)) rfl
theorem R.backF (r : R c σ Z h) (H : Hid c hid) (hc : c' = c.sub h Z env hid names gnames k) (r' : R c' σ₁ Z' h') (hL : c.L ∉ hid) {m : Str → Option Value} (F : Fr c.h₀ c.L h m) : Fr c.h₀ c.L h' m := by
  refine ⟨?_, fun b o e => ?_, F.above⟩
  · obtain ⟨o, es, ep, q, r1⟩ := F.ns
    exact ⟨o, es, ep, R.kp hc r' _ _ q (ne_lo r.ok.p1 F.above) (ne_lo r.ok.p2 F.above) hL, r1⟩
  · subst hc
    obtain ⟨m', F', _⟩ := r'.fr
    exact F'.keep b o (r.keeps0 H b o e)
/-- behind a call -/
theorem R.back (r : R c σ Z h) (hc : c' = c.sub h Z env [] names gnames k) (r' : R c' σ₁ Z' h') (z : Sub Z Z') : R c σ Z' h' := by
  obtain ⟨m, F, l⟩ := r.fr
  refine ⟨r.ok, ⟨m, r.backF .nil hc r' List.not_mem_nil F, fun x sl hl => ((l x sl hl).mono z).ext fun b o ha e => ?_⟩, r.backZ .nil hc r' List.not_mem_nil fun _ q => absurd q List.not_mem_nil, fun x sl b hl hb => ?_, r.sep, ?_, ?_⟩
  · have w := (r.ow _ _ _ hl ha).1
    exact R.kp hc r' b o e (fun q => w.2 (q ▸ r.ok.av1)) (fun q => w.2 (q ▸ r.ok.av2)) List.not_mem_nil
  · obtain ⟨o1, o2, o3⟩ := r.ow _ _ _ hl hb
    exact ⟨o1, o2, fun p hp => r.zn hc r' p hp b (r.osome hl hb) List.not_mem_nil o3⟩
  · subst hc; exact r'.tb1
  · subst hc; exact r'.tb2
/-- behind a call that changed one own list -/
theorem R.back1 {σ' : Sig} {x y : Str} {ca cb a : Addr} {vs vs' : List Value} {n n' : Nat} {ds ds' : List D} (r : R c σ Z h) (hp : Put c.names σ x (.cown ca a vs n ds) (.cown ca a vs' n' ds') σ') (hc : c' = c.sub h Z env [a] names gnames k) (r' : R c' σ₁ Z' h')
    (hy : Look names σ₁ y (.cown cb a vs' n' ds')) (z : Sub Z Z') : R c σ' Z' h' := by
  obtain ⟨m, F, l⟩ := r.fr
  obtain ⟨o1, o2, o3⟩ := r.ow _ _ _ hp.old rfl
  have H : Hid c [a] := fun b hb => by rw [List.mem_singleton.mp hb]; exact o1
  have hL : c.L ∉ [a] := fun q => o2 (List.mem_singleton.mp q).symm
  have hy' : Look c'.names σ₁ y (.cown cb a vs' n' ds') := by subst hc; exact hy
  have z1 : ∀ p ∈ Z', p.1 ≠ a := (r'.ow _ _ _ hy' rfl).2.2
  have old : ∀ y s, Look c.names σ y s → y ≠ x → ∀ b o, s.addr = some b → h.get? b = some o → h'.get? b = some o := fun y s hl hne b o ha e => by
    have w := (r.ow _ _ _ hl ha).1
    exact R.kp hc r' b o e (fun q => w.2 (q ▸ r.ok.av1)) (fun q => w.2 (q ▸ r.ok.av2)) fun q => r.sep _ _ _ _ _ hl hp.old hne ha (by rw [List.mem_singleton.mp q]; rfl)
  refine ⟨r.ok, ⟨m, r.backF H hc r' hL F, fun y s hl => ?_⟩, r.backZ H hc r' hL fun b hb => by rw [List.mem_singleton.mp hb]; exact z1, fun y s b hl hb => ?_, fun u w s t b hu hw hne hb => ?_, ?_, ?_⟩
  · rcases hp.split r.ok.nd hl with ⟨rfl, rfl⟩ | ⟨hne, hl⟩
    · obtain ⟨k1, k2, ⟨co, k3, k4⟩, k5, k6⟩ := l _ _ hp.old
      obtain ⟨m', F', l'⟩ := r'.fr
      have q := l' _ _ hy'
      exact ⟨k1, k2, ⟨co, z _ k3, k4⟩, q.2.2.2.1, q.2.2.2.2⟩
    · exact ((l _ _ hl).mono z).ext (old _ _ hl hne)
  · rcases hp.split r.ok.nd hl with ⟨rfl, rfl⟩ | ⟨hne, hl⟩
    · cases hb; exact ⟨o1, o2, z1⟩
    · obtain ⟨q1, q2, q3⟩ := r.ow _ _ _ hl hb
      exact ⟨q1, q2, fun p hp' => r.zn hc r' p hp' b (r.osome hl hb) (fun q => r.sep _ _ _ _ _ hl hp.old hne hb (by rw [List.mem_singleton.mp q]; rfl)) q3⟩
  · rcases hp.split r.ok.nd hu with ⟨rfl, rfl⟩ | ⟨hneu, hu⟩
    · rcases hp.split r.ok.nd hw with ⟨rfl, rfl⟩ | ⟨hnew, hw⟩
      · exact absurd rfl hne
      · exact r.sep _ _ _ _ _ hp.old hw hne hb
    · rcases hp.split r.ok.nd hw with ⟨rfl, rfl⟩ | ⟨hnew, hw⟩
      · exact fun q => r.sep _ _ _ _ _ hu hp.old hne hb q
      · exact r.sep _ _ _ _ _ hu hw hne hb
  · subst hc; exact r'.tb1
  · subst hc; exact r'.tb2
/-- the heap at the body's first line -/
theorem R.enter {σ₀ : Sig} {Z₁ : Led} {m : Str → Option Value} (r : R c σ Z h) (hc : (c.sub h Z env hid names gnames k).OK) (hL : env.locals = h.objs.size) (hns : h'.Ns h.objs.size m) (hk : ∀ b o, h.get? b = some o → h'.get? b = some o)
    (hz : ∀ p ∈ Z₁, h'.get? p.1 = some p.2 ∧ h.objs.size < p.1) (hzh : ∀ b ∈ hid, ∀ p ∈ Z, p.1 ≠ b) (hσ : ∀ x sl, Look names σ₀ x sl → SlOK (c.sub h Z env hid names gnames k) (Z₁ ++ Z) m h' x sl)
    (how : ∀ x sl a, Look names σ₀ x sl → sl.addr = some a → (a ∈ hid ∧ a < h.objs.size) ∨ (h.objs.size < a ∧ ∀ p ∈ Z₁, p.1 ≠ a))
    (hsep : ∀ x y s t a, Look names σ₀ x s → Look names σ₀ y t → x ≠ y → s.addr = some a → t.addr ≠ some a) : R (c.sub h Z env hid names gnames k) σ₀ (Z₁ ++ Z) h' := by
  refine ⟨hc, ⟨m, ⟨by show h'.Ns env.locals m; rw [hL]; exact hns, fun b o e => hk b o (ghost_of e), by show (ghost c.G h hid).objs.size ≤ env.locals; rw [ghost_size, hL]; exact Nat.le_refl _⟩, hσ⟩, fun p hp => ?_, fun x sl a hl ha => ?_, hsep, ?_, ?_⟩
  · rcases List.mem_append.mp hp with hp | hp
    · obtain ⟨h1, h2⟩ := hz p hp
      exact ⟨h1, by show p.1 ≠ env.locals; rw [hL]; exact Nat.ne_of_gt h2, fun q => by obtain ⟨⟨o, e⟩, _⟩ := q; exact Nat.lt_asymm (Heap.lt_size e) h2⟩
    · exact ⟨hk _ _ (r.zs p hp).1, by show p.1 ≠ env.locals; rw [hL]; exact Nat.ne_of_lt (Heap.lt_size (r.zs p hp).1), fun q => q.2.1 (List.mem_map_of_mem hp)⟩
  · rcases how x sl a hl ha with ⟨h1, h2⟩ | ⟨h1, h2⟩
    · refine ⟨⟨hideAll_none _ (.tail _ (.tail _ h1)), fun q => q.2.2 h1⟩, by show a ≠ env.locals; rw [hL]; exact Nat.ne_of_lt h2, fun p hp => ?_⟩
      rcases List.mem_append.mp hp with hp | hp
      · exact fun e => Nat.lt_asymm h2 (e ▸ (hz p hp).2)
      · exact hzh a h1 p hp
    · refine ⟨⟨Heap.get?_none_of_le (by show (ghost c.G h hid).objs.size ≤ a; rw [ghost_size]; exact Nat.le_of_lt h1), fun q => by obtain ⟨⟨o, e⟩, _⟩ := q; exact Nat.lt_asymm (Heap.lt_size e) h1⟩, by show a ≠ env.locals; rw [hL]; exact Nat.ne_of_gt h1, fun p hp => ?_⟩
      rcases List.mem_append.mp hp with hp | hp
      · exact h2 p hp
      · exact fun e => Nat.lt_asymm (Heap.lt_size (r.zs p hp).1) (e ▸ h1)
  · exact (r.tb1.mono .refl fun o e => hk _ _ e).mono (fun p hp => List.mem_append_right _ hp) fun o e => e
  · exact (r.tb2.mono .refl fun o e => hk _ _ e).mono (fun p hp => List.mem_append_right _ hp) fun o e => e
end

theorem Look.args {pn rest : List Str} {ds : List D} {tl : Sig} {x : Str} {sl : Sl} : pn.length = ds.length → Look (pn ++ rest) (ds.map Sl.val ++ tl) x sl → (∃ (i : Nat) (d : D), pn[i]? = some x ∧ ds[i]? = some d ∧ sl = .val d) ∨ (Look rest tl x sl) := by
  induction pn generalizing ds with
  | nil =>
    intro h l
    cases ds with
    | nil => exact .inr l
    | cons _ _ => cases h
  | cons y pn ih =>
    intro h l
    cases ds with
    | nil => cases h
    | cons d ds =>
      cases l with
      | head => exact .inl ⟨0, d, rfl, rfl, rfl⟩
      | tail l =>
        rcases ih (by simpa using h) l with ⟨i, e, a, b, q⟩ | l
        · exact .inl ⟨i + 1, e, by simpa using a, by simpa using b, q⟩
        · exact .inr l

theorem Look.nos {rest : List Str} {x : Str} {sl : Sl} (h : Look rest (rest.map fun _ => Sl.no) x sl) : sl = .no := by
  induction rest with
  | nil => cases h
  | cons y rs ih =>
    cases h with
    | head => rfl
    | tail h => exact ih h
theorem lookup_only {l : List (Str × Value)} {x : Str} {v : Value} (h : (x, v) ∈ l) (hu : ∀ p ∈ l, p.1 = x → p.2 = v) : l.lookup x = some v := by
  induction l with
  | nil => cases h
  | cons p l ih =>
    obtain ⟨y, u⟩ := p
    rw [List.lookup_cons]
    by_cases e : (x == y) = true
    · rw [e]
      have := hu (y, u) (.head _) (beq_iff_eq.mp e).symm
      simp only at this
      rw [this]
    · have e' : (x == y) = false := by simpa using e
      rw [e']
      rcases List.mem_cons.mp h with h | h
      · cases h; simp at e
      · exact ih h fun p hp => hu p (.tail _ hp)
theorem lookup_binds {pn : List Str} {vs : List Value} (hn : pn.Nodup) {i : Nat} {x : Str} {v : Value} (h1 : pn[i]? = some x) (h2 : vs[i]? = some v) : (pn.zip vs).reverse.lookup x = some v := by
  refine lookup_only (List.mem_reverse.mpr (List.mem_of_getElem? (i := i) (List.getElem?_zip_eq_some.mpr ⟨h1, h2⟩))) fun p hp e => ?_
  obtain ⟨j, hj⟩ := List.getElem?_of_mem (List.mem_reverse.mp hp)
  obtain ⟨a1, a2⟩ := List.getElem?_zip_eq_some.mp hj
  obtain ⟨li, ei⟩ := List.getElem?_eq_some_iff.mp h1
  obtain ⟨lj, ej⟩ := List.getElem?_eq_some_iff.mp a1
  have pw := List.pairwise_iff_getElem.mp hn
  have : i = j := by
    rcases Nat.lt_trichotomy i j with h | h | h
    · exact absurd (ei.trans (e.symm.trans ej.symm)) (pw i j li lj h)
    · exact h
    · exact absurd (ej.trans (e.trans ei.symm)) (pw j i lj li h)
  subst this
  rw [h2] at a2
  exact (Option.some.inj a2).symm

/-- a def is what its body is -/
theorem Fn.of_body {G : Glo} {d : DefRec} {pn rest gnames : List Str} {k : Nat} {args : List D} {res : D} (hf : d ∈ G.fns)
    (hb : ∀ (vs : List Value) (pm code doc : Value), vs.length = args.length → bindArgs (docDef d.name d.params d.body d.scope pm code doc) ⟨vs, []⟩ = pure (pn.zip vs))
    (hlen : pn.length = args.length) (hnd : (pn ++ rest).Nodup) (hloc : ((pn ++ rest).all fun x => d.scope.names.lookup x == some .local) = true) (hgl : (gnames.all fun x => d.scope.names.lookup x == some .globalImplicit) = true)
    (hcell : (d.scope.names.all fun x => x.2 != .cell) = true) (hco : d.scope.isCoroutine = false) (hgen : d.scope.isGenerator = false) (hk : d.scope.kind = .function)
    (body : ∀ c' : Cx, c'.G = G → c'.names = pn ++ rest → c'.gnames = gnames → c'.room = k → XS c' (args.map Sl.val ++ rest.map fun _ => Sl.no) d.body (fun _ => False) (fun _ r => r = res)) : Fn G d k args res := by
  intro c σ s Z vs a Q E hG hkr r i ha q
  subst hG
  obtain ⟨a', o, pm, code, doc, h1, h2, h3, h4⟩ := r.ok.gf.fn _ hf
  have e1 : a' = a := by rw [h1] at ha; cases ha; rfl
  subst e1
  have hvl : vs.length = args.length := i.length
  have hloc' : ∀ x ∈ pn ++ rest, d.scope.names.lookup x = some .local := fun x hx => by simpa using List.all_eq_true.mp hloc x hx
  obtain ⟨m, F, l⟩ := r.fr
  refine wpAny_call (codeAny_call_def (by have := r.ok.dp; lia) (F.keep _ _ h2) h3 (r.ok.gf.top.nolimit.keeps F.keep) (h4.keeps F.keep) rfl (.of_eq (hb vs pm code doc hvl)) (fun x hx => by simpa using List.all_eq_true.mp hcell x hx)
    (fun x hx => hloc' x.1 (List.mem_append.mpr (.inl (List.of_mem_zip hx).1))) (fun h₁ hns hk₁ => ?_) hco hgen hk)
  have hc : (c.sub s.heap Z (envOf d.name d.scope s.heap.objs.size a' code) [] (pn ++ rest) gnames k).OK := r.subOK .nil hkr hk rfl rfl hnd fun x hx => by
    show d.scope.names.lookup x = some .globalImplicit
    simpa using List.all_eq_true.mp hgl x hx
  have noaddr : ∀ x sl b, Look (pn ++ rest) (args.map Sl.val ++ rest.map fun _ => Sl.no) x sl → sl.addr ≠ some b := by
    intro x sl b hl e
    rcases Look.args hlen hl with ⟨i', d', a1, a2, rfl⟩ | hl'
    · cases e
    · rw [Look.nos hl'] at e; cases e
  have rr : R (c.sub s.heap Z (envOf d.name d.scope s.heap.objs.size a' code) [] (pn ++ rest) gnames k) (args.map Sl.val ++ rest.map fun _ => Sl.no) ([] ++ Z) h₁ := by
    refine r.enter hc rfl hns hk₁ (fun p hp => absurd hp List.not_mem_nil) (fun b hb => absurd hb List.not_mem_nil) (fun x sl hl => ?_) (fun x sl a hl ha => absurd ha (noaddr x sl a hl)) fun x y s1 t b hl hl2 hne e => absurd e (noaddr _ _ _ hl)
    have hx := hloc' x hl.mem
    rcases Look.args hlen hl with ⟨i', d', a1, a2, rfl⟩ | hl'
    · obtain ⟨v, hv, iv⟩ := i.get a2
      exact ⟨hx, v, lookup_binds (List.nodup_append.mp hnd).1 a1 hv, iv⟩
    · rw [Look.nos hl']
      exact hx
  exact body (c.sub s.heap Z (envOf d.name d.scope s.heap.objs.size a' code) [] (pn ++ rest) gnames k) rfl rfl rfl rfl _ _ _ _ rr (fun _ _ _ _ hf _ _ => hf.elim) fun σ' h' tk' Z' v d' hd r' z i' => by
    subst hd
    exact q _ _ _ _ (r.back rfl r' z) z i'
end
/-! H8 -/
section
variable {c : Cx} {σ σ' : Sig}
theorem DAll.one_inv {Z : Led} {vs : List Value} {a : D} (h : DAll Z vs [a]) : ∃ u, vs = [u] ∧ DIn Z u a := by
  obtain ⟨u, w, rfl, i1, i2⟩ := h.uncons
  exact ⟨u, by rw [i2.nil_inv], i1⟩
theorem DAll.two_inv {Z : Led} {vs : List Value} {a b : D} (h : DAll Z vs [a, b]) : ∃ u v, vs = [u, v] ∧ DIn Z u a ∧ DIn Z v b := by
  obtain ⟨u, w, rfl, i1, i2⟩ := h.uncons
  obtain ⟨v, rfl, i3⟩ := i2.one_inv
  exact ⟨u, v, rfl, i1, i3⟩
theorem DAll.three_inv {Z : Led} {vs : List Value} {a b c : D} (h : DAll Z vs [a, b, c]) : ∃ u v w, vs = [u, v, w] ∧ DIn Z u a ∧ DIn Z v b ∧ DIn Z w c := by
  obtain ⟨u, w, rfl, i1, i2⟩ := h.uncons
  obtain ⟨v, w, rfl, i3, i4⟩ := i2.two_inv
  exact ⟨u, v, w, rfl, i1, i3, i4⟩
theorem lenL {ds : List D} (h : ds.length < 2 ^ 62) : CB c (.builtin "len") [.lst ds] (.int ds.length) := by
  intro σ s Z vs Q E r i k
  obtain ⟨v, rfl, i1⟩ := i.one_inv
  clear i
  obtain ⟨a, us, rfl, l, ka⟩ := i1.isList r
  refine len_list l (by simp [ka.length]; lia) ?_
  rw [show us.toArray.size = ds.length from by simp [ka.length]]
  exact k _ _ _ _ r .refl (.int _ _)
theorem lenS {x : Str} (h : x.length < 2 ^ 62) : CB c (.builtin "len") [.str x] (.int x.length) := by
  intro σ s Z vs Q E r i k
  obtain ⟨v, rfl, i1⟩ := i.one_inv
  clear i
  cases i1
  exact PyProof.Rows.len_str (by lia) (k _ _ _ _ r .refl (.int _ _))
theorem maxII {a b : Int} : CB c (.builtin "max") [.int a, .int b] (.int (if b > a then b else a)) := by
  intro σ s Z vs Q E r i k
  obtain ⟨v, v2, rfl, i1, i2⟩ := i.two_inv
  clear i
  cases i1; cases i2
  refine max_two_ints r.ok.hh fun h' tk kp => k _ _ _ _ (r.grow kp) .refl ?_
  split <;> exact .int _ _
theorem minII {a b : Int} : CB c (.builtin "min") [.int a, .int b] (.int (if b < a then b else a)) := by
  intro σ s Z vs Q E r i k
  obtain ⟨v, v2, rfl, i1, i2⟩ := i.two_inv
  clear i
  cases i1; cases i2
  refine min_two_ints r.ok.hh fun h' tk kp => k _ _ _ _ (r.grow kp) .refl ?_
  split <;> exact .int _ _
def toI (x : UInt64) : Int := match Float64.decode x with
  | .fin s m e => Float64.truncOf s m e
  | _ => 0
theorem intF {x : UInt64} (h : Float64.isFinite x = true) : CB c (.type "int") [.flt x] (.int (toI x)) := by
  intro σ s Z vs Q E r i k
  obtain ⟨v, rfl, i1⟩ := i.one_inv
  clear i
  cases i1
  cases hd : Float64.decode x with
  | fin sg m e =>
    refine call_int_float hd ?_
    have : toI x = Float64.truncOf sg m e := by unfold toI; rw [hd]
    rw [this] at k
    exact k _ _ _ _ r .refl (.int _ _)
  | nan => unfold Float64.isFinite at h; rw [hd] at h; cases h
  | inf => unfold Float64.isFinite at h; rw [hd] at h; cases h
theorem divmodII {a b : Int} (hb : b ≠ 0) (h : Builtin.divisionGoesByPylong a b = false) : CB c (.builtin "divmod") [.int a, .int b] (.tup [.int (a.fdiv b), .int (a.fmod b)]) := by
  intro σ s Z vs Q E r i k
  obtain ⟨v, v2, rfl, i1, i2⟩ := i.two_inv
  clear i
  cases i1; cases i2
  exact divmod_int hb (k _ _ _ _ (r.new (o := tupOf #[.int (a.fdiv b) s.toks, .int (a.fmod b) (s.toks + 1)] 0) rfl) .cons (.tup (vs := [_, _]) (n := 0) (.head _) (.cons (.int _ _) (.cons (.int _ _) .nil)))) (.inl h)
def mx (a b : UInt64) : UInt64 := if (Float64.cmp a b == some .lt) = true then b else a
def mn (a b : UInt64) : UInt64 := if (Float64.cmp b a == some .lt) = true then b else a
theorem three_off {s : Shared} {x y z : Value} (d : Addr) (hd : d = (s.heap.push { cls := .type "tuple", data := .seq #[x, y, z] }).objs.size ∨ d = s.heap.objs.size) {o : Obj} : d < ((s.heap.push { cls := .type "tuple", data := .seq #[x, y, z] }).push o).objs.size := by
  rw [Heap.size_push]
  have : (s.heap.push { cls := .type "tuple", data := .seq #[x, y, z] }).objs.size = s.heap.objs.size + 1 := Heap.size_push ..
  rcases hd with rfl | rfl
  · exact Nat.lt_succ_self _
  · rw [this]; exact Nat.lt_succ_of_lt (Nat.lt_succ_self _)
theorem maxFFF {x y z : UInt64} : CB c (.builtin "max") [.flt x, .flt y, .flt z] (.flt (mx (mx x y) z)) := by
  intro σ s Z vs Q E r i k
  obtain ⟨v1, v2, v3, rfl, i1, i2, i3⟩ := i.three_inv
  clear i
  cases i1; cases i2; cases i3
  rename_i t u q
  have hT : (s.heap.push { cls := .type "tuple", data := .seq #[.float x t, .float y u, .float z q] }).IsTuple s.heap.objs.size #[.float x t, .float y u, .float z q] := ⟨_, Heap.get?_push_size _ rfl, rfl, 0, rfl⟩
  refine call_max_three (wpAny_pyIter_tuple hT ?_)
  have hsz : (s.heap.push { cls := .type "tuple", data := .seq #[.float x t, .float y u, .float z q] }).objs.size = s.heap.objs.size + 1 := Heap.size_push ..
  refine ⟨_, [_, s.heap.objs.size], [_], _, _, _, _, rfl, Walks.tuple (A := c.A.in1) r.ok.hh _ s.heap.objs.size (by rw [hsz]; exact Nat.ne_of_lt (Nat.lt_succ_self _)) #[.float x t, .float y u, .float z q],
    ⟨⟨_, Heap.get?_push_size _ rfl, rfl, rfl⟩, hT.push _⟩, fun d hd => three_off d (by simpa using hd), by simp, PySem.Flt.cmpOf_gt #[.float x t, .float y u, .float z q] (by
      intro v hv; simp at hv; rcases hv with rfl | rfl | rfl <;> exact .float _ _), fun v h' tk hP hk => ?_⟩
  have kp : ∀ d o, s.heap.get? d = some o → h'.get? d = some o := fun d o e => by
    refine hk d o (fun hm => ?_) (Heap.get?_push_of_some _ (Heap.get?_push_of_some _ e))
    have := Heap.lt_size e
    rw [List.mem_singleton.mp hm, hsz] at this
    exact Nat.lt_irrefl _ (Nat.lt_of_succ_lt this)
  refine k _ _ _ _ (r.grow kp) .refl ?_
  have : v = .float (mx (mx x y) z) t ∨ v = .float (mx (mx x y) z) u ∨ v = .float (mx (mx x y) z) q := by
    cases h1 : (Float64.cmp x y == some .lt) with
    | true =>
      cases h2 : (Float64.cmp y z == some .lt) <;> simp [argBest, PySem.Flt.ltV, h1, h2] at hP <;> simp [mx, h1, h2, hP]
    | false =>
      cases h2 : (Float64.cmp x z == some .lt) <;> simp [argBest, PySem.Flt.ltV, h1, h2] at hP <;> simp [mx, h1, h2, hP]
  rcases this with rfl | rfl | rfl <;> exact .flt _ _
theorem minFFF {x y z : UInt64} : CB c (.builtin "min") [.flt x, .flt y, .flt z] (.flt (mn (mn x y) z)) := by
  intro σ s Z vs Q E r i k
  obtain ⟨v1, v2, v3, rfl, i1, i2, i3⟩ := i.three_inv
  clear i
  cases i1; cases i2; cases i3
  rename_i t u q
  have hT : (s.heap.push { cls := .type "tuple", data := .seq #[.float x t, .float y u, .float z q] }).IsTuple s.heap.objs.size #[.float x t, .float y u, .float z q] := ⟨_, Heap.get?_push_size _ rfl, rfl, 0, rfl⟩
  refine call_min_three (wpAny_pyIter_tuple hT ?_)
  have hsz : (s.heap.push { cls := .type "tuple", data := .seq #[.float x t, .float y u, .float z q] }).objs.size = s.heap.objs.size + 1 := Heap.size_push ..
  refine ⟨_, [_, s.heap.objs.size], [_], _, _, _, _, rfl, Walks.tuple (A := c.A.in1) r.ok.hh _ s.heap.objs.size (by rw [hsz]; exact Nat.ne_of_lt (Nat.lt_succ_self _)) #[.float x t, .float y u, .float z q],
    ⟨⟨_, Heap.get?_push_size _ rfl, rfl, rfl⟩, hT.push _⟩, fun d hd => three_off d (by simpa using hd), by simp, PySem.Flt.cmpOf_lt #[.float x t, .float y u, .float z q] (by
      intro v hv; simp at hv; rcases hv with rfl | rfl | rfl <;> exact .float _ _), fun v h' tk hP hk => ?_⟩
  have kp : ∀ d o, s.heap.get? d = some o → h'.get? d = some o := fun d o e => by
    refine hk d o (fun hm => ?_) (Heap.get?_push_of_some _ (Heap.get?_push_of_some _ e))
    have := Heap.lt_size e
    rw [List.mem_singleton.mp hm, hsz] at this
    exact Nat.lt_irrefl _ (Nat.lt_of_succ_lt this)
  refine k _ _ _ _ (r.grow kp) .refl ?_
  have : v = .float (mn (mn x y) z) t ∨ v = .float (mn (mn x y) z) u ∨ v = .float (mn (mn x y) z) q := by
    cases h1 : (Float64.cmp y x == some .lt) with
    | true =>
      cases h2 : (Float64.cmp z y == some .lt) <;> simp [argBest, PySem.Flt.ltV, h1, h2] at hP <;> simp [mn, h1, h2, hP]
    | false =>
      cases h2 : (Float64.cmp z x == some .lt) <;> simp [argBest, PySem.Flt.ltV, h1, h2] at hP <;> simp [mn, h1, h2, hP]
  rcases this with rfl | rfl | rfl <;> exact .flt _ _
end
/-! H9 -/
/-- an object that no datum is made of -/
def Apart (o : Obj) : Prop := (∀ a n, o ≠ listOf a n) ∧ (∀ a n, o ≠ tupOf a n) ∧ (∀ v, o.data ≠ .cell v) ∧ (∀ fd, o.data ≠ .func fd) ∧ ∀ vs q t, o.data = .fields vs → vs[1]? ≠ some (.str q t)
theorem Apart.fields {o : Obj} {vs : Array Value} {i : Int} {t : Tok} (h : o.data = .fields vs) (h1 : vs[1]? = some (.int i t)) : Apart o :=
  ⟨fun a n e => (by rw [e] at h; cases h), fun a n e => (by rw [e] at h; cases h), fun v e => (by rw [e] at h; cases h), fun v e => (by rw [e] at h; cases h), fun us q t e => (by rw [h] at e; cases e; rw [h1]; simp)⟩
def drop (Z : Led) (I : Addr) : Led := Z.filter fun p => decide (p.1 ≠ I)
theorem mem_drop {Z : Led} {I : Addr} {p : Addr × Obj} : p ∈ drop Z I ↔ p ∈ Z ∧ p.1 ≠ I := by simp [drop]
mutual
theorem DIn.drop {Z : Led} {I : Addr} (hI : ∀ o, (I, o) ∈ Z → Apart o) : ∀ {v : Value} {d : D}, DIn Z v d → DIn (drop Z I) v d
  | _, _, .none => .none
  | _, _, .bool b => .bool b
  | _, _, .int i t => .int i t
  | _, _, .flt b t => .flt b t
  | _, _, .str x t => .str x t
  | _, _, .tup h r => .tup (mem_drop.mpr ⟨h, fun e => (hI _ (by have e : _ = I := e; rw [← e]; exact h)).2.1 _ _ rfl⟩) (DAll.drop hI r)
  | _, _, .lst h r => .lst (mem_drop.mpr ⟨h, fun e => (hI _ (by have e : _ = I := e; rw [← e]; exact h)).1 _ _ rfl⟩) (DAll.drop hI r)
theorem DAll.drop {Z : Led} {I : Addr} (hI : ∀ o, (I, o) ∈ Z → Apart o) : ∀ {vs : List Value} {ds : List D}, DAll Z vs ds → DAll (drop Z I) vs ds
  | _, _, .nil => .nil
  | _, _, .cons h r => .cons (DIn.drop hI h) (DAll.drop hI r)
end
section
variable {c : Cx} {σ σ' : Sig} {N : Sig → Prop} {Rt : Sig → D → Prop}
theorem CellAt.drop {Z : Led} {I ca : Addr} {d : D} (hI : ∀ o, (I, o) ∈ Z → Apart o) (h : CellAt Z ca d) : CellAt (drop Z I) ca d := by
  obtain ⟨o, v, a, b, i⟩ := h
  exact ⟨o, v, mem_drop.mpr ⟨a, fun e => (hI _ (by have e : _ = I := e; rw [← e]; exact a)).2.2.1 _ b⟩, b, i.drop hI⟩
theorem TabSt.drop {Z : Led} {I : Addr} {h : Heap} {t : Tab} (hI : ∀ o, (I, o) ∈ Z → Apart o) (x : TabSt Z h t) : TabSt (drop Z I) h t := by
  rcases x with e | ⟨c', oc, vs, tk, e, a, b, d⟩
  · exact .inl e
  · exact .inr ⟨c', oc, vs, tk, e, mem_drop.mpr ⟨a, fun q => (hI _ (by have q : _ = I := q; rw [← q]; exact a)).2.2.2.2 _ _ _ b d⟩, b, d⟩
theorem R.drop {Z : Led} {h : Heap} {I : Addr} (r : R c σ Z h) (hI : ∀ o, (I, o) ∈ Z → Apart o) : R c σ (drop Z I) h := by
  obtain ⟨m, F, l⟩ := r.fr
  refine ⟨r.ok, ⟨m, F, fun x sl hl => ?_⟩, fun p hp => r.zs p (mem_drop.mp hp).1, fun x sl a hl ha => ?_, r.sep, r.tb1.drop hI, r.tb2.drop hI⟩
  · have k := l x sl hl
    cases sl with
    | no => exact k
    | val d => let ⟨v, e, i⟩ := k.2; exact ⟨k.1, v, e, i.drop hI⟩
    | own a vs n ds => exact ⟨k.1, k.2.1, k.2.2.1, k.2.2.2.drop hI⟩
    | ucell ca => exact k
    | cell => exact ⟨k.1, k.2.1, k.2.2.drop hI⟩
    | free => exact ⟨k.1, k.2.1, k.2.2.drop hI⟩
    | cown ca a vs n ds =>
      obtain ⟨k1, k2, ⟨co, k3, k4⟩, k5, k6⟩ := k
      exact ⟨k1, k2, ⟨co, mem_drop.mpr ⟨k3, fun e => (hI _ (by have e : _ = I := e; rw [← e]; exact k3)).2.2.1 _ k4⟩, k4⟩, k5, k6.drop hI⟩
    | idict a ks vs ds => let ⟨k1, k2, k3, k4, k5, k6⟩ := k; exact ⟨k1, k2, k3, k4, k5.drop hI, k6⟩
    | cfun ca fa d q cl =>
      obtain ⟨k1, k2, ⟨co, k3, k4⟩, o, doc, pm, c', ctv, oc, vs, tk, h1, h2, h3, h4, h5⟩ := k
      exact ⟨k1, k2, ⟨co, mem_drop.mpr ⟨k3, fun e => (hI _ (by have e : _ = I := e; rw [← e]; exact k3)).2.2.1 _ k4⟩, k4⟩, o, doc, pm, c', ctv, oc, vs, tk, mem_drop.mpr ⟨h1, fun e => (hI _ (by have e : _ = I := e; rw [← e]; exact h1)).2.2.2.1 _ h2⟩, h2,
        mem_drop.mpr ⟨h3, fun e => (hI _ (by have e : _ = I := e; rw [← e]; exact h3)).2.2.2.2 _ _ _ h4 h5⟩, h4, h5⟩
  · obtain ⟨o1, o2, o3⟩ := r.ow x sl a hl ha
    exact ⟨o1, o2, fun p hp => o3 p (mem_drop.mp hp).1⟩
/-- an iterator's place: its own -/
structure Iso (c : Cx) (σ : Sig) (Z : Led) (I : Addr) : Prop where
  lo : c.h₀.objs.size ≤ I
  ne : I ≠ c.L
  z : ∀ p ∈ Z, p.1 ≠ I
  ow : ∀ x sl, Look c.names σ x sl → sl.addr ≠ some I
/-- all but the iterator stays -/
theorem R.growBut {Z : Led} {h h' : Heap} {I : Addr} (r : R c σ Z h) (i : Iso c σ Z I) (k : ∀ b o, b ≠ I → h.get? b = some o → h'.get? b = some o) : R c σ Z h' := by
  obtain ⟨m, F, l⟩ := r.fr
  have k0 : ∀ b o, c.h₀.get? b = some o → h'.get? b = some o := fun b o e => k b o (fun q => Nat.lt_irrefl _ (Nat.lt_of_lt_of_le (q ▸ Heap.lt_size e) i.lo)) (F.keep b o e)
  refine ⟨r.ok, ⟨m, ⟨?_, k0, F.above⟩, fun x sl hl => (l x sl hl).ext fun a o ha e => k a o (fun q => i.ow _ _ hl (q ▸ ha)) e⟩, fun p hp => ⟨k _ _ (i.z p hp) (r.zs p hp).1, (r.zs p hp).2⟩, r.ow, r.sep, ?_, ?_⟩
  · obtain ⟨o, es, ep, q, r1⟩ := F.ns
    exact ⟨o, es, ep, k _ _ (Ne.symm i.ne) q, r1⟩
  · exact r.tb1.mono .refl fun o e => k _ _ (Ne.symm (ne_lo r.ok.p1 i.lo)) e
  · exact r.tb2.mono .refl fun o e => k _ _ (Ne.symm (ne_lo r.ok.p2 i.lo)) e

/-- what a for goes over -/
def It (c : Cx) (σ : Sig) (iter : Expr) (n : Nat) (item : Nat → D) : Prop :=
  ∀ (s : Shared) (Z : Led) (Q : Value → Shared → Prop) (E : Value → Shared → Prop), R c σ Z s.heap →
    (∀ h' tk' Z' I fp P St, R c σ Z' h' → Sub Z Z' → Walks c.G.prog c.G.w c.A I fp [I] n P St → St 0 h' → Iso c σ Z' I → (∀ b ∈ fp, b = I ∨ ∃ o, (b, o) ∈ Z') → (∀ i h, St i h → ∃ o, h.get? I = some o ∧ Apart o) → I ∈ fp →
      (∀ i v, i < n → P i v → DIn Z' v (item i)) → Q (.ref I) { s with heap := h', toks := tk' }) →
    wpAny c.M c.A (eval iter c.env) (fun xv s₁ => wpAny c.M c.A (pyIter xv) Q E s₁) E s

theorem X.for_ {x : Str} {px pos : Pos} {iter : Expr} {body : List Stmt} {n : Nat} {item : Nat → D} (hi : It c σ iter n item) (J : Nat → Sig → Prop) (h0 : J 0 σ)
    (turn : ∀ i σ₁, i < n → J i σ₁ → ∃ o σ₂, Put c.names σ₁ x o (.val (item i)) σ₂ ∧ o.local = true ∧ XS c σ₂ body (J (i + 1)) Rt) (done : ∀ σ₁, J n σ₁ → N σ₁)
    (hs : ∀ x, foldedSetIterable iter c.env x = pure x := by intro _; rfl) : X c σ (.For (.Name x px) iter body [] pos) N Rt := by
  intro s Z Q E r k1 k2
  refine wpAny_For (hi _ _ _ _ r fun h' tk' Z' I fp P St r' z' W st iso hfp hap hIf hP => ?_) hs
  refine codeAny_forLoop (fun k s' => ∃ i σ₁ Z₁ h₁ tk₁, s' = { s with heap := h₁, toks := tk₁ } ∧ i ≤ n ∧ k = n + 1 - i ∧ J i σ₁ ∧ R c σ₁ Z₁ h₁ ∧ Sub Z' Z₁ ∧ Iso c σ₁ Z₁ I ∧ St i h₁) ?_ (n + 1) ⟨0, σ, Z', h', tk', rfl, Nat.zero_le _, rfl, h0, r', .refl, iso, st⟩
  rintro k s' ⟨i, σ₁, Z₁, h₁, tk₁, rfl, hin, rfl, hJ, r₁, z₁, iso₁, st₁⟩
  by_cases hlt : i < n
  · refine W.item i _ _ _ hlt st₁ fun v h₂ tk₂ hPv st₂ k₂ => ?_
    have r₂ : R c σ₁ Z₁ h₂ := r₁.growBut iso₁ fun b o hb e => k₂ b o (by simpa using hb) e
    obtain ⟨oI, heI, hapI⟩ := hap _ _ st₂
    have r₃ := r₂.freeze1 heI iso₁.lo iso₁.ne iso₁.ow
    obtain ⟨o, σ₂, hp, hol, hb⟩ := turn i σ₁ hlt hJ
    refine wpAny_assign_Name (r₃.storeVal (s := { s with heap := h₂, toks := tk₂ }) hp hol ((hP i v hlt hPv).mono (z₁.trans .cons)) fun h₄ tk₄ r₄ => ?_)
    refine hb _ _ _ _ r₄ (fun σ₅ h₅ tk₅ Z₅ hJ₅ r₅ z₅ => ?_) fun σ₅ h₅ tk₅ Z₅ v₅ d₅ hd r₅ z₅ i₅ => k2 _ _ _ _ _ _ hd r₅ (((z'.trans z₁).trans .cons).trans z₅) i₅
    have mI : (I, oI) ∈ Z₅ := z₅ _ (.head _)
    have hA : ∀ o, (I, o) ∈ Z₅ → Apart o := fun o ho => by
      have e1 : h₅.get? I = some o := (r₅.zs _ ho).1
      have e2 : h₅.get? I = some oI := (r₅.zs _ mI).1
      have e3 : o = oI := Option.some.inj (e1.symm.trans e2)
      rw [e3]; exact hapI
    have hsub : Sub Z₁ (Td.drop Z₅ I) := fun p hp => mem_drop.mpr ⟨z₅ _ (.tail _ hp), iso₁.z p hp⟩
    refine ⟨n + 1 - (i + 1), by lia, i + 1, σ₅, Td.drop Z₅ I, h₅, tk₅, rfl, hlt, rfl, hJ₅, r₅.drop hA, z₁.trans hsub, ⟨iso₁.lo, iso₁.ne, fun p hp => (mem_drop.mp hp).2, fun x sl hl ha => (r₅.ow _ _ _ hl ha).2.2 _ mI rfl⟩, ?_⟩
    refine W.frame _ h₂ _ st₂ fun b hb o e => ?_
    rcases hfp b hb with rfl | ⟨o', hm⟩
    · have e3 : oI = o := Option.some.inj (heI.symm.trans e)
      rw [← e3]; exact (r₅.zs _ mI).1
    · have e1 : h₂.get? b = some o' := (r₂.zs _ (z₁ _ hm)).1
      have e3 : o = o' := Option.some.inj (e.symm.trans e1)
      rw [e3]; exact (r₅.zs _ (z₅ _ (.tail _ (z₁ _ hm)))).1
  · have hin' : i = n := by lia
    subst hin'
    refine W.done _ _ _ st₁ fun h₂ tk₂ k₂ => wpAny_execs_nil ?_
    exact k1 _ _ _ _ (done _ hJ) (r₁.growBut iso₁ fun b o hb e => k₂ b o (by simpa using hb) e) (z'.trans z₁)
theorem R.iso {Z : Led} {h : Heap} (r : R c σ Z h) : Iso c σ Z h.objs.size :=
  ⟨Nat.le_trans r.sizes.1 (Nat.le_of_lt r.sizes.2), Nat.ne_of_gt r.sizes.2, fun p hp q => Nat.lt_irrefl _ (q ▸ Heap.lt_size (r.zs p hp).1), fun x sl hl q => Nat.lt_irrefl _ (r.addr_lt hl q)⟩
/-- over a list -/
theorem It.list {iter : Expr} {ds : List D} (h : Ev c σ iter (.lst ds)) : It c σ iter ds.length (fun i => ds.getD i .none) := by
  intro s Z Q E r k
  refine h _ _ _ _ r fun h' tk' Z' v r' z' i' => ?_
  cases i' with
  | lst hm ka =>
  rename_i a vs n
  have hl : h'.IsList a vs.toArray := ⟨_, (r'.zs _ hm).1, rfl, _, rfl⟩
  refine wpAny_pyIter_list (s := { s with heap := h', toks := tk' }) hl ?_
  have hne : a ≠ h'.objs.size := r'.iso.z _ hm
  have W := Walks.list (prog := c.G.prog) (w := c.G.w) r'.ok.hh h'.objs.size a hne vs.toArray
  have hsz : vs.toArray.size = ds.length := by simp [ka.length]
  rw [hsz] at W
  refine k _ _ _ _ _ _ _ (r'.push _) z' W ⟨⟨_, Heap.get?_push_size _ rfl, rfl, rfl⟩, ⟨_, Heap.get?_push_of_some _ (r'.zs _ hm).1, rfl, _, rfl⟩⟩ r'.iso (fun b hb => ?_) (fun i h st => ?_) (.head _) (fun i v hi hv => ?_)
  · rcases List.mem_cons.mp hb with rfl | hb
    · exact .inl rfl
    · exact .inr ⟨_, (List.mem_singleton.mp hb) ▸ hm⟩
  · obtain ⟨⟨o, e, _, hd⟩, _⟩ := st
    exact ⟨o, e, .fields hd rfl⟩
  · have hd : ds[i]? = some (ds.getD i .none) := by rw [List.getD_eq_getElem?_getD, List.getElem?_eq_getElem hi]; rfl
    obtain ⟨w, hw, iw⟩ := ka.get hd
    have : vs[i]? = some v := by simpa using hv
    rw [this] at hw
    rw [Option.some.inj hw]; exact iw
end
/-! H10 -/
section
variable {c : Cx} {σ σ' : Sig} {N : Sig → Prop} {Rt : Sig → D → Prop}
theorem X.while_ {test : Expr} {body : List Stmt} {pos : Pos} (J : Nat → Sig → Prop) (n : Nat) (h : J n σ)
    (turn : ∀ n σ₁, J n σ₁ → ∃ b, Tst c σ₁ test b ∧ (b = true → XS c σ₁ body (fun σ₂ => ∃ m, m < n ∧ J m σ₂) Rt) ∧ (b = false → N σ₁)) : X c σ (.While test body [] pos) N Rt := by
  intro s Z Q E r k1 k2
  refine wpAny_While (codeAny_whileLoop (fun n s' => ∃ σ₁ Z₁ h₁ tk₁, s' = { s with heap := h₁, toks := tk₁ } ∧ J n σ₁ ∧ R c σ₁ Z₁ h₁ ∧ Sub Z Z₁) ?_ n ⟨σ, Z, s.heap, s.toks, rfl, h, r, .refl⟩)
  rintro n s' ⟨σ₁, Z₁, h₁, tk₁, rfl, hJ, r₁, z₁⟩
  obtain ⟨b, ht, hb1, hb0⟩ := turn n σ₁ hJ
  refine ht _ _ _ _ r₁ fun h₂ tk₂ Z₂ r₂ z₂ => ?_
  cases b with
  | true =>
    refine hb1 rfl _ _ _ _ r₂ (fun σ₃ h₃ tk₃ Z₃ hn r₃ z₃ => ?_) fun σ₃ h₃ tk₃ Z₃ v d hd r₃ z₃ i₃ => k2 _ _ _ _ _ _ hd r₃ ((z₁.trans z₂).trans z₃) i₃
    obtain ⟨m, hm, hJ'⟩ := hn
    exact ⟨m, hm, σ₃, Z₃, h₃, tk₃, rfl, hJ', r₃, (z₁.trans z₂).trans z₃⟩
  | false => exact wpAny_execs_nil (k1 _ _ _ _ (hb0 rfl) r₂ (z₁.trans z₂))

/-- over a range -/
theorem It.range {x : Str} {e : Expr} {p pos : Pos} {n : Nat} (hg : x ∈ c.gnames) (hb : (x, .type "range") ∈ c.G.bns) (h : Ev c σ e (.int n)) (hn : n < 2 ^ 60)
    (hd : (x == ("__debug__" : Str)) = false := by decide) (he : ∀ env, starEach [e] env = [(false, eval e env)] := by intro _; rfl) : It c σ (.Call (.Name x p) [e] [] pos) n (fun i => .int i) := by
  intro s Z Q E r k
  refine wpAny_Call_Name_kw (r.loadB hg hb (PyProof.Rows.callWith_type1 (args_cons (h _ _ _ _ r fun h' tk' Z' v r' z' i' => args_nil ?_) (he _)) (he _) rfl) hd)
  cases i'
  rename_i t
  refine call_range_1 ?_
  have r1 := r'.push { cls := .type "range", data := .fields #[.int 0 tk', .int n t, .int 1 (tk' + 1)] }
  have hsm : Builtin.Range.small 0 n 1 = true := small_one (by lia) (by lia) (by lia) (by lia)
  have hsz : Builtin.Range.rangeSize 0 n 1 = n := by rw [rangeSize_one]; split <;> lia
  refine wpAny_pyIter_range (IsRange.new _ _ _ _ _ _ _) hsm ?_
  rw [hsz]
  have W := Walks.range (prog := c.G.prog) (w := c.G.w) (A := c.A) r.ok.hh (h'.push { cls := .type "range", data := .fields #[.int 0 tk', .int n t, .int 1 (tk' + 1)] }).objs.size 0 1 n
  refine k _ _ _ _ _ _ _ (r1.push _) z' W ?_ r1.iso (fun b hb => .inl (List.mem_singleton.mp hb)) (fun i h st => ⟨_, st, .fields rfl rfl⟩) (.head _) (fun i v hi hv => ?_)
  · have e1 : (0 : Int) + ((0 : Nat) : Int) * 1 = 0 := by lia
    have e2 : (n : Int) - ((0 : Nat) : Int) = n := by lia
    rw [e1, e2]
    exact Heap.get?_push_size _ rfl
  · obtain ⟨t', rfl⟩ := hv
    have : (0 : Int) + (i : Int) * 1 = i := by lia
    rw [this]
    exact .int _ _
/-- over a list from behind -/
theorem It.reversed {x : Str} {e : Expr} {p pos : Pos} {ds : List D} (hg : x ∈ c.gnames) (hb : (x, .type "reversed") ∈ c.G.bns) (h : Ev c σ e (.lst ds))
    (hd : (x == ("__debug__" : Str)) = false := by decide) (he : ∀ env, starEach [e] env = [(false, eval e env)] := by intro _; rfl) : It c σ (.Call (.Name x p) [e] [] pos) ds.length (fun i => ds.getD (ds.length - 1 - i) .none) := by
  intro s Z Q E r k
  refine wpAny_Call_Name_kw (r.loadB hg hb (PyProof.Rows.callWith_type1 (args_cons (h _ _ _ _ r fun h' tk' Z' v r' z' i' => args_nil ?_) (he _)) (he _) rfl) hd)
  cases i' with
  | lst hm ka =>
  rename_i a vs n
  have hl : h'.IsList a vs.toArray := ⟨_, (r'.zs _ hm).1, rfl, _, rfl⟩
  have hne : a ≠ h'.objs.size := r'.iso.z _ hm
  have hsz : vs.toArray.size = ds.length := by simp [ka.length]
  refine call_reversed_list (s := { s with heap := h', toks := tk' }) hl ?_
  have st0 : (h'.push (revObj a ((vs.toArray.size : Int) - 1))).IsRevIter h'.objs.size a ((vs.toArray.size : Int) - 1) := ⟨_, Heap.get?_push_size _ rfl, rfl, rfl⟩
  refine wpAny_pyIter_revIter st0 ?_
  have W := Walks.listRev (prog := c.G.prog) (w := c.G.w) r'.ok.hh h'.objs.size a hne vs.toArray
  rw [hsz] at W
  refine k _ _ _ _ _ _ _ (r'.push _) z' W ⟨Nat.zero_le _, ?_, hl.at fun o e => Heap.get?_push_of_some _ e⟩ r'.iso (fun b hb => ?_) (fun i h st => ?_) (.head _) (fun i v hi hv => ?_)
  · rw [hsz] at st0
    simpa [hsz] using st0
  · rcases List.mem_cons.mp hb with rfl | hb
    · exact .inl rfl
    · exact .inr ⟨_, (List.mem_singleton.mp hb) ▸ hm⟩
  · obtain ⟨_, ⟨o, e, _, hd⟩, _⟩ := st
    exact ⟨o, e, .fields hd rfl⟩
  · have hlt : ds.length - 1 - i < ds.length := by lia
    have hd : ds[ds.length - 1 - i]? = some (ds.getD (ds.length - 1 - i) .none) := by rw [List.getD_eq_getElem?_getD, List.getElem?_eq_getElem hlt]; rfl
    obtain ⟨w, hw, iw⟩ := ka.get hd
    have : vs[ds.length - 1 - i]? = some v := by simpa using hv
    rw [this] at hw
    rw [Option.some.inj hw]; exact iw

theorem inOrder2 {M : Model} {A : Around} {E : Value → Shared → Prop} {s : Shared} {Q : Unit → Shared → Prop} {f g : Value → Sem Unit} {a b : Value} (h : wpAny M A (f a) (fun _ s₁ => wpAny M A (g b) Q E s₁) E s) : wpAny M A (assignInOrder [f, g] [a, b]) Q E s := by
  show wpAny M A (do holding [b] (f a); assignInOrder [g] [b]) Q E s
  refine wpAny_bind (wpAny_holding (wpAny_mono h (fun _ s₁ h₁ => ?_) fun _ _ x => x))
  show wpAny M A (do holding [] (g b); assignInOrder [] []) Q E s₁
  exact wpAny_bind (wpAny_holding (wpAny_mono h₁ (fun _ s₁ h₁ => wpAny_pure h₁) fun _ _ x => x))
theorem inOrder3 {M : Model} {A : Around} {E : Value → Shared → Prop} {s : Shared} {Q : Unit → Shared → Prop} {f g k : Value → Sem Unit} {a b d : Value} (h : wpAny M A (f a) (fun _ s₁ => wpAny M A (g b) (fun _ s₂ => wpAny M A (k d) Q E s₂) E s₁) E s) : wpAny M A (assignInOrder [f, g, k] [a, b, d]) Q E s := by
  show wpAny M A (do holding [b, d] (f a); assignInOrder [g, k] [b, d]) Q E s
  exact wpAny_bind (wpAny_holding (wpAny_mono h (fun _ s₁ h₁ => inOrder2 h₁) fun _ _ x => x))

/-- a, b = (a made pair) -/
theorem X.assign2 {x y : Str} {px py tp pos : Pos} {kk : Nat} {e : Expr} {d1 d2 : D} {o1 o2 : Sl} {σ₁ : Sig} (h : Ev c σ e (.tup [d1, d2])) (h1 : Put c.names σ x o1 (.val d1) σ₁) (h2 : Put c.names σ₁ y o2 (.val d2) σ') (ho1 : o1.local = true) (ho2 : o2.local = true) (hn : N σ')
    (hs : swapsWithSole [.Tuple [.Name x px, .Name y py] kk tp] e pos.line c.env = pure false := by rfl) (hw : swappedStores [.Tuple [.Name x px, .Name y py] kk tp] e c.env = pure none := by rfl) :
    X c σ (.Assign [.Tuple [.Name x px, .Name y py] kk tp] e pos) N Rt := by
  intro s Z Q E r k1 k2
  refine Assign_Tuple (h _ _ _ _ r fun h' tk' Z' v r' z' i' => ?_) hs hw
  obtain ⟨a, vs, rfl, l, ka⟩ := i'.isTup r'
  obtain ⟨v1, v2, rfl, i1, i2⟩ := ka.two_inv
  refine assign_Tuple_tuple r'.ok.hh (l : IsTup _ _ _) rfl rfl fun h2' he => ?_
  have r2 : R c σ Z' h2' := r'.grow fun b o e => he b o (Nat.ne_of_lt (Heap.lt_size e)) e
  refine inOrder2 (f := PySem.assign (.Name x px) c.env) (g := PySem.assign (.Name y py) c.env) (wpAny_assign_Name (r2.storeVal (s := { s with heap := h2', toks := tk' }) h1 ho1 i1 fun h3 tk3 r3 => ?_))
  exact wpAny_assign_Name (R.storeVal (s := { s with heap := h3, toks := tk3 }) r3 h2 ho2 i2 fun h4 tk4 r4 => k1 _ _ _ _ hn r4 z')
/-- a, b = x, y: the stores are swapped -/
theorem X.assign2s {x y : Str} {px py tp pos : Pos} {kk : Nat} {e : Expr} {d1 d2 : D} {o1 o2 : Sl} {σ₁ : Sig} (h : Ev c σ e (.tup [d1, d2])) (h1 : Put c.names σ y o2 (.val d2) σ₁) (h2 : Put c.names σ₁ x o1 (.val d1) σ') (ho1 : o1.local = true) (ho2 : o2.local = true)
    (hw : swappedStores [.Tuple [.Name x px, .Name y py] kk tp] e c.env = pure (some [x, y])) (hn : N σ')
    (hs : swapsWithSole [.Tuple [.Name x px, .Name y py] kk tp] e pos.line c.env = pure false := by rfl) :
    X c σ (.Assign [.Tuple [.Name x px, .Name y py] kk tp] e pos) N Rt := by
  intro s Z Q E r k1 k2
  refine Assign_Tuple_swapped (h _ _ _ _ r fun h' tk' Z' v r' z' i' => ?_) hs hw
  obtain ⟨a, vs, rfl, l, ka⟩ := i'.isTup r'
  obtain ⟨v1, v2, rfl, i1, i2⟩ := ka.two_inv
  have u := unpackItems_tuple (prog := c.G.prog) (w := c.G.w) (A := c.A) (E := E) (s := { s with heap := h', toks := tk' }) (t := a) (items := [v1, v2].toArray) (Q := fun items s₂ => wpAny c.M c.A (assignInOrder ([x, y].reverse.map fun n => bindName c.env n) items.reverse) (fun _ => Q .next) E s₂) r'.ok.hh (l : IsTup _ _ _) fun h2' he => by
    have r2 : R c σ Z' h2' := r'.grow fun b o e => he b o (Nat.ne_of_lt (Heap.lt_size e)) e
    refine inOrder2 (f := bindName c.env y) (g := bindName c.env x) (wpAny_bindName (r2.storeVal (s := { s with heap := h2', toks := tk' }) h1 ho2 i2 fun h3 tk3 r3 => ?_))
    exact wpAny_bindName (R.storeVal (s := { s with heap := h3, toks := tk3 }) r3 h2 ho1 i1 fun h4 tk4 r4 => k1 _ _ _ _ hn r4 z')
  exact u
/-- x.bit_length() -/
theorem Ev.bits {e : Expr} {apos pos : Pos} {a : Int} (h : Ev c σ e (.int a)) (hb : ∀ env, attributeBase e "bit_length" env (eval e env) = eval e env := by intro _; rfl) (hline : (apos.endLine == pos.line) = true := by rfl) :
    Ev c σ (.Call (.Attribute e "bit_length" apos) [] [] pos) (.int (Builtin.Int.intBits a)) := by
  intro s Z Q E r k
  refine wpAny_Call_method (hb _) rfl hline PySem.F.plainAttrs_int PySem.F.slot_int_bit_length PySem.F.type_int_bit_length (h _ _ _ _ r fun h' tk' Z' v r' z' i' => ?_)
  cases i'
  exact ⟨typeIs_int _ _ _, (fun a e => nomatch e), callWith_method0 (call_int_bit_length (k _ _ _ _ r' z' (.int _ _)))⟩
end
/-! H11 -/
section
variable {c : Cx} {σ σ' : Sig} {N : Sig → Prop} {Rt : Sig → D → Prop}

/-- an empty cell gets its value -/
theorem R.cellSet {Z : Led} {h h' : Heap} {x : Str} {ca : Addr} {sl : Sl} {v : Value} (r : R c σ Z h) (hp : Put c.names σ x (.ucell ca) sl σ') (hs : Heap.SameBut ca h h') (hv : h'.IsCell ca (some v))
    (hk : ∀ m co, co.data = .cell (some v) → c.env.kindOf x = some .cell → c.env.cells.lookup x = some ca → SlOK c ((ca, co) :: Z) m h' x sl)
    (how : ∀ a, sl.addr = some a → (c.h₀.get? a = none ∧ ¬ c.av a) ∧ a ≠ c.L ∧ a ≠ ca ∧ (∀ p ∈ Z, p.1 ≠ a) ∧ ∀ y t, Look c.names σ y t → y ≠ x → t.addr ≠ some a) : ∃ co, R c σ' ((ca, co) :: Z) h' := by
  obtain ⟨co, hco, hcd⟩ := hv
  obtain ⟨o1, o2, o3⟩ := r.ow _ _ _ hp.old rfl
  obtain ⟨m, F, l⟩ := r.fr
  have z := l _ _ hp.old
  refine ⟨co, r.ok, ⟨m, ⟨F.ns.sameBut hs (Ne.symm o2), fun b o e => (hs.2 b fun q => ?_).trans (F.keep b o e), F.above⟩, fun y t hy => ?_⟩, fun p hp' => ?_, fun y t a hy ha => ?_, fun y w t u a hy hw hne ha => ?_, ?_, ?_⟩
  · rw [q, o1.1] at e; cases e
  · rcases hp.split r.ok.nd hy with ⟨rfl, rfl⟩ | ⟨hne, hy⟩
    · exact hk m co hcd z.1 z.2.1
    · refine ((l _ _ hy).mono .cons).ext fun a o ha e => (hs.2 a fun q => ?_).trans e
      exact r.sep _ _ _ _ _ hy hp.old hne ha (congrArg some q.symm)
  · rcases List.mem_cons.mp hp' with rfl | hp'
    · exact ⟨hco, o2, o1.2⟩
    · exact ⟨(hs.2 _ (o3 p hp')).trans (r.zs p hp').1, (r.zs p hp').2⟩
  · rcases hp.split r.ok.nd hy with ⟨rfl, rfl⟩ | ⟨hne, hy⟩
    · obtain ⟨w1, w2, w3, w4, _⟩ := how a ha
      refine ⟨w1, w2, fun p hp' => ?_⟩
      rcases List.mem_cons.mp hp' with rfl | hp'
      · exact Ne.symm w3
      · exact w4 p hp'
    · obtain ⟨q1, q2, q3⟩ := r.ow _ _ _ hy ha
      refine ⟨q1, q2, fun p hp' => ?_⟩
      rcases List.mem_cons.mp hp' with rfl | hp'
      · exact fun q => r.sep _ _ _ _ _ hy hp.old hne ha (congrArg some q)
      · exact q3 p hp'
  · rcases hp.split r.ok.nd hy with ⟨rfl, rfl⟩ | ⟨hney, hy⟩
    · rcases hp.split r.ok.nd hw with ⟨rfl, rfl⟩ | ⟨hnew, hw⟩
      · exact absurd rfl hne
      · exact (how a ha).2.2.2.2 _ _ hw hnew
    · rcases hp.split r.ok.nd hw with ⟨rfl, rfl⟩ | ⟨hnew, hw⟩
      · exact fun q => (how a q).2.2.2.2 _ _ hy hney ha
      · exact r.sep _ _ _ _ _ hy hw hne ha
  · refine r.tb1.mono .cons fun o e => (hs.2 _ fun q => ?_).trans e
    exact o1.2 (q ▸ r.ok.av1)
  · refine r.tb2.mono .cons fun o e => (hs.2 _ fun q => ?_).trans e
    exact o1.2 (q ▸ r.ok.av2)
theorem R.storeCell {Z : Led} {s : Shared} {x : Str} {ca : Addr} {sl : Sl} {v : Value} {Q : Unit → Shared → Prop} {E : Value → Shared → Prop} (r : R c σ Z s.heap) (hp : Put c.names σ x (.ucell ca) sl σ')
    (hk : ∀ m h' co, co.data = .cell (some v) → c.env.kindOf x = some .cell → c.env.cells.lookup x = some ca → (∀ b, b ≠ ca → h'.get? b = s.heap.get? b) → SlOK c ((ca, co) :: Z) m h' x sl)
    (how : ∀ a, sl.addr = some a → (c.h₀.get? a = none ∧ ¬ c.av a) ∧ a ≠ c.L ∧ a ≠ ca ∧ (∀ p ∈ Z, p.1 ≠ a) ∧ ∀ y t, Look c.names σ y t → y ≠ x → t.addr ≠ some a)
    (k : ∀ h' Z', R c σ' Z' h' → Sub Z Z' → Q () { s with heap := h' }) : wpAny c.M c.A (storeName c.env x v) Q E s := by
  obtain ⟨m, F, l⟩ := r.fr
  have z := l _ _ hp.old
  refine wpAny_storeName_cell r.ok.kind z.1 z.2.1 z.2.2 fun h' hv hs => ?_
  obtain ⟨co, r'⟩ := r.cellSet hp hs hv (fun m co h1 h2 h3 => hk m h' co h1 h2 h3 hs.2) how
  exact k _ _ r' .cons
theorem R.storeCellVal {Z : Led} {s : Shared} {x : Str} {ca : Addr} {d : D} {v : Value} {Q : Unit → Shared → Prop} {E : Value → Shared → Prop} (r : R c σ Z s.heap) (hp : Put c.names σ x (.ucell ca) (.cell ca d) σ') (i : DIn Z v d)
    (k : ∀ h' Z', R c σ' Z' h' → Sub Z Z' → Q () { s with heap := h' }) : wpAny c.M c.A (storeName c.env x v) Q E s :=
  r.storeCell hp (fun m h' co h1 h2 h3 _ => ⟨h2, h3, ⟨co, v, .head _, h1, i.mono .cons⟩⟩) (fun a e => nomatch e) k

theorem len_of_get {α : Type} {l : List α} {k : Nat} {x : α} (h : l[k]? = some x) : k < l.length := (List.getElem?_eq_some_iff.mp h).1
/-- the repetition of a one-item list -/
theorem R.repeat1 {Z : Led} {s : Shared} {v1 v2 : Value} {d : D} {n : Int} {Q : Value → Shared → Prop} {E : Value → Shared → Prop} (r : R c σ Z s.heap) (i1 : DIn Z v1 (.lst [d])) (i2 : DIn Z v2 (.int n)) (h0 : 0 ≤ n) (h1 : n ≤ 1000)
    (k : ∀ vs, DAll Z vs (List.replicate n.toNat d) → Q (.ref s.heap.objs.size) { s with heap := s.heap.push (listOf vs.toArray 0) }) : wpAny c.M c.A (binaryOp .Mult v1 v2) Q E s := by
  cases i2
  rename_i u
  cases i1 with
  | lst hm ka =>
  rename_i l vs m
  obtain ⟨v, rfl, iv⟩ := ka.one_inv
  have ho := (r.zs _ hm).1
  refine wpAny_binaryOp_repeat_ref (T := "list") (U := "int") (by decide) ⟨_, ho, rfl⟩ (fun s' => typeIs_int s' n u) noFill_list_mul F.fills_int_mul F.slot_int_rmul repeat_list F.slot_int_index.lookup
    (call_meets F.slot_int_rmul (typeIs_int s n u) F.entry_int_rmul (F.args_int_rmul_2 _ _) (int___rmul___int_list n u l [v].toArray m)
      ⟨ho, rfl, ⟨_, ho, rfl⟩, call_meets F.slot_list_mul ⟨_, ho, rfl⟩ F.entry_list_mul (F.args_list_mul_2 _ _)
        (AutoListH.list___mul___list_int_3 l [v].toArray m n u (by simp [Builtin.List.listFitsIndex]; lia) (by rw [show [v].toArray.size = 1 from rfl]; lia) (by have : [v].toArray.size = 1 := rfl; simp [Builtin.List.listTooLong, sizeLine]; lia)) ⟨ho, ?_⟩⟩)
  have e : List.foldl (fun x1 x2 => x1 ++ x2) #[] (List.replicate (if [v].toArray.isEmpty = true then 0 else n.toNat) [v].toArray) = (List.replicate n.toNat v).toArray := by
    rw [listMul_foldl_if]
    congr 1
    induction n.toNat with
    | zero => rfl
    | succ k ih => simp [List.replicate_succ, ih]
  rw [e]
  refine k _ ?_
  induction n.toNat with
  | zero => exact .nil
  | succ k ih => rw [List.replicate_succ, List.replicate_succ]; exact .cons iv ih
/-- x = [d] * n, x a cell -/
theorem X.cellRepeat {x : Str} {ca : Addr} {d : D} {n : Int} {e1 e2 : Expr} {bp p pos : Pos} (h1 : Ev c σ e1 (.lst [d])) (h2 : Ev c σ e2 (.int n)) (h0 : 0 ≤ n) (hn : n ≤ 1000)
    (hp : ∀ a vs, ∃ σ', Put c.names σ x (.ucell ca) (.cown ca a vs 0 (List.replicate n.toNat d)) σ' ∧ N σ')
    (hs : swapsWith (.BinOp e1 .Mult e2 bp) (some (.Name x p)) pos.line c.env = pure false := by rfl) : X c σ (.Assign [.Name x p] (.BinOp e1 .Mult e2 bp) pos) N Rt := by
  intro s Z Q E r k1 k2
  refine wpAny_Assign_Name (wpAny_BinOp (h1 _ _ _ _ r fun h' tk' Z' v r' z' i' => h2 _ _ _ _ r' fun h'' tk'' Z'' v'' r'' z'' i'' => ?_)) hs
  refine R.repeat1 (s := { s with heap := h'', toks := tk'' }) r'' (i'.mono z'') i'' h0 hn fun vs ka => ?_
  obtain ⟨σ', hp', hn'⟩ := hp h''.objs.size vs
  have lo : c.h₀.objs.size ≤ h''.objs.size := Nat.le_trans r''.sizes.1 (Nat.le_of_lt r''.sizes.2)
  have hca := r''.addr_lt hp'.old (a := ca) rfl
  refine R.storeCell (s := { s with heap := h''.push (listOf vs.toArray 0), toks := tk'' }) (r''.push (listOf vs.toArray 0)) hp' (fun m h3 co q1 q2 q3 q4 => ⟨.inl q2, q3, ⟨co, .head _, q1⟩, ?_, ka.mono .cons⟩) (fun a ha => ?_) fun h3 Z3 r3 z3 => k1 _ _ _ _ hn' r3 ((z'.trans z'').trans z3)
  · rw [q4 _ (Nat.ne_of_gt hca)]
    exact Heap.get?_push_size _ rfl
  · cases ha
    exact ⟨r''.fresh lo, Nat.ne_of_gt r''.sizes.2, Nat.ne_of_gt hca, fun p hp q => Nat.lt_irrefl _ (q ▸ Heap.lt_size (r''.zs p hp).1), fun y t hy _ q => Nat.lt_irrefl _ (r''.addr_lt hy q)⟩
end
/-! H12 -/
section
variable {c : Cx} {σ σ' : Sig} {N : Sig → Prop} {Rt : Sig → D → Prop}

set_option maxRecDepth 100000 in
/-- an item of a list is set -/
theorem setItem_exact {s : Shared} {l : Addr} {vs : List Value} {n : Nat} {k : Int} {t : Tok} {v : Value} {Q : Unit → Shared → Prop} {E : Value → Shared → Prop} (ho : s.heap.get? l = some (listOf vs.toArray n)) (h0 : 0 ≤ k) (hfit : k < 2 ^ 63) (hn : k < vs.length)
    (h : ∀ h' n', (∀ b, b ≠ l → h'.get? b = s.heap.get? b) → h'.get? l = some (listOf (vs.set k.toNat v).toArray n') → Q () { s with heap := h' }) : wpAny c.M c.A (setItem (.ref l) (.int k t) v) Q E s := by
  have hT : s.heap.IsList l vs.toArray := ⟨_, ho, rfl, _, rfl⟩
  unfold setItem
  try with_reducible refine wpAny_holding ?_
  first | refine wpAny_bind (wpAny_pure ?_) | skip
  refine wpAny_bind (wpAny_sequenceKey hT.typeIs (by decide) ?_)
  refine wpAny_bind (wpAny_callSpecial?_slot (name := Str.ofString "__setitem__") hT.typeIs slot_list_setitem (wpAny_call_entry slot_list_setitem hT.typeIs entry_list_setitem ?_ (args_list_setitem _ _ _)))
  show wpAny _ _ (Builtin.List.listSubscript? (.int k t) >>= _) _ _ s
  refine wpAny_bind (wpAny_listSubscript_int (fitsIndex_of h0 hfit) ?_)
  clear hfit
  obtain ⟨j, rfl⟩ := Int.eq_ofNat_of_zero_le h0
  have hj : j < vs.length := by lia
  have hv : vs.toArray[j]? = some vs[j] := by simp [hj]
  have fin : Q () { s with heap := s.heap.update l (Obj.mapSeq (·.setIfInBounds j v)) } := by
    refine h _ (if (vs.toArray.setIfInBounds j v).size == vs.toArray.size then n else n + 1) (fun b hb => Heap.get?_update_ne _ _ _ _ hb) ?_
    have e : Obj.mapSeq (·.setIfInBounds j v) (listOf vs.toArray n) = listOf (vs.set j v).toArray (if (vs.toArray.setIfInBounds j v).size == vs.toArray.size then n else n + 1) := by
      simp [Obj.mapSeq]
    rw [Heap.get?_update_self _ ho (by rw [e]; rfl), e]
    rfl
  show wpAny _ _ ((seqItemAt l j >>= fun r => pure (r.map (j, ·))) >>= _) _ _ s
  refine wpAny_bind (wpAny_bind (wpAny_seqItemAt ho rfl (wpAny_pure ?_)))
  rw [hv]
  show wpAny _ _ (setSeqItemAt l j v >>= _) _ _ s
  refine wpAny_bind (wpAny_setSeqItemAt ho rfl ?_)
  first
    | exact wpAny_pure ⟨.none, rfl, wpAny_pure fin⟩
    | exact wpAny_bind (wpAny_pure (wpAny_pure ⟨.none, rfl, wpAny_pure fin⟩))

/-- a cell's list is changed in place -/
theorem R.cownUpd {Z : Led} {h h' : Heap} {x : Str} {ca a : Addr} {vs vs' : List Value} {n n' : Nat} {ds ds' : List D} (r : R c σ Z h) (hp : Put c.names σ x (.cown ca a vs n ds) (.cown ca a vs' n' ds') σ')
    (hs : ∀ b, b ≠ a → h'.get? b = h.get? b) (e : h'.get? a = some (listOf vs'.toArray n')) (k : DAll Z vs' ds') : R c σ' Z h' := by
  obtain ⟨o1, o2, o3⟩ := r.ow _ _ _ hp.old rfl
  have hb : ∀ b o, c.h₀.get? b = some o → b ≠ a := fun b o e q => by rw [q, o1.1] at e; cases e
  obtain ⟨m, F, l⟩ := r.fr
  refine ⟨r.ok, ⟨m, ⟨?_, fun b o q => (hs b (hb b o q)).trans (F.keep b o q), F.above⟩, fun y t hy => ?_⟩, fun p hp => ⟨(hs _ (o3 p hp)).trans (r.zs p hp).1, (r.zs p hp).2⟩, fun y t b hy hb' => ?_, fun y z t u b hy hz hne hb' => ?_, ?_, ?_⟩
  · obtain ⟨o, es, ep, q, r1⟩ := F.ns
    exact ⟨o, es, ep, (hs _ (Ne.symm o2)).trans q, r1⟩
  · rcases hp.split r.ok.nd hy with ⟨rfl, rfl⟩ | ⟨hne, hy⟩
    · have z := l _ _ hp.old
      exact ⟨z.1, z.2.1, z.2.2.1, e, k⟩
    · refine (l _ _ hy).ext fun b o hb' q => (hs b fun q' => ?_).trans q
      subst q'
      exact r.sep _ _ _ _ _ hy hp.old hne hb' rfl
  · rcases hp.split r.ok.nd hy with ⟨rfl, rfl⟩ | ⟨hne, hy⟩
    · cases hb'; exact ⟨o1, o2, o3⟩
    · exact r.ow _ _ _ hy hb'
  · rcases hp.split r.ok.nd hy with ⟨rfl, rfl⟩ | ⟨hney, hy⟩
    · rcases hp.split r.ok.nd hz with ⟨rfl, rfl⟩ | ⟨hnez, hz⟩
      · exact absurd rfl hne
      · exact r.sep _ _ _ _ _ hp.old hz hne hb'
    · rcases hp.split r.ok.nd hz with ⟨rfl, rfl⟩ | ⟨hnez, hz⟩
      · exact fun q => r.sep _ _ _ _ _ hy hp.old hne hb' q
      · exact r.sep _ _ _ _ _ hy hz hne hb'
  · refine r.tb1.mono .refl fun o e => (hs _ fun q => ?_).trans e
    exact o1.2 (q ▸ r.ok.av1)
  · refine r.tb2.mono .refl fun o e => (hs _ fun q => ?_).trans e
    exact o1.2 (q ▸ r.ok.av2)
theorem R.cown {Z : Led} {h : Heap} {x : Str} {ca a : Addr} {vs : List Value} {n : Nat} {ds : List D} (r : R c σ Z h) (hl : Look c.names σ x (.cown ca a vs n ds)) : h.get? a = some (listOf vs.toArray n) ∧ DAll Z vs ds :=
  let ⟨m, F, l⟩ := r.fr; ⟨(l _ _ hl).2.2.2.1, (l _ _ hl).2.2.2.2⟩
theorem R.loadC {s : Shared} {Z : Led} {x : Str} {p : Pos} {ca : Addr} {v : Value} {Q : Value → Shared → Prop} {E : Value → Shared → Prop} (r : R c σ Z s.heap) (hk : c.env.kindOf x = some .cell ∨ c.env.kindOf x = some .free) (hc : c.env.cells.lookup x = some ca) (hco : ∃ co, (ca, co) ∈ Z ∧ co.data = .cell (some v)) (h : Q v s)
    (hd : (x == ("__debug__" : Str)) = false := by decide) (hn : (x == ("__classdict__" : Str)) = false := by decide) : wpAny c.M c.A (eval (.Name x p) c.env) Q E s := by
  obtain ⟨co, h1, h2⟩ := hco
  have hv : s.heap.IsCell ca (some v) := ⟨co, (r.zs _ h1).1, h2⟩
  rcases hk with hk | hk
  · exact wpAny_Name (wpAny_loadName_cell r.ok.kind hk hc hv h) hd
  · exact wpAny_Name (wpAny_loadName_free r.ok.kind hk hc hv h hn) hd
theorem R.loadCown {s : Shared} {Z : Led} {x : Str} {p : Pos} {ca a : Addr} {vs : List Value} {n : Nat} {ds : List D} {Q : Value → Shared → Prop} {E : Value → Shared → Prop} (r : R c σ Z s.heap) (hl : Look c.names σ x (.cown ca a vs n ds)) (h : Q (.ref a) s)
    (hd : (x == ("__debug__" : Str)) = false := by decide) (hn : (x == ("__classdict__" : Str)) = false := by decide) : wpAny c.M c.A (eval (.Name x p) c.env) Q E s := by
  obtain ⟨m, F, l⟩ := r.fr
  have k := l _ _ hl
  exact r.loadC k.1 k.2.1 k.2.2.1 h hd hn
/-- x[i] = v, x a cell's list -/
theorem X.cellItem {x : Str} {ca a : Addr} {vs : List Value} {n : Nat} {ds : List D} {d : D} {i : Int} {ei ev : Expr} {p sp pos : Pos} (hv : Ev c σ ev d) (hl : Look c.names σ x (.cown ca a vs n ds)) (hi : Ev c σ ei (.int i)) (h0 : 0 ≤ i) (h1 : i < ds.length) (h2 : ds.length < 2 ^ 62)
    (hn : ∀ vs' n', ∃ σ', Put c.names σ x (.cown ca a vs n ds) (.cown ca a vs' n' (ds.set i.toNat d)) σ' ∧ N σ')
    (hs : swapsWith ev (some (.Subscript (.Name x p) ei sp)) pos.line c.env = pure false := by rfl)
    (hd : (x == ("__debug__" : Str)) = false := by decide) (hnn : (x == ("__classdict__" : Str)) = false := by decide) : X c σ (.Assign [.Subscript (.Name x p) ei sp] ev pos) N Rt := by
  intro s Z Q E r k1 k2
  refine wpAny_Assign_Subscript (hv _ _ _ _ r fun h' tk' Z' v r' z' i' => R.loadCown (s := { s with heap := h', toks := tk' }) r' hl (hi _ _ _ _ r' fun h'' tk'' Z'' v'' r'' z'' i'' => ?_) hd hnn) hs
  obtain ⟨ho, ka⟩ := r''.cown hl
  cases i''
  refine setItem_exact (s := { s with heap := h'', toks := tk'' }) ho h0 (by lia) (by rw [ka.length]; exact h1) fun h3 n3 hs3 e3 => ?_
  obtain ⟨σ', hp, hn'⟩ := hn (vs.set i.toNat v) n3
  exact k1 _ _ _ _ hn' (R.cownUpd (h := h'') r'' hp hs3 e3 (ka.set _ (i'.mono z''))) (z'.trans z'')
theorem Ev.lenC {x fn : Str} {ca a : Addr} {vs : List Value} {n : Nat} {ds : List D} {p fp pos : Pos} (hg : fn ∈ c.gnames) (hb : (fn, .builtin "len") ∈ c.G.bns) (hl : Look c.names σ x (.cown ca a vs n ds)) (h : ds.length < 2 ^ 62)
    (hd : (x == ("__debug__" : Str)) = false := by decide) (hnn : (x == ("__classdict__" : Str)) = false := by decide) (hf : (fn == ("__debug__" : Str)) = false := by decide) : Ev c σ (.Call (.Name fn fp) [.Name x p] [] pos) (.int ds.length) := by
  intro s Z Q E r k
  refine wpAny_Call_Name_kw (r.loadB hg hb (callWith_builtin1 (args_cons (R.loadCown r hl (args_nil ?_) hd hnn) rfl) rfl) hf)
  obtain ⟨ho, ka⟩ := r.cown hl
  refine len_list (s := s) (items := vs.toArray) ⟨_, ho, rfl, _, rfl⟩ (by simp [ka.length]; lia) ?_
  rw [show vs.toArray.size = ds.length from by simp [ka.length]]
  exact k _ _ _ _ r .refl (.int _ _)
theorem Ev.lenOwn {x fn : Str} {a : Addr} {vs : List Value} {n : Nat} {ds : List D} {p fp pos : Pos} (hg : fn ∈ c.gnames) (hb : (fn, .builtin "len") ∈ c.G.bns) (hl : Look c.names σ x (.own a vs n ds)) (h : ds.length < 2 ^ 62)
    (hd : (x == ("__debug__" : Str)) = false := by decide) (hf : (fn == ("__debug__" : Str)) = false := by decide) : Ev c σ (.Call (.Name fn fp) [.Name x p] [] pos) (.int ds.length) := by
  intro s Z Q E r k
  refine wpAny_Call_Name_kw (r.loadB hg hb (callWith_builtin1 (args_cons (R.loadOwn r hl (args_nil ?_) hd) rfl) rfl) hf)
  obtain ⟨ho, ka⟩ := r.own hl
  refine len_list (s := s) (items := vs.toArray) ⟨_, ho, rfl, _, rfl⟩ (by simp [ka.length]; lia) ?_
  rw [show vs.toArray.size = ds.length from by simp [ka.length]]
  exact k _ _ _ _ r .refl (.int _ _)
/-- a cell's list is frozen -/
theorem R.freezeC {Z : Led} {h : Heap} {x : Str} {ca a : Addr} {vs : List Value} {n : Nat} {ds : List D} (r : R c σ Z h) (hk : c.env.kindOf x = some .cell) (hp : Put c.names σ x (.cown ca a vs n ds) (.cell ca (.lst ds)) σ') : R c σ' ((a, listOf vs.toArray n) :: Z) h := by
  obtain ⟨o1, o2, o3⟩ := r.ow _ _ _ hp.old rfl
  obtain ⟨m, F, l⟩ := r.fr
  obtain ⟨z1, z2, ⟨co, z3, z4⟩, z5, z6⟩ := l _ _ hp.old
  refine ⟨r.ok, ⟨m, F, fun y t hy => ?_⟩, fun p hp => ?_, fun y t b hy hb' => ?_, fun y z t u b hy hz hne hb' => ?_, r.tb1.mono .cons fun _ e => e, r.tb2.mono .cons fun _ e => e⟩
  · rcases hp.split r.ok.nd hy with ⟨rfl, rfl⟩ | ⟨hne, hy⟩
    · exact ⟨hk, z2, co, _, .tail _ z3, z4, .lst (.head _) (z6.mono .cons)⟩
    · exact (l _ _ hy).mono .cons
  · rcases List.mem_cons.mp hp with rfl | hp
    · exact ⟨z5, o2, o1.2⟩
    · exact r.zs p hp
  · rcases hp.split r.ok.nd hy with ⟨rfl, rfl⟩ | ⟨hne, hy⟩
    · cases hb'
    · obtain ⟨q1, q2, q3⟩ := r.ow _ _ _ hy hb'
      refine ⟨q1, q2, fun p hq => ?_⟩
      rcases List.mem_cons.mp hq with rfl | hq
      · exact fun e => r.sep _ _ _ _ _ hy hp.old hne hb' (congrArg some e)
      · exact q3 p hq
  · rcases hp.split r.ok.nd hy with ⟨rfl, rfl⟩ | ⟨hney, hy⟩
    · cases hb'
    · rcases hp.split r.ok.nd hz with ⟨rfl, rfl⟩ | ⟨hnez, hz⟩
      · exact fun q => nomatch q
      · exact r.sep _ _ _ _ _ hy hz hne hb'
theorem XS.freezeC {st : List Stmt} {x : Str} {ca a : Addr} {vs : List Value} {n : Nat} {ds : List D} (hk : c.env.kindOf x = some .cell) (hp : Put c.names σ x (.cown ca a vs n ds) (.cell ca (.lst ds)) σ') (h : XS c σ' st N Rt) : XS c σ st N Rt := by
  intro s Z Q E r k1 k2
  exact h _ _ _ _ (r.freezeC hk hp) (fun _ _ _ _ n r z => k1 _ _ _ _ n r (Sub.cons.trans z)) fun _ _ _ _ _ _ n r z i => k2 _ _ _ _ _ _ n r (Sub.cons.trans z) i
end
/-! H13 -/
section
variable {c : Cx} {σ σ' : Sig} {N : Sig → Prop} {Rt : Sig → D → Prop}
theorem mem_app_r {Z₁ Z : Led} : Sub Z (Z₁ ++ Z) := fun p hp => List.mem_append_right _ hp
/-- the heap grows, but for one table -/
theorem R.growTab {Z Z₁ : Led} {h h' : Heap} {P : Addr} (r : R c σ Z h) (hP : c.av P) (hg : c.h₀.get? P = none) (hx : ∀ b o, b ≠ P → h.get? b = some o → h'.get? b = some o) (hz : ∀ p ∈ Z₁, h'.get? p.1 = some p.2 ∧ h.objs.size ≤ p.1)
    (t1 : TabSt (Z₁ ++ Z) h' c.G.t1) (t2 : TabSt (Z₁ ++ Z) h' c.G.t2) : R c σ (Z₁ ++ Z) h' := by
  obtain ⟨m, F, l⟩ := r.fr
  have hs := r.sizes
  have hPlt := r.ok.av _ hP
  refine ⟨r.ok, ⟨m, ⟨?_, fun b o e => hx b o (fun q => by rw [q, hg] at e; cases e) (F.keep b o e), F.above⟩, fun x sl hl => ((l x sl hl).mono mem_app_r).ext fun a o ha e => hx a o (fun q => (r.ow _ _ _ hl ha).1.2 (q ▸ hP)) e⟩, fun p hp => ?_, fun x sl a hl ha => ?_, r.sep, t1, t2⟩
  · obtain ⟨o, es, ep, q, r1⟩ := F.ns
    exact ⟨o, es, ep, hx _ _ (ne_lo hPlt hs.1) q, r1⟩
  · rcases List.mem_append.mp hp with hp | hp
    · obtain ⟨h1, h2⟩ := hz p hp
      exact ⟨h1, Nat.ne_of_gt (Nat.lt_of_lt_of_le hs.2 h2), fun q => Nat.lt_irrefl _ (Nat.lt_of_lt_of_le (Nat.lt_trans (Nat.lt_of_lt_of_le (r.ok.av _ q) hs.1) hs.2) h2)⟩
    · exact ⟨hx _ _ (fun q => (r.zs p hp).2.2 (q ▸ hP)) (r.zs p hp).1, (r.zs p hp).2⟩
  · obtain ⟨o1, o2, o3⟩ := r.ow _ _ _ hl ha
    refine ⟨o1, o2, fun p hp => ?_⟩
    rcases List.mem_append.mp hp with hp | hp
    · exact Ne.symm (ne_lo_of (r.addr_lt hl ha) (hz p hp).2)
    · exact o3 p hp
where ne_lo_of {a b n : Nat} (h1 : a < n) (h2 : n ≤ b) : a ≠ b := by lia

theorem R.tab {Z : Led} {h : Heap} {t : Tab} (r : R c σ Z h) (ht : t = c.G.t1 ∨ t = c.G.t2) : TabSt Z h t ∧ c.av t.P ∧ c.h₀.get? t.P = none ∧ CodeHd c.h₀ t.c t.P := by
  rcases ht with rfl | rfl
  · exact ⟨r.tb1, r.ok.av1, r.ok.g1, r.ok.gf.hd1⟩
  · exact ⟨r.tb2, r.ok.av2, r.ok.g2, r.ok.gf.hd2⟩
/-- a table grows, the other one stays -/
theorem R.tabs {Z Z₁ : Led} {h h' : Heap} {t : Tab} (r : R c σ Z h) (ht : t = c.G.t1 ∨ t = c.G.t2) (hx : ∀ b o, b ≠ t.P → h.get? b = some o → h'.get? b = some o) (hn : TabSt (Z₁ ++ Z) h' t) : TabSt (Z₁ ++ Z) h' c.G.t1 ∧ TabSt (Z₁ ++ Z) h' c.G.t2 := by
  rcases ht with rfl | rfl
  · exact ⟨hn, r.tb2.mono mem_app_r fun o e => hx _ _ (Ne.symm r.ok.gf.tne) e⟩
  · exact ⟨r.tb1.mono mem_app_r fun o e => hx _ _ r.ok.gf.tne e, hn⟩

/-- a def within a def -/
theorem X.nest {t : Tab} {name : Str} {params : Arguments} {body : List Stmt} {scope : Scope} {pos : Pos} {ca : Addr} {clos : List (Str × Addr)} (ht : t = c.G.t1 ∨ t = c.G.t2) (hcode : c.env.code = .ref t.c)
    (hd0 : params.defaults = []) (hk0 : params.kw_defaults = []) (ha : annTrees params none c.env = []) (hcl : closureFor scope c.env = pure clos) (hpos : pos = t.pos) (hq : qualnameIn c.env name name = t.qual)
    (hp : ∀ fa, ∃ σ', Put c.names σ name (.ucell ca) (.cfun ca fa ⟨name, params, body, scope, pos⟩ t.qual clos) σ' ∧ N σ') : X c σ (.FunctionDef name params body [] none [] scope none name pos) N Rt := by
  subst hpos
  intro s Z Q E r k1 k2
  refine nestDef_K hd0 hk0 ha ?_
  rw [hq]
  obtain ⟨hT, hav, hg0, C⟩ := r.tab ht
  obtain ⟨m, F, l⟩ := r.fr
  have hgs := r.ok.gf.top.g.keeps F.keep
  have CC := C.keeps F.keep
  have fin : ∀ (Z₁ : Led) (h' : Heap) (tk : Nat) (fa : Addr), R c σ (Z₁ ++ Z) h' → FunAt (Z₁ ++ Z) fa ⟨name, params, body, scope, t.pos⟩ t.qual clos →
      wpAny c.M c.A (storeName c.env name (.ref fa)) (fun _ s'' => Q .next s'') E { s with heap := h', toks := tk } := fun Z₁ h' tk fa r' hf => by
    obtain ⟨σ', hp', hn'⟩ := hp fa
    refine R.storeCell (s := { s with heap := h', toks := tk }) r' hp' (fun m h3 co q1 q2 q3 q4 => ⟨.inl q2, q3, ⟨co, .head _, q1⟩, hf.mono .cons⟩) (fun a ha => nomatch ha) fun h3 Z3 r3 z3 => k1 _ _ _ _ hn' r3 (mem_app_r.trans z3)
  obtain ⟨bm, ob, b1, b2, b3, b4, b5, b6⟩ := r.ok.gf.top.bmain
  have hbG : bm ≠ mainGlobals := fun q => by
    obtain ⟨o, es, ep, e, hd, _⟩ := r.ok.gf.top.g
    rw [q, e] at b3; cases b3; rw [hd] at b6; cases b6
  have hbP : bm ≠ t.P := fun q => by rw [q, hg0] at b3; cases b3
  have hgP : mainGlobals ≠ t.P := fun q => by
    obtain ⟨o, es, ep, e, hd, _⟩ := r.ok.gf.top.g
    rw [q, hg0] at e; cases e
  rcases hT with e | ⟨c', oc, vs, tk0, e, hm, hd, hv⟩
  · refine makeFunction_K (mg := c.G.mg) hcl r.ok.glob (by rw [← r.ok.glob] at hgs ⊢; exact hgs) hcode CC e trivial rfl hgP ⟨bm, ob, b1, b2, hbG, hbP, F.keep _ _ b3, b4, b5, b6⟩ fun c' ctv doc h' tk hx hge hlt hrec htb => ?_
    obtain ⟨c₂, oc, vs, tq, e2, hoc, hd, hv⟩ := hrec
    cases e2
    have hx' : ∀ b o, b ≠ t.P → s.heap.get? b = some o → (h'.push (fnMade name t.qual params body scope clos doc ((c.G.mg "__name__").getD .none) c' ctv)).get? b = some o := fun b o hb eb => Heap.get?_push_of_some _ (hx b o hb eb)
    have hP' : (h'.push (fnMade name t.qual params body scope clos doc ((c.G.mg "__name__").getD .none) c' ctv)).get? t.P = some (tabObj #[rawInt t.pos.line, rawInt t.pos.col, .ref c']) := Heap.get?_push_of_some _ htb
    have tb := r.tabs (Z₁ := [(h'.objs.size, fnMade name t.qual params body scope clos doc ((c.G.mg "__name__").getD .none) c' ctv), (c', oc)]) ht hx' (.inr ⟨c', oc, vs, tq, hP', .tail _ (.head _), hd, hv⟩)
    refine fin [(h'.objs.size, fnMade name t.qual params body scope clos doc ((c.G.mg "__name__").getD .none) c' ctv), (c', oc)] _ tk h'.objs.size (r.growTab hav hg0 hx' (fun p hp' => ?_) tb.1 tb.2) ⟨_, doc, _, c', ctv, oc, vs, tq, .head _, rfl, .tail _ (.head _), hd, hv⟩
    rcases List.mem_cons.mp hp' with rfl | hp'
    · exact ⟨Heap.get?_push_size _ rfl, Nat.le_of_lt (Nat.lt_of_le_of_lt hge hlt)⟩
    · rw [List.mem_singleton.mp hp']
      exact ⟨Heap.get?_push_of_some _ hoc, hge⟩
  · refine makeFunction_hit (mg := c.G.mg) hcl r.ok.glob hgs hcode CC e trivial (codeAmong_snoc (c := .ref c') [] trivial rfl) ⟨bm, ob, b1, b2, hbG, hbP, F.keep _ _ b3, b4, b5, b6⟩ fun ctv doc h' tk hk hsz => ?_
    have hx' : ∀ b o, s.heap.get? b = some o → (h'.push (fnMade name t.qual params body scope clos doc ((c.G.mg "__name__").getD .none) c' ctv)).get? b = some o := fun b o eb => Heap.get?_push_of_some _ (hk b o eb)
    refine fin [(h'.objs.size, fnMade name t.qual params body scope clos doc ((c.G.mg "__name__").getD .none) c' ctv)] _ tk h'.objs.size (r.growTab hav hg0 (fun b o _ eb => hx' b o eb) (fun p hp' => ?_) ((r.grow hx').tb1.mono mem_app_r fun o e => e) ((r.grow hx').tb2.mono mem_app_r fun o e => e)) ⟨_, doc, _, c', ctv, oc, vs, tk0, .head _, rfl, .tail _ hm, hd, hv⟩
    rw [List.mem_singleton.mp hp']
    exact ⟨Heap.get?_push_size _ rfl, hsz⟩
end
/-! H14 -/
section
variable {c : Cx} {σ σ' : Sig} {N : Sig → Prop} {Rt : Sig → D → Prop}

/-- what a name holds at the first line of a def with cells -/
def Init (d : DefRec) (L : Addr) (binds : List (Str × Value)) (pairs : List (Value × D)) (x : Str) : Sl → Prop
  | .no => d.scope.names.lookup x = some .local
  | .val dd => d.scope.names.lookup x = some .local ∧ ∃ v, bindL (fun y => d.scope.names.lookup y) binds (fun _ => none) x = some v ∧ (v, dd) ∈ pairs
  | .cell ca dd => d.scope.names.lookup x = some .cell ∧ (cellsFrom (L + 1) d.scope.names []).lookup x = some ca ∧ ∃ v, bindC (fun y => d.scope.names.lookup y) binds (fun _ => none) x = some v ∧ (v, dd) ∈ pairs
  | .ucell ca => d.scope.names.lookup x = some .cell ∧ (cellsFrom (L + 1) d.scope.names []).lookup x = some ca ∧ bindC (fun y => d.scope.names.lookup y) binds (fun _ => none) x = none
  | _ => False

/-- the cells that hold a value -/
def fullCells (h : Heap) : List (Str × Addr) → Led
  | [] => []
  | (n, ca) :: r => match h.get? ca with
    | some o => (match o.data with
      | .cell (some _) => (ca, o) :: fullCells h r
      | _ => fullCells h r)
    | none => fullCells h r
theorem fullCells_mem {h : Heap} {p : Addr × Obj} : ∀ {cs : List (Str × Addr)}, p ∈ fullCells h cs → (∃ n, (n, p.1) ∈ cs) ∧ h.get? p.1 = some p.2 ∧ ∃ v, p.2.data = .cell (some v)
  | [], hp => absurd hp List.not_mem_nil
  | (n, ca) :: r, hp => by
    unfold fullCells at hp
    have up : p ∈ fullCells h r → (∃ n', (n', p.1) ∈ (n, ca) :: r) ∧ h.get? p.1 = some p.2 ∧ ∃ v, p.2.data = .cell (some v) := fun hp =>
      let ⟨⟨n', h1⟩, h2, h3⟩ := fullCells_mem hp; ⟨⟨n', .tail _ h1⟩, h2, h3⟩
    split at hp
    · rename_i o ho
      split at hp
      · rename_i v hv
        rcases List.mem_cons.mp hp with rfl | hp
        · exact ⟨⟨n, .head _⟩, ho, v, hv⟩
        · exact up hp
      · exact up hp
    · exact up hp
theorem mem_fullCells {h : Heap} {n : Str} {ca : Addr} {o : Obj} {v : Value} (ho : h.get? ca = some o) (hv : o.data = .cell (some v)) : ∀ {cs : List (Str × Addr)}, (n, ca) ∈ cs → (ca, o) ∈ fullCells h cs
  | [], hp => absurd hp List.not_mem_nil
  | (n', ca') :: r, hp => by
    unfold fullCells
    rcases List.mem_cons.mp hp with e | hp
    · cases e
      rw [ho]
      simp only [hv]
      exact .head _
    · have ih := mem_fullCells ho hv hp
      split
      · split
        · exact .tail _ ih
        · exact ih
      · exact ih

/-- a def with cells is what its body is -/
theorem Fn.of_cells {G : Glo} {t : Tab} (ht : t = G.t1 ∨ t = G.t2) {pn names gnames : List Str} {k : Nat} {args : List D} {res : D} (σ₀ : Addr → Sig)
    (hb : ∀ (vs : List Value) (pm code doc : Value), vs.length = args.length → bindArgs (docDef t.d.name t.d.params t.d.body t.d.scope pm code doc) ⟨vs, []⟩ = pure (pn.zip vs))
    (hnd : names.Nodup) (hgl : (gnames.all fun x => t.d.scope.names.lookup x == some .globalImplicit) = true)
    (hkind : ∀ n, ∀ x ∈ pn, t.d.scope.names.lookup x = some .local ∨ (t.d.scope.names.lookup x = some .cell ∧ ((cellsFrom n t.d.scope.names []).lookup x).isSome = true))
    (hσ : ∀ (L : Addr) (vs : List Value) x sl, vs.length = args.length → Look names (σ₀ L) x sl → Init t.d L (pn.zip vs) (vs.zip args) x sl)
    (hco : t.d.scope.isCoroutine = false) (hgen : t.d.scope.isGenerator = false) (hk : t.d.scope.kind = .function)
    (body : ∀ (c' : Cx) (L a : Addr), c'.G = G → c'.names = names → c'.gnames = gnames → c'.room = k → c'.env = envOfC t.d.name t.d.scope L a (.ref t.c) → XS c' (σ₀ L) t.d.body (fun _ => False) (fun _ r => r = res)) : Fn G t.d k args res := by
  intro c σ s Z vs a Q E hG hkr r i ha q
  subst hG
  have FA : FnAtC c.G.mg c.h₀ t := by
    rcases ht with rfl | rfl
    · exact r.ok.gf.ft1
    · exact r.ok.gf.ft2
  obtain ⟨a', o, pm, doc, h1, h2, h3, h4⟩ := FA
  have e1 : a' = a := by rw [h1] at ha; cases ha; rfl
  subst e1
  have hvl : vs.length = args.length := i.length
  obtain ⟨m, F, l⟩ := r.fr
  refine wpAny_call (call_cells (by have := r.ok.dp; lia) (F.keep _ _ h2) h3 (r.ok.gf.top.nolimit.keeps F.keep) (h4.keeps F.keep) (hb vs pm _ doc hvl) (fun x hx => hkind _ _ (List.of_mem_zip hx).1) (fun h₁ tk F₁ X => ?_) hco hgen hk)
  have hc : (c.sub s.heap Z (envOfC t.d.name t.d.scope s.heap.objs.size a' (.ref t.c)) [] names gnames k).OK := r.subOK .nil hkr hk rfl rfl hnd fun x hx => by
    show t.d.scope.names.lookup x = some .globalImplicit
    simpa using List.all_eq_true.mp hgl x hx
  have hin := fun x sl => hσ s.heap.objs.size vs x sl hvl
  have pair : ∀ v dd, (v, dd) ∈ vs.zip args → DIn Z v dd := fun v dd hm => by
    obtain ⟨j, hj⟩ := List.getElem?_of_mem hm
    obtain ⟨a1, a2⟩ := List.getElem?_zip_eq_some.mp hj
    obtain ⟨w, hw, iw⟩ := i.get a2
    have e5 : some v = some w := a1.symm.trans hw
    have e6 : v = w := Option.some.inj e5
    exact e6 ▸ iw
  have rr : R (c.sub s.heap Z (envOfC t.d.name t.d.scope s.heap.objs.size a' (.ref t.c)) [] names gnames k) (σ₀ s.heap.objs.size) (fullCells h₁ (cellsFrom (s.heap.objs.size + 1) t.d.scope.names []) ++ Z) h₁ := by
    refine r.enter hc rfl F₁.ns F₁.keep (fun p hp => ?_) (fun b hb => absurd hb List.not_mem_nil) (fun x sl hl => ?_) (fun x sl b hl hb => .inr ?_) fun x y u w b hx hy hne hu => ?_
    · obtain ⟨⟨n, h1⟩, h2, h3⟩ := fullCells_mem hp
      exact ⟨h2, X.above _ _ h1⟩
    · have z := hin x sl hl
      cases sl with
      | no => exact z
      | val dd => obtain ⟨z1, v, z2, z3⟩ := z; exact ⟨z1, v, z2, (pair _ _ z3).mono mem_app_r⟩
      | cell ca dd =>
        obtain ⟨z1, z2, v, z3, z4⟩ := z
        obtain ⟨o, ho, hd⟩ := X.cell _ _ z2
        have hd' : o.data = .cell (some v) := by rw [hd]; exact congrArg _ z3
        exact ⟨z1, z2, o, v, List.mem_append_left _ (mem_fullCells ho hd' (mem_of_lookup z2)), hd', (pair _ _ z4).mono mem_app_r⟩
      | ucell ca =>
        obtain ⟨z1, z2, z3⟩ := z
        obtain ⟨o, ho, hd⟩ := X.cell _ _ z2
        exact ⟨z1, z2, o, ho, by rw [hd]; exact congrArg _ z3⟩
      | _ => exact z.elim
    · have z := hin x sl hl
      cases sl with
      | ucell ca =>
        cases hb
        obtain ⟨z1, z2, z3⟩ := z
        obtain ⟨o5, ho5, hd5⟩ := X.cell _ _ z2
        refine ⟨X.above _ _ (mem_of_lookup z2), fun p hp e => ?_⟩
        obtain ⟨_, g2, v, g3⟩ := fullCells_mem hp
        have g4 : o5 = p.2 := Option.some.inj (ho5.symm.trans (e ▸ g2))
        have hd' : o5.data = .cell none := by rw [hd5]; exact congrArg _ z3
        rw [← g4, hd'] at g3; cases g3
      | own => exact z.elim
      | idict => exact z.elim
      | cown => exact z.elim
      | _ => cases hb
    · have z1 := hin _ _ hx
      have z2 := hin _ _ hy
      intro hw
      cases u with
      | ucell ca =>
        cases hu
        cases w with
        | ucell cb =>
          cases hw
          exact hne (name_of_addr X.apart (mem_of_lookup z1.2.1) (mem_of_lookup z2.2.1))
        | own => exact z2.elim
        | idict => exact z2.elim
        | cown => exact z2.elim
        | _ => cases hw
      | own => exact z1.elim
      | idict => exact z1.elim
      | cown => exact z1.elim
      | _ => cases hu
  have B := body (c.sub s.heap Z (envOfC t.d.name t.d.scope s.heap.objs.size a' (.ref t.c)) [] names gnames k) s.heap.objs.size a' rfl rfl rfl rfl rfl
  exact B { s with heap := h₁, toks := tk } _ _ _ rr (fun _ _ _ _ hf _ _ => hf.elim) fun σ' h' tk' Z' v d' hd r' z i' => by
    subst hd
    exact q _ _ _ _ (r.back rfl r' (mem_app_r.trans z)) (mem_app_r.trans z) i'

/-- what a free name holds -/
def FreeOK (Z : Led) (h : Heap) (clos : List (Str × Addr)) (x : Str) : Sl → Prop
  | .free ca d => clos.lookup x = some ca ∧ CellAt Z ca d
  | .cown ca a vs n ds => clos.lookup x = some ca ∧ (∃ co, (ca, co) ∈ Z ∧ co.data = .cell (some (.ref a))) ∧ h.get? a = some (listOf vs.toArray n) ∧ DAll Z vs ds
  | .cfun ca fa d qual cl => clos.lookup x = some ca ∧ (∃ co, (ca, co) ∈ Z ∧ co.data = .cell (some (.ref fa))) ∧ FunAt Z fa d qual cl
  | _ => False
theorem Look.app {ns ms : List Str} {σ τ : Sig} {x : Str} {sl : Sl} (hl : ns.length = σ.length) (h : Look (ns ++ ms) (σ ++ τ) x sl) : Look ns σ x sl ∨ Look ms τ x sl := by
  induction ns generalizing σ with
  | nil =>
    cases σ with
    | nil => exact .inr h
    | cons _ _ => cases hl
  | cons y ns ih =>
    cases σ with
    | nil => cases hl
    | cons o σ =>
      cases h with
      | head => exact .inl .head
      | tail h =>
        rcases ih (by simpa using hl) h with h | h
        · exact .inl (.tail h)
        · exact .inr h
/-- a call of an inner def -/
theorem Clo.call {s : Shared} {Z : Led} {fa : Addr} {d : DefRec} {qual : Str} {clos : List (Str × Addr)} {vs : List Value} {args : List D} {k : Nat} {hid : List Addr} {pn rest fns gnames : List Str} {fσ : Sig} {Nn : Sig → Prop} {Q : Value → Shared → Prop} {E : Value → Shared → Prop}
    (r : R c σ Z s.heap) (FA : FunAt Z fa d qual clos) (i : DAll Z vs args) (hk : k < c.room) (H : Hid c hid) (hzh : ∀ b ∈ hid, ∀ p ∈ Z, p.1 ≠ b) (hhs : ∀ b ∈ hid, b < s.heap.objs.size)
    (hb : ∀ (vs : List Value) (pm doc cd ctv : Value), vs.length = args.length → bindArgs (fnX d.name qual d.params d.body d.scope clos .none .none doc pm none cd ctv) ⟨vs, []⟩ = pure (pn.zip vs))
    (hlen : pn.length = args.length) (hnd : (pn ++ rest ++ fns).Nodup) (hloc : ((pn ++ rest).all fun x => d.scope.names.lookup x == some .local) = true) (hfree : (fns.all fun x => d.scope.names.lookup x == some .free) = true)
    (hgl : (gnames.all fun x => d.scope.names.lookup x == some .globalImplicit) = true) (hcell : (d.scope.names.all fun x => x.2 != .cell) = true) (hco : d.scope.isCoroutine = false) (hgen : d.scope.isGenerator = false) (hkd : d.scope.kind = .function)
    (hfs : ∀ x sl, Look fns fσ x sl → FreeOK Z s.heap clos x sl) (hfa : ∀ x sl a, Look fns fσ x sl → sl.addr = some a → a ∈ hid)
    (hfsep : ∀ x y s t a, Look fns fσ x s → Look fns fσ y t → x ≠ y → s.addr = some a → t.addr ≠ some a)
    (body : ∀ c', c'.G = c.G → c'.names = pn ++ rest ++ fns → c'.gnames = gnames → c'.room = k → XS c' ((args.map Sl.val ++ rest.map fun _ => Sl.no) ++ fσ) d.body Nn Rt)
    (q1 : ∀ cd σ₁ h' tk' Z', Nn σ₁ → R (c.sub s.heap Z (envX qual d.scope s.heap.objs.size fa cd clos) hid (pn ++ rest ++ fns) gnames k) σ₁ Z' h' → Sub Z Z' → Q .none { s with heap := h', toks := tk' })
    (q2 : ∀ cd σ₁ h' tk' Z' v dd, Rt σ₁ dd → R (c.sub s.heap Z (envX qual d.scope s.heap.objs.size fa cd clos) hid (pn ++ rest ++ fns) gnames k) σ₁ Z' h' → Sub Z Z' → DIn Z' v dd → Q v { s with heap := h', toks := tk' }) :
    wpAny c.M c.A (PySem.call (.ref fa) vs) Q E s := by
  obtain ⟨o, doc, pm, c', ctv, oc, cvs, tk, f1, f2, f3, f4, f5⟩ := FA
  have hvl : vs.length = args.length := i.length
  have hloc' : ∀ x ∈ pn ++ rest, d.scope.names.lookup x = some .local := fun x hx => by simpa using List.all_eq_true.mp hloc x hx
  obtain ⟨m, F, l⟩ := r.fr
  refine wpAny_call (codeAny_call_def (fd := fnX d.name qual d.params d.body d.scope clos .none .none doc pm none (.ref c') ctv) (by have := r.ok.dp; lia) (r.zs _ f1).1 f2 (r.ok.gf.top.nolimit.keeps F.keep) ⟨c', oc, cvs, tk, rfl, (r.zs _ f3).1, f4, f5⟩ rfl (.of_eq (hb vs pm doc _ ctv hvl)) (fun x hx => by simpa using List.all_eq_true.mp hcell x hx)
    (fun x hx => hloc' x.1 (List.mem_append.mpr (.inl (List.of_mem_zip hx).1))) (fun h₁ hns hk₁ => ?_) hco hgen hkd)
  have hc : (c.sub s.heap Z (envX qual d.scope s.heap.objs.size fa (.ref c') clos) hid (pn ++ rest ++ fns) gnames k).OK := r.subOK H hk hkd rfl rfl hnd fun x hx => by
    show d.scope.names.lookup x = some .globalImplicit
    simpa using List.all_eq_true.mp hgl x hx
  have hll : (pn ++ rest).length = (args.map Sl.val ++ rest.map fun _ => Sl.no).length := by simp [hlen]
  have noaddr : ∀ x sl b, Look (pn ++ rest) (args.map Sl.val ++ rest.map fun _ => Sl.no) x sl → sl.addr ≠ some b := by
    intro x sl b hl e
    rcases Look.args hlen hl with ⟨i', d', a1, a2, rfl⟩ | hl'
    · cases e
    · rw [Look.nos hl'] at e; cases e
  have rr : R (c.sub s.heap Z (envX qual d.scope s.heap.objs.size fa (.ref c') clos) hid (pn ++ rest ++ fns) gnames k) ((args.map Sl.val ++ rest.map fun _ => Sl.no) ++ fσ) ([] ++ Z) h₁ := by
    refine r.enter hc rfl hns hk₁ (fun p hp => absurd hp List.not_mem_nil) hzh (fun x sl hl => ?_) (fun x sl a hl ha => ?_) fun x y s1 t b hl hl2 hne e => ?_
    · rcases Look.app hll hl with hl | hl
      · have hx := hloc' x hl.mem
        rcases Look.args hlen hl with ⟨i', d', a1, a2, rfl⟩ | hl'
        · obtain ⟨v, hv, iv⟩ := i.get a2
          exact ⟨hx, v, lookup_binds (List.nodup_append.mp (List.nodup_append.mp hnd).1).1 a1 hv, iv⟩
        · rw [Look.nos hl']
          exact hx
      · have hx : d.scope.names.lookup x = some .free := by simpa using List.all_eq_true.mp hfree x hl.mem
        have z := hfs x sl hl
        cases sl with
        | free ca d => exact ⟨hx, z.1, z.2⟩
        | cown ca a vs n ds => exact ⟨.inr hx, z.1, z.2.1, hk₁ _ _ z.2.2.1, z.2.2.2⟩
        | cfun ca fa d q cl => exact ⟨.inr hx, z.1, z.2⟩
        | _ => exact z.elim
    · rcases Look.app hll hl with hl | hl
      · exact absurd ha (noaddr x sl a hl)
      · have := hfa x sl a hl ha
        exact .inl ⟨this, hhs a this⟩
    · rcases Look.app hll hl with hl | hl
      · exact absurd e (noaddr _ _ _ hl)
      · rcases Look.app hll hl2 with hl2 | hl2
        · exact noaddr _ _ _ hl2
        · exact hfsep _ _ _ _ _ hl hl2 hne e
  exact body (c.sub s.heap Z (envX qual d.scope s.heap.objs.size fa (.ref c') clos) hid (pn ++ rest ++ fns) gnames k) rfl rfl rfl rfl { s with heap := h₁, toks := _ } _ _ _ rr (fun σ₁ h' tk' Z' hn r' z => q1 _ _ _ _ _ hn r' z) fun σ' h' tk' Z' v d' hd r' z i' => q2 _ _ _ _ _ _ _ hd r' z i'
end
/-! H15 -/
section
variable {c : Cx} {σ σ' : Sig} {N : Sig → Prop} {Rt : Sig → D → Prop}
/-- a list's truth -/
theorem Tst.lst {e : Expr} {ds : List D} (h : Ev c σ e (.lst ds)) (hz : ds.length < 2 ^ 62) (he : ∀ whole, isTrue e c.env whole = (do let v ← whole; standAt e.pos; holding [v] (truthy v)) := by intro _; rfl) : Tst c σ e (!ds.isEmpty) := by
  intro s Z Q E r k
  refine isTrue_plain (h _ _ _ _ r fun h' tk' Z' v r' z' i' => ?_) (he _)
  obtain ⟨a, vs, rfl, l, ka⟩ := i'.isList r'
  refine wpAny_truthy_list (s := { s with heap := h', toks := tk' }) l (by simp [ka.length]; lia) ?_
  have e1 : (!vs.toArray.isEmpty) = !ds.isEmpty := by
    cases ka with
    | nil => rfl
    | cons _ _ => simp
  rw [e1]
  exact k _ _ _ r' z'
theorem R.cfun {Z : Led} {h : Heap} {x : Str} {ca fa : Addr} {d : DefRec} {qual : Str} {clos : List (Str × Addr)} (r : R c σ Z h) (hl : Look c.names σ x (.cfun ca fa d qual clos)) : FunAt Z fa d qual clos ∧ PySem.W.FnAt fa h := by
  obtain ⟨m, F, l⟩ := r.fr
  have k := (l _ _ hl).2.2.2
  refine ⟨k, ?_⟩
  obtain ⟨o, doc, pm, c', ctv, oc, vs, tk, h1, h2, _⟩ := k
  obtain ⟨oc, od, dt, sl⟩ := o
  simp only at h2
  subst h2
  exact ⟨oc, od, _, sl, (r.zs _ h1).1⟩
theorem R.callClo {s : Shared} {Z : Led} {x : Str} {ca fa : Addr} {d : DefRec} {qual : Str} {clos : List (Str × Addr)} {e : Expr} {es : List Expr} {p pos : Pos} {ds : List D} {Q : Value → Shared → Prop} {E : Value → Shared → Prop} (r : R c σ Z s.heap) (hl : Look c.names σ x (.cfun ca fa d qual clos)) (h : EvL c σ pos (e :: es) ds)
    (q : ∀ h' tk' Z' vs, R c σ Z' h' → Sub Z Z' → DAll Z' vs ds → wpAny c.M c.A (call (.ref fa) vs) Q E { s with heap := h', toks := tk' })
    (he : ∀ env, starEach (e :: es) env = (false, eval e env) :: starEach es env) (hp : ∀ env, (backTo pos (starEach es env)).any (·.1) = false)
    (hd : (x == ("__debug__" : Str)) = false) (hnn : (x == ("__classdict__" : Str)) = false) : wpAny c.M c.A (eval (.Call (.Name x p) (e :: es) [] pos) c.env) Q E s := by
  obtain ⟨m, F, l⟩ := r.fr
  have k := l _ _ hl
  refine wpAny_Call_Name_kw (r.loadC k.1 k.2.1 k.2.2.1 (callWith_F (r.cfun hl).2 (h _ _ _ _ r fun h' tk' Z' vs r' z' i' => ⟨(r'.cfun hl).2, ?_⟩) (he _) (hp _)) hd hnn)
  exact q _ _ _ _ r' z' i'
theorem Put.det {ns : List Str} {σ σ₁ σ₂ : Sig} {x : Str} {o s : Sl} (h : Put ns σ x o s σ₁) (k : Put ns σ x o s σ₂) (hn : ns.Nodup) : σ₁ = σ₂ := by
  induction h generalizing σ₂ with
  | head =>
    cases k with
    | head => rfl
    | tail k => exact absurd k.mem (List.nodup_cons.mp hn).1
  | tail h ih =>
    cases k with
    | head => exact absurd h.mem (List.nodup_cons.mp hn).1
    | tail k => rw [ih k (List.nodup_cons.mp hn).2]
theorem Look.put {ns : List Str} {σ : Sig} {x : Str} {o : Sl} (h : Look ns σ x o) (s : Sl) : ∃ σ', Put ns σ x o s σ' := by
  induction h with
  | head => exact ⟨_, .head⟩
  | tail _ ih => exact ⟨_, .tail ih.choose_spec⟩
/-- a call of an inner def that changes a cell's list -/
theorem X.callClo {x y : Str} {ca fa cb a : Addr} {vl : List Value} {nl : Nat} {dl dl' : List D} {d : DefRec} {qual : Str} {clos : List (Str × Addr)} {e : Expr} {es : List Expr} {p pos epos : Pos} {ds : List D} (hl : Look c.names σ x (.cfun ca fa d qual clos)) (h : EvL c σ pos (e :: es) ds)
    (q : ∀ (s : Shared) (Z : Led) (vs : List Value) (Q : Value → Shared → Prop) (E : Value → Shared → Prop), R c σ Z s.heap → DAll Z vs ds →
      (∀ h' tk' Z' vl' nl' σ', Put c.names σ y (.cown cb a vl nl dl) (.cown cb a vl' nl' dl') σ' → R c σ' Z' h' → Sub Z Z' → Q .none { s with heap := h', toks := tk' }) → wpAny c.M c.A (call (.ref fa) vs) Q E s)
    (hn : ∀ vl' nl', ∃ σ', Put c.names σ y (.cown cb a vl nl dl) (.cown cb a vl' nl' dl') σ' ∧ N σ')
    (he : ∀ env, starEach (e :: es) env = (false, eval e env) :: starEach es env := by intro _; rfl) (hp : ∀ env, (backTo pos (starEach es env)).any (·.1) = false := by intro _; rfl)
    (hs : swapsWith (.Call (.Name x p) (e :: es) [] pos) none epos.line c.env = pure false := by rfl)
    (hd : (x == ("__debug__" : Str)) = false := by decide) (hnn : (x == ("__classdict__" : Str)) = false := by decide) : X c σ (.Expr (.Call (.Name x p) (e :: es) [] pos) epos) N Rt := by
  intro s Z Q E r k1 k2
  refine wpAny_Expr_any (r.callClo hl h (fun h' tk' Z' vs r' z' i' => ?_) he hp hd hnn) r.inter hs
  refine q { s with heap := h', toks := tk' } _ _ _ _ r' i' fun h'' tk'' Z'' vl' nl' σ' hp' r'' z'' => ?_
  obtain ⟨σ₂, hp2, hn2⟩ := hn vl' nl'
  rw [Put.det hp2 hp' r.ok.nd] at hn2
  exact k1 _ _ _ _ hn2 r'' (z'.trans z'')
/-- a call of an inner def that gives a value back -/
theorem Ev.callClo {x : Str} {ca fa : Addr} {d : DefRec} {qual : Str} {clos : List (Str × Addr)} {e : Expr} {es : List Expr} {p pos : Pos} {ds : List D} {res : D} (hl : Look c.names σ x (.cfun ca fa d qual clos)) (h : EvL c σ pos (e :: es) ds)
    (q : ∀ (s : Shared) (Z : Led) (vs : List Value) (Q : Value → Shared → Prop) (E : Value → Shared → Prop), R c σ Z s.heap → DAll Z vs ds →
      (∀ h' tk' Z' v, R c σ Z' h' → Sub Z Z' → DIn Z' v res → Q v { s with heap := h', toks := tk' }) → wpAny c.M c.A (call (.ref fa) vs) Q E s)
    (he : ∀ env, starEach (e :: es) env = (false, eval e env) :: starEach es env := by intro _; rfl) (hp : ∀ env, (backTo pos (starEach es env)).any (·.1) = false := by intro _; rfl)
    (hd : (x == ("__debug__" : Str)) = false := by decide) (hnn : (x == ("__classdict__" : Str)) = false := by decide) : Ev c σ (.Call (.Name x p) (e :: es) [] pos) res := by
  intro s Z Q E r k
  refine r.callClo hl h (fun h' tk' Z' vs r' z' i' => ?_) he hp hd hnn
  exact q { s with heap := h', toks := tk' } _ _ _ _ r' i' fun h'' tk'' Z'' v r'' z'' i'' => k _ _ _ _ r'' (z'.trans z'') i''
end
/-! H16 -/
section
variable {c : Cx} {σ σ' : Sig} {N : Sig → Prop} {Rt : Sig → D → Prop}
/-- a text's part -/
def cut (x : Str) (i j : Int) : Str := if (((none : Option (Int × Tok)).map (·.1)).getD 1 == 1 && (slicePicked x (some (i, 0)) (some (j, 0)) none).length == x.length) = true then x else ⟨((slicePicked x (some (i, 0)) (some (j, 0)) none).filterMap (x.cps[·]?)).toArray⟩
theorem sliceMade_text {x : Str} {t : Tok} {i j : Int} {ti tj : Tok} {Z : Led} {s : Shared} {Q : Value → Shared → Prop} (hz : (cut x i j).length ≤ sizeLine) (h : ∀ v tk, DIn Z v (.str (cut x i j)) → Q v { s with toks := tk }) : (sliceMade x t (some (i, ti)) (some (j, tj)) none).post Q s :=
  PySem.post_val_or_str ⟨hz, fun t' k => h _ k (.str _ _)⟩
theorem Ev.slice {ve lo hi : Expr} {p pos : Pos} {x : Str} {i j : Int} (hv : Ev c σ ve (.str x)) (hl : Ev c σ lo (.int i)) (hu : Ev c σ hi (.int j)) (hz : (cut x i j).length ≤ sizeLine) (ht : ∀ o r, letTemporaryGo ve o r = pure () := by intro _ _; rfl) : Ev c σ (.Subscript ve (.Slice (some lo) (some hi) none p) pos) (.str (cut x i j)) := by
  intro s Z Q E r k
  refine wpAny_Subscript_str_slice (hv _ _ _ _ r fun h' tk' Z' v r' z' i' => ?_) ht
  rw [evalPart_some]
  refine hl _ _ _ _ r' fun h2 tk2 Z2 v2 r2 z2 i2 => ?_
  rw [evalPart_some]
  refine hu _ _ _ _ r2 fun h3 tk3 Z3 v3 r3 z3 i3 => ?_
  cases i'
  cases i2
  cases i3
  refine ⟨_, _, some (_, _), some (_, _), rfl, rfl, rfl, sliceMade_text (Z := Z3) hz fun v tk i4 => ?_⟩
  exact k _ _ _ _ (r3.push _) ((z'.trans z2).trans z3) i4
theorem R.loadTab {s : Shared} {Z : Led} {x : Str} {p : Pos} {Q : Value → Shared → Prop} {E : Value → Shared → Prop} (r : R c σ Z s.heap) (hg : x ∈ c.gnames) (hx : c.G.dnm = x) (h : ∀ a, c.G.mg c.G.dnm = some (.ref a) → Q (.ref a) s)
    (hd : (x == ("__debug__" : Str)) = false) : wpAny c.M c.A (eval (.Name x p) c.env) Q E s := by
  subst hx
  obtain ⟨a, h1, h2⟩ := r.ok.gf.dct
  exact Name_function_global r.ok.kind (r.ok.gn _ hg) (loadGlobal_global r.ns h1 (h a h1)) hd
theorem R.tabAt {Z : Led} {h : Heap} {a : Addr} (r : R c σ Z h) (ha : c.G.mg c.G.dnm = some (.ref a)) : StrTab c.G.prog c.G.w h a c.G.tab := by
  obtain ⟨b, h1, h2⟩ := r.ok.gf.dct
  obtain ⟨m, F, _⟩ := r.fr
  rw [h1] at ha
  cases ha
  exact h2.keep F.keep
/-- e not in the table -/
theorem Tst.notInTab {e : Expr} {x y : Str} {p pos : Pos} (h : Ev c σ e (.str y)) (hg : x ∈ c.gnames) (hx : c.G.dnm = x) (hd : (x == ("__debug__" : Str)) = false := by decide) : Tst c σ (.Compare e [.NotIn] [.Name x p] pos) (!(Spec.lookup (.str y) c.G.tab).isSome) := by
  intro s Z Q E r k
  refine wpAny_isTrue_Compare1 (h _ _ _ _ r fun h' tk' Z' v r' z' i' => R.loadTab (s := { s with heap := h', toks := tk' }) r' hg hx (fun a T => ?_) hd) rfl
  cases i'
  exact notin_strTab (r'.tabAt T) (wpAny_truthy_bool (k _ _ _ r' z'))
/-- the table's item -/
theorem Ev.itemTab {e : Expr} {x y : Str} {p pos : Pos} {n : Int} (h : Ev c σ e (.str y)) (hg : x ∈ c.gnames) (hx : c.G.dnm = x) (hl : Spec.lookup (.str y) c.G.tab = some (.int n)) (hd : (x == ("__debug__" : Str)) = false := by decide)
    (hs : ∀ o i, subscripted e false o i = operate [o, i] (getItem o i) := by intro _ _; rfl) : Ev c σ (.Subscript (.Name x p) e pos) (.int n) := by
  intro s Z Q E r k
  refine Subscript_ (R.loadTab r hg hx (fun a T => h _ _ _ _ r fun h' tk' Z' v r' z' i' => ?_) hd)
  cases i'
  refine item_strTab (s := { s with heap := h', toks := tk' }) (r'.tabAt T) hl (fun v hv => ?_) (hs _ _)
  have hv := hv s.heap
  cases hv
  exact k _ _ _ _ r' z' (.int _ _)
end
/-! H17 -/
section
variable {c : Cx} {σ σ' : Sig} {N : Sig → Prop} {Rt : Sig → D → Prop}
/-- x[i] op= e, x an own list -/
theorem X.augOwn {x : Str} {idx e : Expr} {op : Operator} {p tp pos : Pos} {a : Addr} {vs : List Value} {n : Nat} {ds : List D} {i : Int} {d0 d1 d : D} (hl : Look c.names σ x (.own a vs n ds)) (hi : Ev c σ idx (.int i)) (h0 : 0 ≤ i) (h1 : i < ds.length) (h2 : ds.length < 2 ^ 62)
    (hd : ds[i.toNat]? = some d0) (he : Ev c σ e d1) (ho : Op2 c (inplaceOp op) d0 d1 d) (hn : ∀ vs' n', ∃ σ', Put c.names σ x (.own a vs n ds) (.own a vs' n' (ds.set i.toNat d)) σ' ∧ N σ')
    (hs : ∀ ov iv new, augStore idx ov iv new = (do holding [new, ov, iv] (setItem ov iv new); release [new, ov, iv] []; pure .next) := by intros; rfl)
    (hb : (x == ("__debug__" : Str)) = false := by decide) : X c σ (.AugAssign (.Subscript (.Name x p) idx tp) op e pos) N Rt := by
  intro s Z Q E r k1 k2
  refine wpAny_AugAssign_SubscriptAny (r.loadOwn hl (hi _ _ _ _ r fun h' tk' Z' v r' z' i' => ?_) hb) hs
  cases i'
  obtain ⟨hoo, ka⟩ := r'.own hl
  have l : h'.IsList a vs.toArray := ⟨_, hoo, rfl, _, rfl⟩
  obtain ⟨v0, hv0, iv0⟩ := ka.get hd
  refine wpAny_getItem_list (s := { s with heap := h', toks := tk' }) l h0 (by lia) (by simpa using hv0) (he _ _ _ _ r' fun h2' tk2 Z2 v2 r2 z2 i2 => ho _ _ _ _ _ _ _ r2 (iv0.mono z2) i2 fun h3 tk3 Z3 v3 r3 z3 i3 => ?_)
  obtain ⟨hoo3, ka3⟩ := r3.own hl
  refine setItem_exact (c := c) (s := { s with heap := h3, toks := tk3 }) hoo3 h0 (by lia) (by rw [ka3.length]; exact h1) fun h4 n4 hs4 e4 => ?_
  obtain ⟨σ', hp, hn'⟩ := hn (vs.set i.toNat v3) n4
  exact k1 _ _ _ _ hn' (R.ownUpd (h := h3) r3 hp hs4 e4 (ka3.set _ i3)) ((z'.trans z2).trans z3)
/-- a, b, d = (made triple), the first one a cell -/
theorem X.assign3c {x y z : Str} {px py pz tp pos : Pos} {kk : Nat} {e : Expr} {d1 d2 d3 : D} {ca : Addr} {o2 o3 : Sl} {σ₁ σ₂ : Sig} (h : Ev c σ e (.tup [d1, d2, d3])) (h1 : Put c.names σ x (.ucell ca) (.cell ca d1) σ₁) (h2 : Put c.names σ₁ y o2 (.val d2) σ₂) (h3 : Put c.names σ₂ z o3 (.val d3) σ') (ho2 : o2.local = true) (ho3 : o3.local = true) (hn : N σ')
    (hw : swappedStores [.Tuple [.Name x px, .Name y py, .Name z pz] kk tp] e c.env = pure none)
    (hs : swapsWithSole [.Tuple [.Name x px, .Name y py, .Name z pz] kk tp] e pos.line c.env = pure false := by rfl) :
    X c σ (.Assign [.Tuple [.Name x px, .Name y py, .Name z pz] kk tp] e pos) N Rt := by
  intro s Z Q E r k1 k2
  refine Assign_Tuple (h _ _ _ _ r fun h' tk' Z' v r' z' i' => ?_) hs hw
  obtain ⟨a, vs, rfl, l, ka⟩ := i'.isTup r'
  obtain ⟨v1, v2, v3, rfl, i1, i2, i3⟩ := ka.three_inv
  refine assign_Tuple_tuple r'.ok.hh (l : IsTup _ _ _) rfl rfl fun h2' he => ?_
  have r2 : R c σ Z' h2' := r'.grow fun b o e => he b o (Nat.ne_of_lt (Heap.lt_size e)) e
  refine inOrder3 (f := PySem.assign (.Name x px) c.env) (g := PySem.assign (.Name y py) c.env) (k := PySem.assign (.Name z pz) c.env) (wpAny_assign_Name (r2.storeCellVal (s := { s with heap := h2', toks := tk' }) h1 i1 fun h3' Z3 r3 z3 => ?_))
  refine wpAny_assign_Name (R.storeVal (s := { s with heap := h3', toks := tk' }) r3 h2 ho2 (i2.mono z3) fun h4 tk4 r4 => ?_)
  exact wpAny_assign_Name (R.storeVal (s := { s with heap := h4, toks := tk4 }) r4 h3 ho3 (i3.mono z3) fun h5 tk5 r5 => k1 _ _ _ _ hn r5 (z'.trans z3))

/-- int lists in an own list -/
theorem DIn.reads {Z : Led} {h : Heap} (hz : ∀ p ∈ Z, h.get? p.1 = some p.2) {v : Value} {ns : List Int} (i : DIn Z v (.lst (intsD ns))) : ∃ as, Reads h v (.list (ns.map .int)) as := by
  cases i with
  | lst hm ka =>
  rename_i a vs n
  have hi : ∀ {vs : List Value} {ns : List Int}, DAll Z vs (intsD ns) → ReadsAll h vs (ns.map .int) [] := by
    intro vs ns k
    induction ns generalizing vs with
    | nil => cases k; exact .nil
    | cons m ns ih =>
      cases k with
      | cons hv hr =>
        cases hv
        exact ReadsAll.cons (as := []) (bs := []) (.int _ _) (ih hr)
  exact ⟨_, Reads.list (hz _ hm) rfl rfl (hi ka)⟩
def intsLs (xss : List (List Int)) : List D := xss.map fun l => .lst (intsD l)
theorem DAll.readsAll {Z : Led} {h : Heap} (hz : ∀ p ∈ Z, h.get? p.1 = some p.2) : ∀ {vs : List Value} {xss : List (List Int)}, DAll Z vs (intsLs xss) → ∃ as, ReadsAll h vs (xss.map fun l => .list (l.map .int)) as
  | [], [], _ => ⟨_, .nil⟩
  | _ :: _, x :: xss, .cons i r => by
    obtain ⟨as, h1⟩ := DIn.reads hz i
    obtain ⟨bs, h2⟩ := DAll.readsAll hz r
    exact ⟨_, .cons h1 h2⟩
theorem eqv_intLs (xss : List (List Int)) (ns : List Int) : ((xss.map fun l => PyData.list (l.map .int)).any fun y => PyData.eqv y (.list (ns.map .int))) = decide (ns ∈ xss) := by
  induction xss with
  | nil => rfl
  | cons x xss ih =>
    have e : PyData.eqv (.list (x.map .int)) (.list (ns.map .int)) = decide (x = ns) := ked_eqvAll x ns
    rw [List.map_cons, List.any_cons, ih, e]
    by_cases h : x = ns
    · subst h; simp
    · simp [h, Ne.symm h]
theorem canLay_intLs (xss : List (List Int)) : PyData.canLayAll0 (xss.map fun l => PyData.list (l.map .int)) = true := by
  induction xss with
  | nil => rfl
  | cons x xss ih =>
    show (PyData.canLay0 (.list (x.map .int)) && _) = true
    rw [ih, Bool.and_true]
    exact ke_canLayAll0 x
/-- e in x, x an own list of lists of whole numbers -/
theorem Tst.inOwn {e : Expr} {x : Str} {p pos : Pos} {a : Addr} {vs : List Value} {n : Nat} {xss : List (List Int)} {ns : List Int} (h : Ev c σ e (.lst (intsD ns))) (hl : Look c.names σ x (.own a vs n (intsLs xss)))
    (hb : (x == ("__debug__" : Str)) = false := by decide) : Tst c σ (.Compare e [.In] [.Name x p] pos) (decide (ns ∈ xss)) := by
  intro s Z Q E r k
  refine wpAny_isTrue_Compare1 (h _ _ _ _ r fun h' tk' Z' v r' z' i' => R.loadOwn (s := { s with heap := h', toks := tk' }) r' hl ?_ hb) rfl
  obtain ⟨ho, ka⟩ := r'.own hl
  have hz : ∀ p ∈ Z', h'.get? p.1 = some p.2 := fun p hp => (r'.zs p hp).1
  obtain ⟨as, h1⟩ := DAll.readsAll hz ka
  obtain ⟨bs, h2⟩ := DIn.reads hz i'
  have hdep : (PyData.list (ns.map .int)).depth ≤ 2 := by
    show PyData.depthAll (ns.map .int) + 1 ≤ 2
    rw [ke_depthAll]; lia
  refine SeqAt.in_list_reads (s := { s with heap := h', toks := tk' }) (Reads.list ho rfl rfl h1) h2 (canLay_intLs xss) (ke_canLayAll0 ns) ?_ ?_
  · have := Nat.min_le_right (PyData.depthAll (xss.map fun l => PyData.list (l.map .int))) (PyData.list (ns.map .int)).depth
    have := r'.ok.un
    lia
  · rw [eqv_intLs]
    exact wpAny_truthy_bool (k _ _ _ r' z')
end
/-! H18 -/
section
variable {c : Cx} {σ σ' : Sig} {N : Sig → Prop} {Rt : Sig → D → Prop}
/-- a dict display's pairs -/
def EvP (c : Cx) (σ : Sig) (keys : List (Option Expr)) (values : List Expr) (pos : Pos) (ks : List Int) (ds : List D) : Prop :=
  ∀ (s : Shared) (Z : Led) (Q : List (Value × Value) → Shared → Prop) (E : Value → Shared → Prop), R c σ Z s.heap →
    (∀ h' tk' Z' kv, R c σ Z' h' → Sub Z Z' → DAll Z' (kv.map (·.2)) ds → Carries (intKind c.G.prog c.G.w) kv (ks.zip (kv.map (·.2))) → Q kv { s with heap := h', toks := tk' }) → wpAny c.M c.A (evalPairs (pairTrees keys values c.env pos)) Q E s
theorem EvP.nil {pos : Pos} : EvP c σ [] [] pos [] [] := fun s Z Q E r k => pairTrees_nil_walk (k _ s.toks _ _ r .refl .nil trivial)
theorem EvP.cons {k v : Expr} {keys : List (Option Expr)} {values : List Expr} {pos : Pos} {n : Int} {d : D} {ks : List Int} {ds : List D} (hk : Ev c σ k (.int n)) (hv : Ev c σ v d) (h : EvP c σ keys values pos ks ds) : EvP c σ (some k :: keys) (v :: values) pos (n :: ks) (d :: ds) := by
  intro s Z Q E r q
  refine pairTrees_cons_walk (hk _ _ _ _ r fun h1 tk1 Z1 v1 r1 z1 i1 => hv _ _ _ _ r1 fun h2 tk2 Z2 v2 r2 z2 i2 => h _ _ _ _ r2 fun h3 tk3 Z3 kv r3 z3 i3 i4 => ?_)
  cases i1
  exact q _ _ _ _ r3 ((z1.trans z2).trans z3) (.cons (i2.mono z3) i3) ⟨intKind_is _ _ _ _, rfl, i4⟩
abbrev dict0 : Obj := { cls := .type "dict", data := .dict #[] }
theorem dict0_apart : Apart dict0 := by
  refine ⟨fun a n e => ?_, fun a n e => ?_, fun v e => ?_, fun fd e => ?_, fun vs q t e => ?_⟩
  · have := congrArg Obj.data e; cases this
  · have := congrArg Obj.data e; cases this
  · cases e
  · cases e
  · cases e
/-- x = {k: v, ..} -/
theorem X.assignDict {x : Str} {keys : List (Option Expr)} {values : List Expr} {p dp pos : Pos} {ks : List Int} {ds : List D} {o : Sl} (h : EvP c σ keys values dp ks ds) (hall : keys.all (·.isSome) = true) (hlen : keys.length = values.length) (h0 : keys ≠ []) (h15 : keys.length ≤ 15) (hkl : ks.length = ds.length) (hnd : ks.Nodup)
    (hlk : Look c.names σ x o) (ho : o.local = true) (hn : ∀ a vs, ∃ σ', Put c.names σ x o (.idict a ks vs ds) σ' ∧ N σ') (hs : swapsWith (.Dict keys values dp) (some (.Name x p)) pos.line c.env = pure false := by rfl) : X c σ (.Assign [.Name x p] (.Dict keys values dp) pos) N Rt := by
  intro s Z Q E r k1 k2
  refine wpAny_Assign_Name (wpAny_Dict_walk (knd := intKind c.G.prog c.G.w) hall hlen h0 h15 ?_) hs
  have r1 := r.new (o := dict0) rfl
  refine h { s with heap := s.heap.push dict0 } _ _ _ r1 fun h2 tk2 Z2 kv r2 z2 i2 hc => ?_
  have hmem : (s.heap.objs.size, dict0) ∈ Z2 := z2 _ (.head _)
  have hg : h2.get? s.heap.objs.size = some dict0 := (r2.zs _ hmem).1
  refine ⟨ks.zip (kv.map (·.2)), hc, ⟨dict0, #[], 0, hg, ⟨rfl, rfl, rfl⟩, rfl, fun e he => absurd he (by simp), .nil, List.nodup_nil⟩, fun h3 hd hsb => ?_⟩
  have hvl : (kv.map (·.2)).length = ds.length := i2.length
  have hfst : (ks.zip (kv.map (·.2))).map (·.1) = ks := List.map_fst_zip (by lia)
  rw [merged_nil_of_nodup _ (by rw [hfst]; exact hnd)] at hd
  have hA : ∀ o, (s.heap.objs.size, o) ∈ Z2 → Apart o := fun o hm => by
    have e := (r2.zs _ hm).1
    rw [hg] at e
    cases e
    exact dict0_apart
  have hiso : Iso c σ (Td.drop Z2 s.heap.objs.size) s.heap.objs.size :=
    ⟨Nat.le_trans r.sizes.1 (Nat.le_of_lt r.sizes.2), Nat.ne_of_gt r.sizes.2, fun p hp => (mem_drop.mp hp).2, fun x sl hl ha => (r2.ow _ _ _ hl ha).2.2 _ hmem rfl⟩
  have r3 : R c σ (Td.drop Z2 s.heap.objs.size) h3 := (r2.drop hA).growBut hiso fun b o hb e => (hsb.2 b hb).trans e
  have i3 : DAll (Td.drop Z2 s.heap.objs.size) (kv.map (·.2)) ds := i2.drop hA
  have hsub : Sub Z (Td.drop Z2 s.heap.objs.size) := fun p hp => mem_drop.mpr ⟨z2 _ (.tail _ hp), fun e => Nat.lt_irrefl _ (e ▸ Heap.lt_size (r.zs p hp).1)⟩
  obtain ⟨σ', hp, hn'⟩ := hn s.heap.objs.size (kv.map (·.2))
  have hk : c.env.kindOf x = some .local := let ⟨m, F, l⟩ := r.fr; (l _ _ hp.old).kind ho
  obtain ⟨od, hod1, hod2⟩ := Heap.dictOf_iff.mp hd
  have hsys : (s.heap.objs.size == sysModules) = false := by
    have hz := r.sizes
    have hp1 := r.ok.p1
    have : s.heap.objs.size ≠ 1 := Nat.ne_of_gt (Nat.lt_of_le_of_lt (Nat.succ_le_of_lt (Nat.lt_of_le_of_lt (Nat.zero_le _) hp1)) (Nat.lt_of_le_of_lt hz.1 hz.2))
    exact beq_eq_false_iff_ne.mpr this
  refine R.store (s := { s with heap := h3, toks := _ }) r3 hp ho (fun m h4 e hs4 => ⟨hk, e, hsys, ⟨od, (hs4 _ (Nat.ne_of_gt r.sizes.2)).trans hod1, hod2⟩, i3, hnd⟩) (fun a ha => ?_) fun h4 tk4 r4 => k1 _ _ _ _ hn' r4 hsub
  cases ha
  exact ⟨r.fresh (Nat.le_trans r.sizes.1 (Nat.le_of_lt r.sizes.2)), Nat.ne_of_gt r.sizes.2, hiso.z, fun y t hy _ => hiso.ow y t hy⟩
theorem valueAt_zip {ks : List Int} {vs : List Value} (hnd : ks.Nodup) {i : Nat} {k : Int} {v : Value} (h1 : ks[i]? = some k) (h2 : vs[i]? = some v) : valueAt (ks.zip vs) k = some v := by
  unfold valueAt
  induction ks generalizing vs i with
  | nil => cases h1
  | cons a ks ih =>
    cases vs with
    | nil => cases h2
    | cons w vs =>
      cases i with
      | zero => cases h1; cases h2; simp
      | succ i =>
        have hne : a ≠ k := fun e => (List.nodup_cons.mp hnd).1 (e ▸ List.mem_of_getElem? (by simpa using h1))
        rw [List.zip_cons_cons, List.find?_cons_of_neg (by simpa using hne)]
        exact ih (List.nodup_cons.mp hnd).2 (by simpa using h1) (by simpa using h2)
/-- x[e], x a dict of whole numbers -/
theorem Ev.subDict {x : Str} {e : Expr} {p pos : Pos} {a : Addr} {ks : List Int} {vs : List Value} {ds : List D} {i : Nat} {k : Int} {d : D} (hl : Look c.names σ x (.idict a ks vs ds)) (h : Ev c σ e (.int k)) (h1 : ks[i]? = some k) (h2 : ds[i]? = some d)
    (hs : ∀ o i, subscripted e false o i = operate [o, i] (getItem o i) := by intro _ _; rfl) (hb : (x == ("__debug__" : Str)) = false := by decide) : Ev c σ (.Subscript (.Name x p) e pos) d := by
  intro s Z Q E r q
  have ld : ∀ (Q : Value → Shared → Prop), Q (.ref a) s → wpAny c.M c.A (eval (.Name x p) c.env) Q E s := fun Q hq => by
    obtain ⟨m, F, l⟩ := r.fr
    have k := l _ _ hl
    exact wpAny_Name (wpAny_loadName_local r.ok.kind k.1 F.ns k.2.1 hq) hb
  refine Subscript_ (ld _ (h _ _ _ _ r fun h' tk' Z' v r' z' i' => ?_))
  cases i'
  obtain ⟨m, F, l⟩ := r'.fr
  obtain ⟨_, _, hsys, ⟨o, ho, hdo⟩, ka, hnd⟩ := l _ _ hl
  have hd : h'.DictOf (intKind c.G.prog c.G.w) a (ks.zip vs) := Heap.dictOf_iff.mpr ⟨o, ho, hdo⟩
  obtain ⟨w, hw, iw⟩ := ka.get h2
  exact subscriptTail_builtin hd.typeIs slot_dict_getitem.lookup (wpAny_getItem_of (s := { s with heap := h', toks := tk' }) (intKind_is _ _ _ _) hd.mapOf (valueAt_zip hnd h1 hw) (q _ _ _ _ r' z' iw)) (hs _ _) (by intro _; with_unfolding_all rfl)
end
/-! H19 -/
/-- a comprehension's state, as far as scalars see it -/
structure SI (c : Cx) (env : Env) (x : Str) (d : D) (fs : List (Addr × D)) (s : Shared) : Prop where
  loc : ∃ m v, s.heap.Ns env.locals m ∧ m x = some v ∧ DIn [] v d
  g : s.heap.Ns env.globals c.G.mg
  b : ∃ mb, s.heap.Ns env.builtins mb ∧ ∀ y : Str, y ≠ "__name__" → mb y = bootBuiltins y
  cell : ∀ p ∈ fs, ∃ v, s.heap.IsCell p.1 (some v) ∧ DIn [] v p.2
theorem SI.keeps {c : Cx} {env : Env} {x : Str} {d : D} {fs : List (Addr × D)} {s s' : Shared} (h : SI c env x d fs s) (k : Keeps s s') : SI c env x d fs s' := by
  obtain ⟨h', tk, rfl, hk⟩ := k
  obtain ⟨⟨m, v, l1, l2, l3⟩, g, ⟨mb, b1, b2⟩, cl⟩ := h
  exact ⟨⟨m, v, l1.keeps hk, l2, l3⟩, g.keeps hk, ⟨mb, b1.keeps hk, b2⟩, fun p hp => let ⟨v, h1, h2⟩ := cl p hp; ⟨v, h1.keeps hk, h2⟩⟩
theorem kp_refl (s : Shared) (tk : Nat) : Keeps s { s with toks := tk } := ⟨s.heap, tk, rfl, fun _ _ e => e⟩
theorem kp_trans {a b d : Shared} (h : Keeps a b) (k : Keeps b d) : Keeps a d := by
  obtain ⟨h1, t1, rfl, k1⟩ := h
  obtain ⟨h2, t2, rfl, k2⟩ := k
  exact ⟨h2, t2, rfl, fun b o e => k2 b o (k1 b o e)⟩
/-- a scalar's value, the heap kept -/
def ES (c : Cx) (env : Env) (x : Str) (d : D) (fs : List (Addr × D)) (e : Expr) (r : D) : Prop :=
  ∀ (s : Shared) (E : Value → Shared → Prop), SI c env x d fs s → wpAny c.M c.A (eval e env) (fun y s' => DIn [] y r ∧ Keeps s s') E s
section
variable {c : Cx} {env : Env} {x : Str} {d : D} {fs : List (Addr × D)}
theorem ES.name {p : Pos} (hk : env.scope.kind = .function) (hx : env.kindOf x = some .local) (hd : (x == ("__debug__" : Str)) = false := by decide) : ES c env x d fs (.Name x p) d := by
  intro s E h
  obtain ⟨m, v, l1, l2, l3⟩ := h.loc
  exact wpAny_Name (wpAny_loadName_local hk hx l1 l2 ⟨l3, kp_refl s s.toks⟩) hd
theorem ES.cell {y : Str} {ca : Addr} {r : D} {p : Pos} (hk : env.scope.kind = .function) (hx : env.kindOf y = some .cell) (hc : env.cells.lookup y = some ca) (hm : (ca, r) ∈ fs) (hd : (y == ("__debug__" : Str)) = false := by decide) : ES c env x d fs (.Name y p) r := by
  intro s E h
  obtain ⟨v, h1, h2⟩ := h.cell _ hm
  exact wpAny_Name (wpAny_loadName_cell hk hx hc h1 ⟨h2, kp_refl s s.toks⟩) hd
theorem ES.constI {i : Int} {k : Nat} {p : Pos} : ES c env x d fs (.Constant (.int i) k p) (.int i) := fun s E h => wpAny_Constant_int ⟨.int _ _, kp_refl s _⟩
theorem ES.constF {i : UInt64} {k : Nat} {p : Pos} : ES c env x d fs (.Constant (.float i) k p) (.flt i) := fun s E h => wpAny_Constant_float ⟨.flt _ _, kp_refl s _⟩
def SOp (c : Cx) (f : Value → Value → Sem Value) (d1 d2 r : D) : Prop :=
  ∀ (s : Shared) (E : Value → Shared → Prop) (v1 v2 : Value), DIn [] v1 d1 → DIn [] v2 d2 → wpAny c.M c.A (f v1 v2) (fun y s' => DIn [] y r ∧ Keeps s s') E s
theorem ES.bin {l r : Expr} {op : Operator} {p : Pos} {d1 d2 dr : D} (h1 : ES c env x d fs l d1) (h2 : ES c env x d fs r d2) (h : SOp c (binaryOp op) d1 d2 dr) : ES c env x d fs (.BinOp l op r p) dr := by
  intro s E hs
  refine wpAny_BinOp (wpAny_mono (h1 s E hs) (fun v1 s1 q1 => wpAny_mono (h2 s1 E (hs.keeps q1.2)) (fun v2 s2 q2 => wpAny_mono (h s2 E v1 v2 q1.1 q2.1) (fun v3 s3 q3 => ⟨q3.1, kp_trans (kp_trans q1.2 q2.2) q3.2⟩) fun _ _ e => e) fun _ _ e => e) fun _ _ e => e)
theorem SOp.subII {a b : Int} : SOp c (binaryOp .Sub) (.int a) (.int b) (.int (a - b)) := by
  intro s E v1 v2 i1 i2; cases i1; cases i2; exact PyProof.Rows.sub_int ⟨.int _ _, kp_refl s _⟩
theorem SOp.modII {a b : Int} (hb : b ≠ 0) : SOp c (binaryOp .Mod) (.int a) (.int b) (.int (a.fmod b)) := by
  intro s E v1 v2 i1 i2; cases i1; cases i2; exact mod_int' hb ⟨.int _ _, kp_refl s _⟩
theorem SOp.mulFI {a : UInt64} {b : Int} (hb : b.natAbs < 2 ^ 64) : SOp c (binaryOp .Mult) (.flt a) (.int b) (.flt (Float64.mul a (Float64.ofInt b))) := by
  intro s E v1 v2 i1 i2; cases i1; cases i2; exact mul_fi_fits (Nat.lt_of_lt_of_le hb (Nat.pow_le_pow_right (by decide) (by decide))) ⟨.flt _ _, kp_refl s _⟩
theorem SOp.addFF {a b : UInt64} : SOp c (binaryOp .Add) (.flt a) (.flt b) (.flt (Float64.add a b)) := by
  intro s E v1 v2 i1 i2; cases i1; cases i2; exact add_float ⟨.flt _ _, kp_refl s _⟩
/-- a built-in's name -/
theorem ES.loadB {y : Str} {p : Pos} {v : Value} {s : Shared} {Q : Value → Shared → Prop} {E : Value → Shared → Prop} (h : SI c env x d fs s) (hk : env.scope.kind = .function) (hy : env.kindOf y = some .globalImplicit) (h1 : c.G.mg y = none) (h2 : y ≠ "__name__") (h3 : bootBuiltins y = some v) (q : Q v s)
    (hd : (y == ("__debug__" : Str)) = false) : wpAny c.M c.A (eval (.Name y p) env) Q E s := by
  obtain ⟨mb, b1, b2⟩ := h.b
  exact Name_function_global hk hy (loadGlobal_builtin h.g h1 b1 ((b2 y h2).trans h3) q) hd
/-- max, min of two whole numbers -/
theorem ES.two {y : Str} {id : String} {e1 e2 : Expr} {p pos : Pos} {a b r : Int} (hk : env.scope.kind = .function) (hy : env.kindOf y = some .globalImplicit) (h1 : c.G.mg y = none) (h2 : y ≠ "__name__") (h3 : bootBuiltins y = some (.builtin id))
    (he1 : ES c env x d fs e1 (.int a)) (he2 : ES c env x d fs e2 (.int b)) (hc : ∀ (s : Shared) (E : Value → Shared → Prop) (t u : Tok), wpAny c.M c.A (call (.builtin id) [.int a t, .int b u]) (fun y s' => DIn [] y (.int r) ∧ Keeps s s') E s)
    (hs1 : ∀ env, starEach [e1, e2] env = (false, eval e1 env) :: starEach [e2] env := by intro _; rfl) (hs2 : ∀ env, starEach [e2] env = (false, eval e2 env) :: starEach [] env := by intro _; rfl) (hp : ∀ env, (backTo pos (starEach [e2] env)).any (·.1) = false := by intro _; rfl)
    (hd : (y == ("__debug__" : Str)) = false := by decide) : ES c env x d fs (.Call (.Name y p) [e1, e2] [] pos) (.int r) := by
  intro s E hs
  refine wpAny_Call_Name_kw (ES.loadB hs hk hy h1 h2 h3 (callWith_builtin1 (args_cons (wpAny_mono (he1 s E hs) (fun v1 s1 q1 => args_cons (wpAny_mono (he2 s1 E (hs.keeps q1.2)) (fun v2 s2 q2 => args_nil ?_) fun _ _ e => e) (hs2 _)) fun _ _ e => e) (hs1 _)) (hs1 _) (hp _)) hd)
  obtain ⟨i1, k1⟩ := q1
  obtain ⟨i2, k2⟩ := q2
  cases i1
  cases i2
  exact wpAny_mono (hc s2 E _ _) (fun y s3 q => ⟨q.1, kp_trans (kp_trans k1 k2) q.2⟩) fun _ _ e => e
theorem ES.toInt {y : Str} {e1 : Expr} {p pos : Pos} {a : UInt64} (hk : env.scope.kind = .function) (hy : env.kindOf y = some .globalImplicit) (h1 : c.G.mg y = none) (h2 : y ≠ "__name__") (h3 : bootBuiltins y = some (.type "int"))
    (he1 : ES c env x d fs e1 (.flt a)) (hf : Float64.isFinite a = true)
    (hs1 : ∀ env, starEach [e1] env = (false, eval e1 env) :: starEach [] env := by intro _; rfl) (hp : ∀ env, (backTo pos (starEach [] env)).any (·.1) = false := by intro _; rfl)
    (hd : (y == ("__debug__" : Str)) = false := by decide) : ES c env x d fs (.Call (.Name y p) [e1] [] pos) (.int (toI a)) := by
  intro s E hs
  refine wpAny_Call_Name_kw (ES.loadB hs hk hy h1 h2 h3 (PyProof.Rows.callWith_type1 (args_cons (wpAny_mono (he1 s E hs) (fun v1 s1 q1 => args_nil ?_) fun _ _ e => e) (hs1 _)) (hs1 _) (hp _)) hd)
  obtain ⟨i1, k1⟩ := q1
  cases i1
  cases hdc : Float64.decode a with
  | fin sg m e =>
    refine call_int_float hdc ⟨?_, kp_trans k1 (kp_refl s1 _)⟩
    have : toI a = Float64.truncOf sg m e := by unfold toI; rw [hdc]
    rw [this]
    exact .int _ _
  | nan => unfold Float64.isFinite at hf; rw [hdc] at hf; cases hf
  | inf => unfold Float64.isFinite at hf; rw [hdc] at hf; cases hf
theorem max_s {A : Around} {prog : Program} {w : World} (hh : A.handled = none) {a b : Int} (s : Shared) (E : Value → Shared → Prop) (t u : Tok) : wpAny (model prog w) A (call (.builtin "max") [.int a t, .int b u]) (fun y s' => DIn [] y (.int (if b > a then b else a)) ∧ Keeps s s') E s :=
  max_two_ints hh fun h' tk kp => ⟨by split <;> exact .int _ _, h', tk, rfl, kp⟩
theorem min_s {A : Around} {prog : Program} {w : World} (hh : A.handled = none) {a b : Int} (s : Shared) (E : Value → Shared → Prop) (t u : Tok) : wpAny (model prog w) A (call (.builtin "min") [.int a t, .int b u]) (fun y s' => DIn [] y (.int (if b < a then b else a)) ∧ Keeps s s') E s :=
  min_two_ints hh fun h' tk kp => ⟨by split <;> exact .int _ _, h', tk, rfl, kp⟩
end
/-! H20 -/
def D.scalar : D → Bool
  | .int _ => true
  | .flt _ => true
  | _ => false
theorem DIn.scal {Z : Led} {v : Value} {d : D} (i : DIn Z v d) (h : d.scalar = true) : DIn [] v d := by
  cases i with
  | int i t => exact .int i t
  | flt b t => exact .flt b t
  | _ => cases h
theorem DIn.det {v : Value} {d e : D} (i : DIn [] v d) (k : DIn [] v e) (h : d.scalar = true) : e = d := by
  cases i with
  | int i t => cases k; rfl
  | flt b t => cases k; rfl
  | _ => cases h
theorem DIn.of_scal {Z : Led} {v : Value} {d : D} (i : DIn [] v d) : DIn Z v d := i.mono fun _ h => absurd h List.not_mem_nil
theorem Paired.dall {Z : Led} {g : D → D} : ∀ {vs ys : List Value} {ds : List D}, Paired (fun v y => ∀ d, DIn [] v d → DIn [] y (g d)) vs ys → DAll [] vs ds → DAll Z ys (ds.map g)
  | _, _, _, .nil, .nil => .nil
  | _, _, _, .cons h r, .cons i k => .cons (h _ i).of_scal (Paired.dall r k)
section
variable {c : Cx} {σ σ' : Sig} {N : Sig → Prop} {Rt : Sig → D → Prop}
theorem dall_of {vs : List Value} {ds : List D} (hl : vs.length = ds.length) (h : ∀ (j : Nat) v d, vs[j]? = some v → ds[j]? = some d → DIn [] v d) : DAll [] vs ds := by
  induction vs generalizing ds with
  | nil =>
    cases ds with
    | nil => exact .nil
    | cons _ _ => cases hl
  | cons v vs ih =>
    cases ds with
    | nil => cases hl
    | cons d ds => exact .cons (h 0 v d rfl rfl) (ih (by simpa using hl) fun j w e h1 h2 => h (j + 1) w e (by simpa using h1) (by simpa using h2))
/-- what a comprehension goes over -/
def ItS (c : Cx) (σ : Sig) (iter : Expr) (n : Nat) (item : Nat → D) : Prop :=
  ∀ (s : Shared) (Z : Led) (Q : Value → Shared → Prop) (E : Value → Shared → Prop), R c σ Z s.heap →
    (∀ h' tk' Z' I fp P St, R c σ Z' h' → Sub Z Z' → Walks c.G.prog c.G.w c.A I fp [I] n P St → St 0 h' → Iso c σ Z' I → (∀ b ∈ fp, b = I ∨ ∃ o, (b, o) ∈ Z') → I < h'.objs.size →
      (∀ i v, P i v → i < n ∧ DIn Z' v (item i)) → Q (.ref I) { s with heap := h', toks := tk' }) →
    wpAny c.M c.A (eval iter c.env) (fun xv s₁ => wpAny c.M c.A (pyIter xv) Q E s₁) E s
theorem ItS.list {iter : Expr} {ds : List D} (h : Ev c σ iter (.lst ds)) : ItS c σ iter ds.length (fun i => ds.getD i .none) := by
  intro s Z Q E r k
  refine h _ _ _ _ r fun h' tk' Z' v r' z' i' => ?_
  cases i' with
  | lst hm ka =>
  rename_i a vs n
  have hl : h'.IsList a vs.toArray := ⟨_, (r'.zs _ hm).1, rfl, _, rfl⟩
  refine wpAny_pyIter_list (s := { s with heap := h', toks := tk' }) hl ?_
  have hne : a ≠ h'.objs.size := r'.iso.z _ hm
  have W := Walks.list (prog := c.G.prog) (w := c.G.w) r'.ok.hh h'.objs.size a hne vs.toArray
  have hsz : vs.toArray.size = ds.length := by simp [ka.length]
  rw [hsz] at W
  refine k _ _ _ _ _ _ _ (r'.push _) z' W ⟨⟨_, Heap.get?_push_size _ rfl, rfl, rfl⟩, ⟨_, Heap.get?_push_of_some _ (r'.zs _ hm).1, rfl, _, rfl⟩⟩ r'.iso (fun b hb => ?_) (by rw [Heap.size_push]; exact Nat.lt_succ_self _) (fun i v hv => ?_)
  · rcases List.mem_cons.mp hb with rfl | hb
    · exact .inl rfl
    · exact .inr ⟨_, (List.mem_singleton.mp hb) ▸ hm⟩
  · have hv' : vs[i]? = some v := by simpa using hv
    have hi : i < ds.length := by rw [← ka.length]; exact (List.getElem?_eq_some_iff.mp hv').1
    have hd : ds[i]? = some (ds.getD i .none) := by rw [List.getD_eq_getElem?_getD, List.getElem?_eq_getElem hi]; rfl
    obtain ⟨w, hw, iw⟩ := ka.get hd
    rw [hv'] at hw
    rw [Option.some.inj hw]; exact ⟨hi, iw⟩
theorem ItS.tuple {iter : Expr} {ds : List D} (h : Ev c σ iter (.tup ds)) : ItS c σ iter ds.length (fun i => ds.getD i .none) := by
  intro s Z Q E r k
  refine h _ _ _ _ r fun h' tk' Z' v r' z' i' => ?_
  cases i' with
  | tup hm ka =>
  rename_i a vs n
  have hl : h'.IsTuple a vs.toArray := ⟨_, (r'.zs _ hm).1, rfl, _, rfl⟩
  refine wpAny_pyIter_tuple (s := { s with heap := h', toks := tk' }) hl ?_
  have hne : a ≠ h'.objs.size := r'.iso.z _ hm
  have W := Walks.tuple (prog := c.G.prog) (w := c.G.w) (A := c.A) r'.ok.hh h'.objs.size a hne vs.toArray
  have hsz : vs.toArray.size = ds.length := by simp [ka.length]
  rw [hsz] at W
  refine k _ _ _ _ _ _ _ (r'.push _) z' W ⟨⟨_, Heap.get?_push_size _ rfl, rfl, rfl⟩, ⟨_, Heap.get?_push_of_some _ (r'.zs _ hm).1, rfl, _, rfl⟩⟩ r'.iso (fun b hb => ?_) (by rw [Heap.size_push]; exact Nat.lt_succ_self _) (fun i v hv => ?_)
  · rcases List.mem_cons.mp hb with rfl | hb
    · exact .inl rfl
    · exact .inr ⟨_, (List.mem_singleton.mp hb) ▸ hm⟩
  · have hv' : vs[i]? = some v := by simpa using hv
    have hi : i < ds.length := by rw [← ka.length]; exact (List.getElem?_eq_some_iff.mp hv').1
    have hd : ds[i]? = some (ds.getD i .none) := by rw [List.getD_eq_getElem?_getD, List.getElem?_eq_getElem hi]; rfl
    obtain ⟨w, hw, iw⟩ := ka.get hd
    rw [hv'] at hw
    rw [Option.some.inj hw]; exact ⟨hi, iw⟩
/-- y = [elt for x in iter] of scalars -/
theorem X.comp {x y : Str} {px py pos spos : Pos} {elt iter : Expr} {scope : Scope} {cl : List (Str × Addr)} {ds : List D} {g : D → D} {o : Sl} {fs : List (Addr × D)} (hi : ItS c σ iter ds.length (fun i => ds.getD i .none)) (hlen : ds.length ≤ sizeLine) (hsc : ∀ d ∈ ds, d.scalar = true)
    (hp : Put c.names σ y o (.val (.lst (ds.map g))) σ') (ho : o.local = true) (hN : N σ')
    (hclos : closureFor scope c.env = pure cl) (hcell : ∀ z ∈ scope.names, z.2 ≠ .cell) (hkind : scope.kind = .function)
    (hnames : ∀ z ∈ scope.names, z.2 = .local → scope.names.lookup z.1 = some .local) (hx : scope.names.lookup x = some .local)
    (hfs : ∀ p ∈ fs, (∃ z, Look c.names σ z (.cell p.1 p.2)) ∧ p.2.scalar = true)
    (helt : ∀ C d, d ∈ ds → ES c (compEnvC scope cl C c.env) x d fs elt (g d))
    (hsw : swapsWith (.ListComp elt [⟨.Name x px, iter, [], 0⟩] scope pos) (some (.Name y py)) spos.line c.env = pure true := by rfl)
    (hfold : ∀ x, foldedSetIterable iter c.env x = pure x := by intro _; rfl) : X c σ (.Assign [.Name y py] (.ListComp elt [⟨.Name x px, iter, [], 0⟩] scope pos) spos) N Rt := by
  intro s Z Q E r k1 k2
  have hy : c.env.kindOf y = some .local := let ⟨m, F, l⟩ := r.fr; (l _ _ hp.old).kind ho
  refine wpAny_Assign_ListComp_free (fun _ => true) (fun v y => ∀ d, DIn [] v d → DIn [] y (g d)) hsw hclos hcell hkind hnames hx hy (by rw [r.ok.kind]; rfl) (hi _ _ _ _ r fun h' tk' Z' I fp P St r' z' W st iso hfp hap hit => ?_) hfold
  obtain ⟨m, F, l⟩ := r'.fr
  have hitem : ∀ i v, P i v → ∃ d, ds[i]? = some d ∧ d ∈ ds ∧ DIn [] v d := fun i v hP => by
    obtain ⟨hil, q⟩ := hit i v hP
    have e : ds[i]? = some ds[i] := List.getElem?_eq_getElem hil
    have e2 : ds.getD i .none = ds[i] := by rw [List.getD_eq_getElem?_getD, e]; rfl
    simp only [e2] at q
    exact ⟨ds[i], e, List.getElem_mem _, q.scal (hsc _ (List.getElem_mem _))⟩
  refine ⟨I, fp, [I], ds.length, P, St, m, rfl, W, hlen, st, fun b hb => ?_, fun hm => iso.ne (List.mem_singleton.mp hm).symm, F.ns, ⟨fun C i v s₃ m₃ E' _ _ _ _ _ _ => ?_, fun C i v s₃ m₃ E' hC hP _ hns hmx hk _ => ?_⟩, fun Dd h3 tk3 ys vs hD hlD hpl hvl hvP hF hns3 hk3 => ?_⟩
  · rcases hfp b hb with rfl | ⟨o, hm⟩
    · exact hap
    · exact Heap.lt_size (r'.zs _ hm).1
  · exact wpAny_pure ⟨rfl, ⟨s₃.heap, s₃.toks, rfl, fun _ _ e => e⟩⟩
  · obtain ⟨d, hd1, hd2, hd3⟩ := hitem i v hP
    have lo : ∀ b o, c.h₀.get? b = some o → b ≠ I := fun b o e q => Nat.lt_irrefl _ (Nat.lt_of_lt_of_le (q ▸ Heap.lt_size e) iso.lo)
    have up : ∀ b o, c.h₀.get? b = some o → s₃.heap.get? b = some o := fun b o e => hk b o (fun hm => lo b o e (List.mem_singleton.mp hm)) (F.keep b o e)
    have si : SI c (compEnvC scope cl C c.env) x d fs s₃ := by
      refine ⟨⟨m₃, v, hns, hmx, hd3⟩, ?_, ?_, fun p hp' => ?_⟩
      · show s₃.heap.Ns c.env.globals c.G.mg
        rw [r.ok.glob]
        exact r.ok.gf.top.g.keeps up
      · refine ⟨c.G.mb, ?_, r.ok.gf.top.builtins⟩
        show s₃.heap.Ns c.env.builtins c.G.mb
        rw [r.ok.blt]
        exact r.ok.gf.top.b.keeps up
      · obtain ⟨⟨z, hz⟩, hsp⟩ := hfs p hp'
        obtain ⟨co, w, q1, q2, q3⟩ := (l _ _ hz).2.2
        exact ⟨w, ⟨co, hk _ _ (fun hm => iso.z _ q1 (List.mem_singleton.mp hm)) (r'.zs _ q1).1, q2⟩, q3.scal hsp⟩
    refine wpAny_mono (helt C d hd2 s₃ E' si) (fun y' s₄ q => ⟨fun e he => ?_, q.2⟩) fun _ _ e => e
    rw [hd3.det he (hsc d hd2)]
    exact q.1
  · -- behind it
    have hkk : ∀ b o, b ≠ c.env.locals → b ≠ I → h'.get? b = some o → h3.get? b = some o := fun b o h1 h2 e => hk3 b o h1 (fun hm => h2 (List.mem_singleton.mp hm)) e
    obtain ⟨nD, hpD⟩ := hpl
    have hDL : Dd ≠ c.L := by
      rintro rfl
      obtain ⟨o, es, ep, e, _⟩ := F.ns
      rw [show h'.get? c.L = none from hD] at e; cases e
    have hds : DAll [] vs ds := dall_of hvl fun j v d h1 h2 => by
      obtain ⟨e, q1, _, q3⟩ := hitem j v (hvP j v h1)
      rw [h2] at q1; cases q1; exact q3
    have hF' : Paired (fun v y => ∀ d, DIn [] v d → DIn [] y (g d)) vs ys.toList := by
      have : vs.filter (fun _ => true) = vs := List.filter_eq_self.mpr fun _ _ => rfl
      rw [this] at hF; exact hF
    have hall : DAll ((Dd, listOf ys.toList.toArray nD) :: Z') ys.toList (ds.map g) := Td.Paired.dall hF' hds
    have rr : R c σ' ((Dd, listOf ys.toList.toArray nD) :: Z') h3 := by
      have hDav : ¬ c.av Dd := fun q => by
        obtain ⟨o, e⟩ := r'.avs q
        rw [show h'.get? Dd = none from hD] at e; cases e
      have hLI : c.L ≠ I := Ne.symm iso.ne
      have h0 : ∀ b o, c.h₀.get? b = some o → h3.get? b = some o := fun b o e => hkk b o (fun q => by
        have := Heap.lt_size e
        rw [q] at this
        exact Nat.lt_irrefl _ (Nat.lt_of_lt_of_le this F.above)) (fun q => Nat.lt_irrefl _ (Nat.lt_of_lt_of_le (q ▸ Heap.lt_size e) iso.lo)) (F.keep b o e)
      refine ⟨r'.ok, ⟨_, ⟨hns3, h0, F.above⟩, fun z t hz => ?_⟩, fun p hp' => ?_, fun z t a hz ha => ?_, fun z u t w a hz hu hne ha => ?_, ?_, ?_⟩
      · rcases hp.split r.ok.nd hz with ⟨rfl, rfl⟩ | ⟨hne, hz⟩
        · exact ⟨hy, .ref Dd, if_pos rfl, .lst (.head _) hall⟩
        · exact ((l _ _ hz).mono .cons).other (if_neg hne) fun a o ha e => hkk a o (r'.ow _ _ _ hz ha).2.1 (fun q => iso.ow _ _ hz (q ▸ ha)) e
      · rcases List.mem_cons.mp hp' with rfl | hp'
        · exact ⟨by simpa using hpD, hDL, hDav⟩
        · have zz := r'.zs p hp'
          exact ⟨hkk _ _ zz.2.1 (iso.z p hp') zz.1, zz.2⟩
      · rcases hp.split r.ok.nd hz with ⟨rfl, rfl⟩ | ⟨hne, hz⟩
        · cases ha
        · obtain ⟨o1, o2, o3⟩ := r'.ow _ _ _ hz ha
          refine ⟨o1, o2, fun p hp' => ?_⟩
          rcases List.mem_cons.mp hp' with rfl | hp'
          · intro e
            obtain ⟨o, e2⟩ := r'.osome hz ha
            rw [← show Dd = a from e, show h'.get? Dd = none from hD] at e2; cases e2
          · exact o3 p hp'
      · rcases hp.split r.ok.nd hz with ⟨rfl, rfl⟩ | ⟨hnez, hz⟩
        · cases ha
        · rcases hp.split r.ok.nd hu with ⟨rfl, rfl⟩ | ⟨hneu, hu⟩
          · exact fun q => nomatch q
          · exact r'.sep _ _ _ _ _ hz hu hne ha
      · refine r'.tb1.mono .cons fun o e => hkk _ o (fun q => ?_) (fun q => ?_) e
        · exact absurd (r.ok.av _ r.ok.av1) (Nat.not_lt.mpr (q ▸ F.above))
        · exact absurd (r.ok.av _ r.ok.av1) (Nat.not_lt.mpr (q ▸ iso.lo))
      · refine r'.tb2.mono .cons fun o e => hkk _ o (fun q => ?_) (fun q => ?_) e
        · exact absurd (r.ok.av _ r.ok.av2) (Nat.not_lt.mpr (q ▸ F.above))
        · exact absurd (r.ok.av _ r.ok.av2) (Nat.not_lt.mpr (q ▸ iso.lo))
    exact k1 _ _ _ _ hN rr (z'.trans .cons)
end
/-! H21 -/
section
variable {c : Cx} {σ : Sig}
theorem Ev.and1 {e : Expr} {pos : Pos} {d : D} (h : Ev c σ e d) : Ev c σ (.BoolOp .And [e] pos) d := fun s Z Q E r k => BoolOp_one (h s Z Q E r k)
theorem Ev.andT {e₁ e₂ : Expr} {rest : List Expr} {pos : Pos} {d1 d : D} (h1 : Ev c σ e₁ d1) (t : Tr d1 true) (h2 : Ev c σ (.BoolOp .And (e₂ :: rest) pos) d) : Ev c σ (.BoolOp .And (e₁ :: e₂ :: rest) pos) d := by
  intro s Z Q E r k
  refine BoolOp_and (h1 _ _ _ _ r fun h' tk' Z' v r' z' i' => t.run (h := h') i' ?_)
  exact h2 _ _ _ _ r' fun h3 tk3 Z3 v3 r3 z3 i3 => k _ _ _ _ r3 (z'.trans z3) i3
end
/-! F0 -/
/-- the text's statements by their place -/
def stAt (i : Nat) : Stmt := PySem.Challenge.pw_rs0196_01.main.body.getD i (.Pass default)
def dfn (i : Nat) : DefRec := match stAt i with
  | .FunctionDef n a b _ _ _ sc _ _ pos => ⟨n, a, b, sc, pos⟩
  | _ => ⟨"", { posonlyargs := [], args := [], vararg := none, kwonlyargs := [], kw_defaults := [], kwarg := none, defaults := [] }, [], { kind := .function, names := [], isGenerator := false, isCoroutine := false, more := [] }, default⟩
def nm (i : Nat) : Str := match stAt i with
  | .FunctionDef n _ _ _ _ _ _ _ _ _ => n
  | .Assign [.Name n _] _ _ => n
  | _ => ""

/-- of_body, its names written out -/
theorem Fn.body {G : Glo} {d : DefRec} (pn rest names gnames : List Str) (σ₀ : Sig) {k : Nat} {args : List D} {res : D} (hf : d ∈ G.fns) (hnm : names = pn ++ rest) (hσ : σ₀ = args.map Sl.val ++ rest.map fun _ => Sl.no)
    (hb : ∀ (vs : List Value) (pm code doc : Value), vs.length = args.length → bindArgs (docDef d.name d.params d.body d.scope pm code doc) ⟨vs, []⟩ = pure (pn.zip vs))
    (hlen : pn.length = args.length) (hnd : names.Nodup) (hloc : (names.all fun x => d.scope.names.lookup x == some .local) = true) (hgl : (gnames.all fun x => d.scope.names.lookup x == some .globalImplicit) = true)
    (hcell : (d.scope.names.all fun x => x.2 != .cell) = true) (hco : d.scope.isCoroutine = false) (hgen : d.scope.isGenerator = false) (hk : d.scope.kind = .function)
    (body : ∀ (A : Around) (env : Env) (h₀ : Heap) (av : Addr → Prop), XS ⟨G, A, env, h₀, names, gnames, av, k⟩ σ₀ d.body (fun _ => False) (fun _ r => r = res)) : Fn G d k args res := by
  subst hnm hσ
  refine Fn.of_body hf hb hlen hnd hloc hgl hcell hco hgen hk fun c' e1 e2 e3 e4 => ?_
  obtain ⟨G', A, env, h₀, names, gnames', av, room⟩ := c'
  subst e1 e2 e3 e4
  exact body _ _ _ _
theorem vlen1 {vs : List Value} (h : vs.length = 1) : ∃ a, vs = [a] := List.length_eq_one_iff.mp h
theorem vlen2 {vs : List Value} (h : vs.length = 2) : ∃ a b, vs = [a, b] := by
  match vs, h with
  | [a, b], _ => exact ⟨a, b, rfl⟩
theorem vlen3 {vs : List Value} (h : vs.length = 3) : ∃ a b d, vs = [a, b, d] := by
  match vs, h with
  | [a, b, d], _ => exact ⟨a, b, d, rfl⟩

local macro_rules | `(tactic| walk_at "h_mem") => `(tactic| first | exact List.Mem.head _ | (refine List.Mem.tail _ ?_; walk_at "h_mem"))
/-! F1 -/
local macro_rules | `(tactic| walk_at "h_mem") => `(tactic| first | exact List.Mem.head _ | (apply List.Mem.tail; walk_at "h_mem"))
local macro_rules | `(tactic| walk_at "h_look") => `(tactic| first | with_reducible exact Look.head | (with_reducible apply Look.tail); walk_at "h_look")
local macro_rules | `(tactic| walk_at "h_put") => `(tactic| first | with_reducible exact Put.head | (with_reducible apply Put.tail); walk_at "h_put")
local macro_rules | `(tactic| walk_at "h_con") => `(tactic| first | assumption | (simp only []; assumption))
local macro_rules | `(tactic| walk_at "h_evl") => `(tactic| first
  | with_reducible exact EvL.nil
  | (refine' EvL.cons ?a ?b); (case a => walk_at "h_ev"); (case b => walk_at "h_evl"))
local macro_rules | `(tactic| walk_at "h_ev") => `(tactic| first
  | with_reducible exact Ev.constI
  | with_reducible exact Ev.constF
  | with_reducible exact Ev.constS
  | with_reducible exact Ev.constN
  | with_reducible exact Ev.constB
  | (with_reducible refine' Ev.name ?a); (case a => walk_at "h_look")
  | (with_reducible refine' Ev.cell ?a); (case a => walk_at "h_look")
  | (with_reducible refine' Ev.free ?a); (case a => walk_at "h_look")
  | (with_reducible refine' Ev.glob ?a ?b); (case a => walk_at "h_mem"); (case b => assumption)
  | (with_reducible refine' Ev.bin ?a ?b ?d); (case a => walk_at "h_ev"); (case b => walk_at "h_ev"); (case d => walk_at "h_op")
  | (with_reducible refine' Ev.un ?a ?d); (case a => walk_at "h_ev"); (case d => walk_at "h_op")
  | (with_reducible refine' Ev.cmp ?a ?b ?d); (case a => walk_at "h_ev"); (case b => walk_at "h_ev"); (case d => walk_at "h_op")
  | (with_reducible refine' Ev.sub ?a ?b ?d ?e (hs := ?f)); (case a => walk_at "h_ev"); (case b => walk_at "h_ev"); (case d => constructor); (case e => walk_at "h_op"); (case f => intro _ _; rfl)
  | (with_reducible refine' Ev.tuple ?a ?b); (case a => walk_at "h_evl"); (case b => simp [sizeLine_eq])
  | (with_reducible refine' Ev.list ?a ?b); (case a => walk_at "h_evl"); (case b => simp [sizeLine_eq])
  | (with_reducible refine' Ev.bits ?a (hb := ?f) (hline := ?g)); (case a => walk_at "h_ev"); (case f => intro _; rfl); (case g => rfl)
  | walk_at "h_call"
  | (with_reducible refine' Ev.callB ?a ?b ?d ?e (he := ?f) (hp := ?g)); (case a => walk_at "h_mem"); (case b => assumption); (case d => walk_at "h_evl"); (case e => walk_at "h_cb"); (case f => intro _; rfl); (case g => intro _; rfl)
  | (with_reducible refine' Ev.callT ?a ?b ?d ?e (he := ?f) (hp := ?g)); (case a => walk_at "h_mem"); (case b => assumption); (case d => walk_at "h_evl"); (case e => walk_at "h_cb"); (case f => intro _; rfl); (case g => intro _; rfl)
  | (with_reducible refine' Ev.callF ?a ?b rfl ?d ?e ?k (he := ?f)); (case a => walk_at "h_mem"); (case b => assumption); (case d => walk_at "h_evl"); (case e => walk_at "h_fn"); (case k => simp only []; lia); (case f => intro _; rfl))
local macro_rules | `(tactic| walk_at "h_fn") => `(tactic| assumption)
local macro_rules | `(tactic| walk_at "h_cb") => `(tactic| first
  | with_reducible exact maxFFF
  | with_reducible exact minFFF
  | with_reducible exact maxII
  | with_reducible exact minII)
local macro_rules | `(tactic| walk_at "h_op") => `(tactic| first
  | with_reducible exact addFF
  | with_reducible exact subFF
  | with_reducible exact mulFF
  | (with_reducible refine' modFF ?a); (case a => decide +kernel)
  | (with_reducible refine' divFF ?a); (case a => first | assumption | decide +kernel)
  | with_reducible exact ltFF
  | with_reducible exact leFF
  | with_reducible exact eqFF
  | with_reducible exact addII
  | with_reducible exact subII
  | with_reducible exact eqII
  | with_reducible exact neII
  | with_reducible exact ltII
  | with_reducible exact leII
  | with_reducible exact gtII
  | with_reducible exact geII
  | with_reducible exact negI
  | (with_reducible refine' itemL ?a ?b ?d); (case a => first | decide | lia); (case b => first | decide | lia); (case d => rfl)
  | (with_reducible refine' itemT ?a ?b ?d); (case a => first | decide | lia); (case b => first | decide | lia); (case d => rfl)
  | with_reducible exact xorII
  | with_reducible exact invI
  | (with_reducible refine' shrII ?a); (case a => first | assumption | lia)
  | (with_reducible refine' shlII ?a ?b ?d); (case a => first | assumption | lia); (case b => first | assumption | lia); (case d => first | assumption | lia)
  | (with_reducible refine' mulII ?a); (case a => first | assumption | (left; lia) | (right; lia))
  | (with_reducible refine' fmodII ?a); (case a => first | assumption | lia)
  | (with_reducible refine' fdivII ?a ?b); (case a => first | assumption | lia); (case b => lia))
local macro_rules | `(tactic| walk_at "h_tst") => `(tactic| first
  | (with_reducible refine' Tst.cmp ?a ?b ?d ?e); (case a => walk_at "h_ev"); (case b => walk_at "h_ev"); (case d => walk_at "h_op"); (case e => with_reducible exact Tr.bool _))
local macro_rules | `(tactic| walk_at "h_asg") => `(tactic| (refine XS.cons ?_; (refine' X.assign ?a ?b ?o ?d); (case a => walk_at "h_ev"); (case b => walk_at "h_put"); (case o => rfl); show XS _ _ _ _ _))
local macro_rules | `(tactic| walk_at "h_if") => `(tactic| (refine XS.cons ?_; (refine' X.if_ ?a ?b ?d); (case a => walk_at "h_tst")))
local macro_rules | `(tactic| walk_at "h_ret") => `(tactic| (refine XS.cons ?_; (refine' X.ret ?a ?b); (case a => walk_at "h_ev")))
abbrev third : UInt64 := 4599676419421066581
abbrev sixth : UInt64 := 4595172819793696085
abbrev twoth : UInt64 := 4604180019048437077
def flt (a b : UInt64) : Bool := Float64.cmp a b == some .lt
def vHue (m1 m2 h : UInt64) : UInt64 :=
  if flt h sixth then Float64.add m1 (Float64.mul (Float64.mul (Float64.sub m2 m1) h) 0x4018000000000000)
  else if flt h 0x3fe0000000000000 then m2
  else if flt h twoth then Float64.add m1 (Float64.mul (Float64.mul (Float64.sub m2 m1) (Float64.sub twoth h)) 0x4018000000000000)
  else m1
def hmod (h : UInt64) : UInt64 := (Float64.divmod h 0x3ff0000000000000).2
def vF (m1 m2 hue : UInt64) : UInt64 := vHue m1 m2 (hmod hue)

theorem v_fn {G : Glo} {m1 m2 hue : UInt64} (hf : dfn 6 ∈ G.fns) (h6 : (("ONE_SIXTH" : Str), D.flt sixth) ∈ G.consts) (h2 : (("TWO_THIRD" : Str), D.flt twoth) ∈ G.consts) :
    Fn G (dfn 6) 0 [.flt m1, .flt m2, .flt hue] (.flt (vF m1 m2 hue)) := by
  refine Fn.body ["m1", "m2", "hue"] [] ["m1", "m2", "hue"] ["ONE_SIXTH", "TWO_THIRD"] [.val (.flt m1), .val (.flt m2), .val (.flt hue)] hf rfl rfl ?_ rfl (by decide) (by decide) (by decide) (by decide) rfl rfl rfl ?_
  · intro vs pm code doc h
    obtain ⟨a, b, d, rfl⟩ := vlen3 h
    rfl
  · intro A env h₀ av
    conv => enter [3]; whnf
    walk_at "h_asg"
    walk_at "h_if" <;> intro h1
    · walk_at "h_ret"
      simp [vF, vHue, flt, hmod, h1]
    refine XS.nil ?_
    walk_at "h_if" <;> intro h2
    · walk_at "h_ret"
      simp [vF, vHue, flt, hmod, h1, h2]
    refine XS.nil ?_
    walk_at "h_if" <;> intro h3
    · walk_at "h_ret"
      simp [vF, vHue, flt, hmod, h1, h2, h3]
    refine XS.nil ?_
    walk_at "h_ret"
    simp [vF, vHue, flt, hmod, h1, h2, h3]
/-! F2 -/
/-- a def within a def: the k-th line of the i-th one -/
def inn (i k : Nat) : DefRec := match (dfn i).body.getD k (.Pass default) with
  | .FunctionDef n a b _ _ _ sc _ _ pos => ⟨n, a, b, sc, pos⟩
  | _ => ⟨"", { posonlyargs := [], args := [], vararg := none, kwonlyargs := [], kw_defaults := [], kwarg := none, defaults := [] }, [], { kind := .function, names := [], isGenerator := false, isCoroutine := false, more := [] }, default⟩
/-- what the text's top holds -/
structure GOK (G : Glo) : Prop where
  f4 : dfn 4 ∈ G.fns
  f5 : dfn 5 ∈ G.fns
  f6 : dfn 6 ∈ G.fns
  f9 : dfn 9 ∈ G.fns
  f11 : dfn 11 ∈ G.fns
  f12 : dfn 12 ∈ G.fns
  f13 : dfn 13 ∈ G.fns
  f14 : dfn 14 ∈ G.fns
  f67 : dfn 67 ∈ G.fns
  f68 : dfn 68 ∈ G.fns
  f69 : dfn 69 ∈ G.fns
  f71 : dfn 71 ∈ G.fns
  f72 : dfn 72 ∈ G.fns
  c1 : (("ONE_THIRD" : Str), D.flt third) ∈ G.consts
  c2 : (("ONE_SIXTH" : Str), D.flt sixth) ∈ G.consts
  c3 : (("TWO_THIRD" : Str), D.flt twoth) ∈ G.consts
  c4 : (("NT_OFFSET" : Str), D.int 256) ∈ G.consts
  c5 : (("ENDMARKER" : Str), D.int 0) ∈ G.consts
  c6 : (("_DIV_LIMIT" : Str), D.int 4000) ∈ G.consts
  t1 : ∃ cc P, G.t1 = ⟨dfn 11, cc, P, (inn 11 1).pos, "_int2digits.<locals>.inner"⟩
  t2 : ∃ cc P, G.t2 = ⟨dfn 12, cc, P, (inn 12 0).pos, "_digits2int.<locals>.inner"⟩
  b1 : (("max" : Str), Value.builtin "max") ∈ G.bns
  b2 : (("min" : Str), Value.builtin "min") ∈ G.bns
  b3 : (("len" : Str), Value.builtin "len") ∈ G.bns
  b4 : (("divmod" : Str), Value.builtin "divmod") ∈ G.bns
  b5 : (("int" : Str), Value.type "int") ∈ G.bns
  b6 : (("range" : Str), Value.type "range") ∈ G.bns
  b7 : (("reversed" : Str), Value.type "reversed") ∈ G.bns
section
variable {c : Cx} {σ : Sig}
theorem Ev.call_v {e : Expr} {es : List Expr} {p pos : Pos} {m1 m2 hue : UInt64} (hg : ("_v" : Str) ∈ c.gnames) (hG : GOK c.G) (h : EvL c σ pos (e :: es) [.flt m1, .flt m2, .flt hue]) (hk : 0 < c.room)
    (he : ∀ env, starEach (e :: es) env = (false, eval e env) :: starEach es env := by intro _; rfl) : Ev c σ (.Call (.Name "_v" p) (e :: es) [] pos) (.flt (vF m1 m2 hue)) :=
  Ev.callF (d := dfn 6) hg hG.f6 rfl h (v_fn hG.f6 hG.c2 hG.c3) hk (by decide) he
end
local macro_rules | `(tactic| walk_at "h_call") => `(tactic| ((with_reducible refine' Ev.call_v ?a ?b ?d ?k (he := ?f)); (case a => walk_at "h_mem"); (case b => assumption); (case d => walk_at "h_evl"); (case k => simp only []; lia); (case f => intro _; rfl)))
def hlsm2 (l s : UInt64) : UInt64 := if flt l 0x3fe0000000000000 || Float64.cmp l 0x3fe0000000000000 == some .eq then Float64.mul l (Float64.add 0x3ff0000000000000 s) else Float64.sub (Float64.add l s) (Float64.mul l s)
def hlsF (h l s : UInt64) : D :=
  if Float64.cmp s 0 == some .eq then .tup [.flt l, .flt l, .flt l] else
    let m2 := hlsm2 l s
    let m1 := Float64.sub (Float64.mul 0x4000000000000000 l) m2
    .tup [.flt (vF m1 m2 (Float64.add h third)), .flt (vF m1 m2 h), .flt (vF m1 m2 (Float64.sub h third))]
theorem hls_fn {G : Glo} {h l s : UInt64} (hG : GOK G) : Fn G (dfn 5) 1 [.flt h, .flt l, .flt s] (hlsF h l s) := by
  refine Fn.body ["h", "l", "s"] ["m2", "m1"] ["h", "l", "s", "m2", "m1"] ["_v", "ONE_THIRD"] [.val (.flt h), .val (.flt l), .val (.flt s), .no, .no] hG.f5 rfl rfl ?_ rfl (by decide) (by decide) (by decide) (by decide) rfl rfl rfl ?_
  · intro vs pm code doc h
    obtain ⟨a, b, d, rfl⟩ := vlen3 h
    rfl
  · intro A env h₀ av
    have hG' := hG
    obtain ⟨⟩ := hG'
    conv => enter [3]; whnf
    walk_at "h_if" <;> intro h1
    · walk_at "h_ret"
      simp [hlsF, h1]
    refine XS.nil ?_
    walk_at "h_if" <;> intro h2
    · walk_at "h_asg"
      refine XS.nil ?_
      walk_at "h_asg"
      walk_at "h_ret"
      simp [hlsF, h1, h2, hlsm2, flt]
    · walk_at "h_asg"
      refine XS.nil ?_
      walk_at "h_asg"
      walk_at "h_ret"
      simp [hlsF, h1, h2, hlsm2, flt]
/-! F3 -/
def feq (a b : UInt64) : Bool := Float64.cmp a b == some .eq
def fle (a b : UInt64) : Bool := Float64.cmp a b == some .lt || Float64.cmp a b == some .eq
structure Rgb where
  maxc : UInt64
  minc : UInt64
def rgbL (maxc minc : UInt64) : UInt64 := Float64.div (Float64.add maxc minc) 0x4000000000000000
def rgbDen (maxc minc : UInt64) : UInt64 := if fle (rgbL maxc minc) 0x3fe0000000000000 then Float64.add maxc minc else Float64.sub (Float64.sub 0x4000000000000000 maxc) minc
def rgbS (maxc minc : UInt64) : UInt64 := Float64.div (Float64.sub maxc minc) (rgbDen maxc minc)
def rgbC (maxc minc x : UInt64) : UInt64 := Float64.div (Float64.sub maxc x) (Float64.sub maxc minc)
def rgbH0 (r g b maxc minc : UInt64) : UInt64 :=
  if feq r maxc then Float64.sub (rgbC maxc minc b) (rgbC maxc minc g)
  else if feq g maxc then Float64.sub (Float64.add 0x4000000000000000 (rgbC maxc minc r)) (rgbC maxc minc b)
  else Float64.sub (Float64.add 0x4010000000000000 (rgbC maxc minc g)) (rgbC maxc minc r)
def rgbH (r g b maxc minc : UInt64) : UInt64 := (Float64.divmod (Float64.div (rgbH0 r g b maxc minc) 0x4018000000000000) 0x3ff0000000000000).2
def fmax3 (r g b : UInt64) : UInt64 := mx (mx r g) b
def fmin3 (r g b : UInt64) : UInt64 := mn (mn r g) b
def rgbF (r g b : UInt64) : D := .tup [.flt (rgbH r g b (fmax3 r g b) (fmin3 r g b)), .flt (rgbL (fmax3 r g b) (fmin3 r g b)), .flt (rgbS (fmax3 r g b) (fmin3 r g b))]
theorem rgb_fn {G : Glo} {r g b : UInt64} (hG : GOK G) (h0 : feq (fmin3 r g b) (fmax3 r g b) = false) (h1 : Float64.isZero (Float64.sub (fmax3 r g b) (fmin3 r g b)) = false)
    (h2 : Float64.isZero (rgbDen (fmax3 r g b) (fmin3 r g b)) = false) : Fn G (dfn 4) 0 [.flt r, .flt g, .flt b] (rgbF r g b) := by
  refine Fn.body ["r", "g", "b"] ["maxc", "minc", "sumc", "rangec", "l", "s", "rc", "gc", "bc", "h"] ["r", "g", "b", "maxc", "minc", "sumc", "rangec", "l", "s", "rc", "gc", "bc", "h"] ["max", "min"] [.val (.flt r), .val (.flt g), .val (.flt b), .no, .no, .no, .no, .no, .no, .no, .no, .no, .no] hG.f4 rfl rfl ?_ rfl (by decide) (by decide) (by decide) (by decide) rfl rfl rfl ?_
  · intro vs pm code doc h
    obtain ⟨a, b, d, rfl⟩ := vlen3 h
    rfl
  · intro A env h₀ av
    have hG' := hG
    obtain ⟨⟩ := hG'
    conv => enter [3]; whnf
    unfold rgbF
    walk_at "h_asg"
    walk_at "h_asg"
    change XS _ [_, _, _, .val (.flt (fmax3 r g b)), .val (.flt (fmin3 r g b)), _, _, _, _, _, _, _, _] _ _ _
    generalize fmax3 r g b = maxc at *
    generalize fmin3 r g b = minc at *
    walk_at "h_asg"
    walk_at "h_asg"
    walk_at "h_asg"
    walk_at "h_if" <;> intro e1
    · exact absurd (h0.symm.trans e1) (by decide)
    refine XS.nil ?_
    have key : ∀ s', s' = rgbS maxc minc → XS ⟨G, A, env, h₀, ["r", "g", "b", "maxc", "minc", "sumc", "rangec", "l", "s", "rc", "gc", "bc", "h"], ["max", "min"], av, 0⟩
      [.val (.flt r), .val (.flt g), .val (.flt b), .val (.flt maxc), .val (.flt minc), .val (.flt (Float64.add maxc minc)), .val (.flt (Float64.sub maxc minc)), .val (.flt (rgbL maxc minc)), .val (.flt s'), .no, .no, .no, .no]
      ((dfn 4).body.drop 7) (fun _ => False) (fun _ d => d = .tup [.flt (rgbH r g b maxc minc), .flt (rgbL maxc minc), .flt (rgbS maxc minc)]) := by
      intro s' hs
      conv => enter [3]; whnf
      walk_at "h_asg"
      walk_at "h_asg"
      walk_at "h_asg"
      have k2 : ∀ h0, h0 = rgbH0 r g b maxc minc → XS ⟨G, A, env, h₀, ["r", "g", "b", "maxc", "minc", "sumc", "rangec", "l", "s", "rc", "gc", "bc", "h"], ["max", "min"], av, 0⟩
        [.val (.flt r), .val (.flt g), .val (.flt b), .val (.flt maxc), .val (.flt minc), .val (.flt (Float64.add maxc minc)), .val (.flt (Float64.sub maxc minc)), .val (.flt (rgbL maxc minc)), .val (.flt s'), .val (.flt (rgbC maxc minc r)), .val (.flt (rgbC maxc minc g)), .val (.flt (rgbC maxc minc b)), .val (.flt h0)]
        ((dfn 4).body.drop 11) (fun _ => False) (fun _ d => d = .tup [.flt (rgbH r g b maxc minc), .flt (rgbL maxc minc), .flt (rgbS maxc minc)]) := by
        intro h0 hh
        conv => enter [3]; whnf
        walk_at "h_asg"
        walk_at "h_ret"
        rw [hs, hh, rgbH]
      walk_at "h_if" <;> intro e3
      · walk_at "h_asg"
        refine XS.nil ?_
        exact k2 _ (by simp [rgbH0, feq, e3, rgbC])
      · walk_at "h_if" <;> intro e4
        · walk_at "h_asg"
          refine XS.nil (XS.nil ?_)
          exact k2 _ (by simp [rgbH0, feq, e3, e4, rgbC])
        · walk_at "h_asg"
          refine XS.nil (XS.nil ?_)
          exact k2 _ (by simp [rgbH0, feq, e3, e4, rgbC])
    walk_at "h_if" <;> intro e2
    · have e : rgbDen maxc minc = Float64.add maxc minc := by simp [rgbDen, fle, rgbL, e2]
      rw [e] at h2
      walk_at "h_asg"
      refine XS.nil ?_
      exact key _ (by rw [rgbS, e])
    · have e : rgbDen maxc minc = Float64.sub (Float64.sub 0x4000000000000000 maxc) minc := by simp [rgbDen, fle, rgbL, e2]
      rw [e] at h2
      walk_at "h_asg"
      refine XS.nil ?_
      exact key _ (by rw [rgbS, e])
section
variable {c : Cx} {σ : Sig}
theorem Ev.call_rgb {e : Expr} {es : List Expr} {p pos : Pos} {r g b : UInt64} (hg : ("rgb_to_hls" : Str) ∈ c.gnames) (hG : GOK c.G) (h : EvL c σ pos (e :: es) [.flt r, .flt g, .flt b]) (hk : 0 < c.room)
    (h0 : feq (fmin3 r g b) (fmax3 r g b) = false) (h1 : Float64.isZero (Float64.sub (fmax3 r g b) (fmin3 r g b)) = false)
    (h2 : Float64.isZero (rgbDen (fmax3 r g b) (fmin3 r g b)) = false)
    (he : ∀ env, starEach (e :: es) env = (false, eval e env) :: starEach es env := by intro _; rfl) : Ev c σ (.Call (.Name "rgb_to_hls" p) (e :: es) [] pos) (rgbF r g b) :=
  Ev.callF (d := dfn 4) hg hG.f4 rfl h (rgb_fn hG h0 h1 h2) hk (by decide) he
theorem Ev.call_hls {e : Expr} {es : List Expr} {p pos : Pos} {x l s : UInt64} (hg : ("hls_to_rgb" : Str) ∈ c.gnames) (hG : GOK c.G) (h : EvL c σ pos (e :: es) [.flt x, .flt l, .flt s]) (hk : 1 < c.room)
    (he : ∀ env, starEach (e :: es) env = (false, eval e env) :: starEach es env := by intro _; rfl) : Ev c σ (.Call (.Name "hls_to_rgb" p) (e :: es) [] pos) (hlsF x l s) :=
  Ev.callF (d := dfn 5) hg hG.f5 rfl h (hls_fn hG) hk (by decide) he
end
local macro_rules | `(tactic| walk_at "h_call") => `(tactic| ((with_reducible refine' Ev.call_hls ?a ?b ?d ?k (he := ?f)); (case a => walk_at "h_mem"); (case b => assumption); (case d => walk_at "h_evl"); (case k => simp only []; lia); (case f => intro _; rfl)))
local macro_rules | `(tactic| walk_at "h_call") => `(tactic| ((with_reducible refine' Ev.call_rgb ?a ?b ?d ?k ?x ?y ?z (he := ?f)); (case a => walk_at "h_mem"); (case b => assumption); (case d => walk_at "h_evl"); (case k => simp only []; lia); (case f => intro _; rfl); all_goals assumption))
/-! F4 -/
theorem term_fn {G : Glo} {x : Int} (hf : dfn 67 ∈ G.fns) (hc : (("NT_OFFSET" : Str), D.int 256) ∈ G.consts) : Fn G (dfn 67) 0 [.int x] (.bool (decide (x < 256))) := by
  refine Fn.body ["x"] [] ["x"] ["NT_OFFSET"] [.val (.int x)] hf rfl rfl ?_ rfl (by decide) (by decide) (by decide) (by decide) rfl rfl rfl ?_
  · intro vs pm code doc h
    obtain ⟨a, rfl⟩ := vlen1 h
    rfl
  · intro A env h₀ av
    conv => enter [3]; whnf
    walk_at "h_ret"
    rfl
theorem nonterm_fn {G : Glo} {x : Int} (hf : dfn 68 ∈ G.fns) (hc : (("NT_OFFSET" : Str), D.int 256) ∈ G.consts) : Fn G (dfn 68) 0 [.int x] (.bool (decide (x ≥ 256))) := by
  refine Fn.body ["x"] [] ["x"] ["NT_OFFSET"] [.val (.int x)] hf rfl rfl ?_ rfl (by decide) (by decide) (by decide) (by decide) rfl rfl rfl ?_
  · intro vs pm code doc h
    obtain ⟨a, rfl⟩ := vlen1 h
    rfl
  · intro A env h₀ av
    conv => enter [3]; whnf
    walk_at "h_ret"
    rfl
theorem eof_fn {G : Glo} {x : Int} (hf : dfn 69 ∈ G.fns) (hc : (("ENDMARKER" : Str), D.int 0) ∈ G.consts) : Fn G (dfn 69) 0 [.int x] (.bool (x == 0)) := by
  refine Fn.body ["x"] [] ["x"] ["ENDMARKER"] [.val (.int x)] hf rfl rfl ?_ rfl (by decide) (by decide) (by decide) (by decide) rfl rfl rfl ?_
  · intro vs pm code doc h
    obtain ⟨a, rfl⟩ := vlen1 h
    rfl
  · intro A env h₀ av
    conv => enter [3]; whnf
    walk_at "h_ret"
    rfl
section
variable {c : Cx} {σ : Sig}
theorem Ev.call_term {e : Expr} {es : List Expr} {p pos : Pos} {x : Int} (hg : ("ISTERMINAL" : Str) ∈ c.gnames) (hf : dfn 67 ∈ c.G.fns) (hc : (("NT_OFFSET" : Str), D.int 256) ∈ c.G.consts) (h : EvL c σ pos (e :: es) [.int x]) (hk : 0 < c.room)
    (he : ∀ env, starEach (e :: es) env = (false, eval e env) :: starEach es env := by intro _; rfl) : Ev c σ (.Call (.Name "ISTERMINAL" p) (e :: es) [] pos) (.bool (decide (x < 256))) :=
  Ev.callF (d := dfn 67) hg hf rfl h (term_fn hf hc) hk (by decide) he
theorem Ev.call_nonterm {e : Expr} {es : List Expr} {p pos : Pos} {x : Int} (hg : ("ISNONTERMINAL" : Str) ∈ c.gnames) (hf : dfn 68 ∈ c.G.fns) (hc : (("NT_OFFSET" : Str), D.int 256) ∈ c.G.consts) (h : EvL c σ pos (e :: es) [.int x]) (hk : 0 < c.room)
    (he : ∀ env, starEach (e :: es) env = (false, eval e env) :: starEach es env := by intro _; rfl) : Ev c σ (.Call (.Name "ISNONTERMINAL" p) (e :: es) [] pos) (.bool (decide (x ≥ 256))) :=
  Ev.callF (d := dfn 68) hg hf rfl h (nonterm_fn hf hc) hk (by decide) he
theorem Ev.call_eof {e : Expr} {es : List Expr} {p pos : Pos} {x : Int} (hg : ("ISEOF" : Str) ∈ c.gnames) (hf : dfn 69 ∈ c.G.fns) (hc : (("ENDMARKER" : Str), D.int 0) ∈ c.G.consts) (h : EvL c σ pos (e :: es) [.int x]) (hk : 0 < c.room)
    (he : ∀ env, starEach (e :: es) env = (false, eval e env) :: starEach es env := by intro _; rfl) : Ev c σ (.Call (.Name "ISEOF" p) (e :: es) [] pos) (.bool (x == 0)) :=
  Ev.callF (d := dfn 69) hg hf rfl h (eof_fn hf hc) hk (by decide) he
end
local macro_rules | `(tactic| walk_at "h_call") => `(tactic| ((with_reducible refine' Ev.call_term ?a ?b ?d ?e ?k (he := ?f)); (case a => walk_at "h_mem"); (case b => assumption); (case d => assumption); (case e => walk_at "h_evl"); (case k => simp only []; lia); (case f => intro _; rfl)))
local macro_rules | `(tactic| walk_at "h_call") => `(tactic| ((with_reducible refine' Ev.call_nonterm ?a ?b ?d ?e ?k (he := ?f)); (case a => walk_at "h_mem"); (case b => assumption); (case d => assumption); (case e => walk_at "h_evl"); (case k => simp only []; lia); (case f => intro _; rfl)))
local macro_rules | `(tactic| walk_at "h_call") => `(tactic| ((with_reducible refine' Ev.call_eof ?a ?b ?d ?e ?k (he := ?f)); (case a => walk_at "h_mem"); (case b => assumption); (case d => assumption); (case e => walk_at "h_evl"); (case k => simp only []; lia); (case f => intro _; rfl)))
/-! F5 -/
section
variable {c : Cx} {σ : Sig}
def Has (c : Cx) (σ : Sig) (x : Str) (ca : Addr) (d : D) : Prop := Look c.names σ x (.cell ca d) ∨ Look c.names σ x (.free ca d)
theorem R.has {Z : Led} {h : Heap} {x : Str} {ca : Addr} {d : D} (r : R c σ Z h) (hl : Has c σ x ca d) : CellAt Z ca d := by
  obtain ⟨m, F, l⟩ := r.fr
  rcases hl with hl | hl
  · exact (l _ _ hl).2.2
  · exact (l _ _ hl).2.2
theorem intsD_get {ds : List Int} {i : Nat} (h : i < ds.length) : (intsD ds)[i]? = some (.int ds[i]) := by simp [intsD, h]
theorem seg_bound {n : Nat} {ds : List Int} (h : ∀ d ∈ ds, 0 ≤ d ∧ d < 2 ^ n) : 0 ≤ dval n ds ∧ dval n ds < 2 ^ (n * ds.length) := by
  induction ds with
  | nil => simp [dval]
  | cons d ds ih =>
    have h1 := h d (.head _)
    have h2 := ih fun d hd => h d (.tail _ hd)
    have e2 : (2 : Int) ^ (n * (ds.length + 1)) = 2 ^ n * 2 ^ (n * ds.length) := by rw [Nat.mul_succ, Nat.add_comm, Int.pow_add]
    rw [dval, List.length_cons, e2]
    have p := p2 n
    constructor
    · exact Int.add_nonneg h1.1 (Int.mul_nonneg (Int.le_of_lt p) h2.1)
    · have : 2 ^ n * (dval n ds + 1) ≤ 2 ^ n * 2 ^ (n * ds.length) := Int.mul_le_mul_of_nonneg_left (by lia) (Int.le_of_lt p)
      rw [Int.mul_add] at this
      lia
theorem pow_le62 {k : Nat} (h : k ≤ 62) : (2 : Int) ^ k ≤ 2 ^ 62 := by exact_mod_cast Nat.pow_le_pow_right (n := 2) (by decide) h
theorem d2i_inner (n : Nat) (ds : List Int) (hd : ∀ d ∈ ds, 0 ≤ d ∧ d < 2 ^ n) (hn : n * ds.length ≤ 62) (hn1 : 1 ≤ n) {qual : Str} {clos : List (Str × Addr)} {cd cn ci fa : Addr} (l1 : clos.lookup ("digits" : Str) = some cd) (l2 : clos.lookup ("n" : Str) = some cn) (l3 : clos.lookup ("inner" : Str) = some ci) :
    ∀ (m : Nat) (c : Cx) (σ : Sig) (s : Shared) (Z : Led) (vs : List Value) (L : Nat) (Q : Value → Shared → Prop) (E : Value → Shared → Prop), 1 ≤ m → L + m ≤ ds.length → m ≤ c.room → ("digits" : Str) ∈ c.names →
      Has c σ "digits" cd (.lst (intsD ds)) → Has c σ "n" cn (.int n) → Look c.names σ "inner" (.cfun ci fa (inn 12 0) qual clos) → R c σ Z s.heap → DAll Z vs [.int L, .int (L + m)] →
      (∀ h' tk' Z' v, R c σ Z' h' → Sub Z Z' → DIn Z' v (.int (dval n ((ds.drop L).take m))) → Q v { s with heap := h', toks := tk' }) → wpAny c.M c.A (call (.ref fa) vs) Q E s := by
  have hlen : ds.length ≤ 62 := Nat.le_trans (Nat.le_mul_of_pos_left _ hn1) hn
  intro m
  induction m using Nat.strongRecOn with
  | ind m ih =>
  intro c σ s Z vs L Q E hm hL hr hx hdg hnn hin r i q
  have hco : ∃ co, (ci, co) ∈ Z ∧ co.data = .cell (some (.ref fa)) := let ⟨m, F, l⟩ := r.fr; (l _ _ hin).2.2.1
  refine Clo.call (d := inn 12 0) (k := m - 1) (hid := []) (pn := ["L", "R"]) (rest := ["mid", "shift"]) (fns := ["digits", "n", "inner"]) (gnames := []) (fσ := [.free cd (.lst (intsD ds)), .free cn (.int n), .cfun ci fa (inn 12 0) qual clos]) (Nn := fun _ => False)
    (Rt := fun _ d => d = .int (dval n ((ds.drop L).take m))) r (r.cfun hin).1 i (by lia) .nil (fun b hb => absurd hb List.not_mem_nil) (fun b hb => absurd hb List.not_mem_nil) ?_ rfl (by decide) (by decide) (by decide) (by decide) (by decide) rfl rfl rfl (fun x sl hl => ?_) (fun x sl a hl ha => ?_) (fun x y s t a hx hy hne hs => ?_) ?_
    (fun cd σ₁ h' tk' Z' hf => hf.elim) fun cd σ₁ h' tk' Z' v dd hdd r' z i' => ?_
  · intro vs pm doc cd ctv h
    obtain ⟨a, b, rfl⟩ := vlen2 h
    rfl
  · cases hl with
    | head => exact ⟨l1, r.has hdg⟩
    | tail hl =>
      cases hl with
      | head => exact ⟨l2, r.has hnn⟩
      | tail hl =>
        cases hl with
        | head => exact ⟨l3, hco, (r.cfun hin).1⟩
        | tail hl => cases hl
  · cases hl with
    | head => cases ha
    | tail hl =>
      cases hl with
      | head => cases ha
      | tail hl =>
        cases hl with
        | head => cases ha
        | tail hl => cases hl
  · exfalso
    cases hx with
    | head => cases hs
    | tail hl =>
      cases hl with
      | head => cases hs
      | tail hl =>
        cases hl with
        | head => cases hs
        | tail hl => cases hl
  · rintro ⟨G, A, env, h₀, names, gnames, av, room⟩ e1 e2 e3 e4
    simp only at e1 e2 e3 e4
    subst e1 e2 e3 e4
    conv => enter [3]; whnf
    change XS ⟨_, _, _, _, ["L", "R", "mid", "shift", "digits", "n", "inner"], _, _, _⟩ [.val (.int L), .val (.int (L + m)), .no, .no, .free cd (.lst (intsD ds)), .free cn (.int n), .cfun ci fa (inn 12 0) qual clos] _ _ _
    have n62 : (n : Int) ≤ 62 := by
      have : n * 1 ≤ n * ds.length := Nat.mul_le_mul_left _ (by lia)
      lia
    walk_at "h_if" <;> intro h1
    · have hm1 : m = 1 := by
        have : (L : Int) + 1 = L + m := by simpa using h1
        lia
      subst hm1
      have hLd : L < ds.length := by lia
      have eL : (intsD ds)[(L : Int).toNat]? = some (.int ds[L]) := intsD_get hLd
      refine XS.cons (X.ret (Ev.sub (Ev.free (by walk_at "h_look")) (Ev.name (by walk_at "h_look")) (Seqs.lst _) (itemL (by lia) (by lia) eL)) ?_)
      have e : (ds.drop L).take 1 = [ds[L]] := by rw [List.drop_eq_getElem_cons hLd]; rfl
      rw [e]
      simp [dval]
    · refine XS.nil ?_
      have hm2 : 2 ≤ m := by
        have : ¬ ((L : Int) + 1 = L + m) := by simpa using h1
        lia
      have hb := fun (j k : Nat) (hj : j + k ≤ ds.length) => seg_bound (n := n) (ds := (ds.drop j).take k) fun d hd' => hd d (List.mem_of_mem_drop (List.mem_of_mem_take hd'))
      have em : ((L : Int) + (L + m)).fdiv (2 ^ (1 : Int).toNat) = ((L + m / 2 : Nat) : Int) := by
        rw [show (2 : Int) ^ (1 : Int).toNat = 2 from rfl, Int.fdiv_eq_ediv_of_nonneg _ (by decide)]
        lia
      have es : (((L + m / 2 : Nat) : Int) - L) * n = ((n * (m / 2) : Nat) : Int) := by
        rw [show ((L + m / 2 : Nat) : Int) - L = ((m / 2 : Nat) : Int) by lia, Int.mul_comm]; rfl
      have hk : n * (m / 2) ≤ 62 := Nat.le_trans (Nat.mul_le_mul_left _ (by lia)) hn
      have hup : (dval n ((ds.drop (L + m / 2)).take (m - m / 2))).natAbs < 2 ^ 64 := by
        have h3 := hb (L + m / 2) (m - m / 2) (by lia)
        have h4 : (2 : Int) ^ (n * ((ds.drop (L + m / 2)).take (m - m / 2)).length) ≤ 2 ^ 62 := pow_le62 (Nat.le_trans (Nat.mul_le_mul_left _ (by rw [List.length_take, List.length_drop]; lia)) hn)
        lia
      walk_at "h_asg"
      rw [em]
      walk_at "h_asg"
      rw [es]
      refine XS.cons (X.ret (Ev.bin (d1 := .int (dval n ((ds.drop (L + m / 2)).take (m - m / 2)) * 2 ^ (((n * (m / 2) : Nat) : Int)).toNat)) (d2 := .int (dval n ((ds.drop L).take (m / 2)))) (Ev.bin (d1 := .int (dval n ((ds.drop (L + m / 2)).take (m - m / 2)))) (d2 := .int ((n * (m / 2) : Nat) : Int)) (Ev.callClo (ds := [.int ((L + m / 2 : Nat) : Int), .int (L + m)]) (by walk_at "h_look") (by walk_at "h_evl") ?_) (Ev.name (by walk_at "h_look")) (shlII (by lia) (by lia) hup)) (Ev.callClo (ds := [.int L, .int ((L + m / 2 : Nat) : Int)]) (by walk_at "h_look") (by walk_at "h_evl") ?_) addII) ?_)
      · intro s Z vs Q E r i k
        exact ih (m - m / 2) (by lia) _ _ s Z vs (L + m / 2) Q E (by lia) (by lia) (by show m - m / 2 ≤ m - 1; lia) (by simp) (.inr (by walk_at "h_look")) (.inr (by walk_at "h_look")) (by walk_at "h_look") r (by rw [show ((L + m / 2 : Nat) : Int) + ((m - m / 2 : Nat) : Int) = L + m by lia]; exact i) k
      · intro s Z vs Q E r i k
        exact ih (m / 2) (by lia) _ _ s Z vs L Q E (by lia) (by lia) (by show m / 2 ≤ m - 1; lia) (by simp) (.inr (by walk_at "h_look")) (.inr (by walk_at "h_look")) (by walk_at "h_look") r (by rw [show ((L : Nat) : Int) + ((m / 2 : Nat) : Int) = ((L + m / 2 : Nat) : Int) by lia]; exact i) k
      · have e1 : (ds.drop L).take m = (ds.drop L).take (m / 2) ++ (ds.drop (L + m / 2)).take (m - m / 2) := by
          have : m = m / 2 + (m - m / 2) := by lia
          conv => lhs; rw [this, List.take_add, List.drop_drop]
        have e2 : ((ds.drop L).take (m / 2)).length = m / 2 := by rw [List.length_take, List.length_drop]; lia
        rw [e1, dval_app, e2, Int.toNat_natCast, Int.add_comm, Int.mul_comm]
  · subst hdd
    exact q _ _ _ _ (r.back rfl r' z) z i'
end
theorem d2i_fn {G : Glo} {n : Nat} {ds : List Int} (hG : GOK G) (hd : ∀ d ∈ ds, 0 ≤ d ∧ d < 2 ^ n) (hn : n * ds.length ≤ 62) (hn1 : 1 ≤ n) : Fn G (dfn 12) (ds.length + 1) [.lst (intsD ds), .int n] (.int (dval n ds)) := by
  obtain ⟨cc, P, ht⟩ := hG.t2
  have hlen : ds.length ≤ 62 := Nat.le_trans (Nat.le_mul_of_pos_left _ hn1) hn
  refine Fn.of_cells (t := ⟨dfn 12, cc, P, (inn 12 0).pos, "_digits2int.<locals>.inner"⟩) (.inr ht.symm) (pn := ["digits", "n"]) (names := ["digits", "n", "inner"]) (gnames := ["len"]) (fun L => [.cell (L + 1) (.lst (intsD ds)), .cell (L + 2) (.int n), .ucell (L + 3)]) ?_ (by decide) rfl ?_ ?_ rfl rfl rfl ?_
  · intro vs pm code doc h
    obtain ⟨a, b, rfl⟩ := vlen2 h
    rfl
  · intro L x hx
    rcases List.mem_cons.mp hx with rfl | hx
    · exact .inr ⟨rfl, rfl⟩
    · rw [List.mem_singleton.mp hx]; exact .inr ⟨rfl, rfl⟩
  · intro L vs x sl hv hl
    obtain ⟨a, b, rfl⟩ := vlen2 hv
    cases hl with
    | head => exact ⟨rfl, rfl, a, rfl, .head _⟩
    | tail hl =>
      cases hl with
      | head => exact ⟨rfl, rfl, b, rfl, .tail _ (.head _)⟩
      | tail hl =>
        cases hl with
        | head => exact ⟨rfl, rfl, rfl⟩
        | tail hl => cases hl
  · rintro ⟨G', A, env, h₀, names, gnames, av, room⟩ L a e1 e2 e3 e4 e5
    simp only at e1 e2 e3 e4 e5
    subst e1 e2 e3 e4 e5
    obtain ⟨⟩ := hG
    conv => enter [3]; whnf
    refine XS.cons (X.nest (t := ⟨dfn 12, cc, P, (inn 12 0).pos, "_digits2int.<locals>.inner"⟩) (clos := [("n", L + 2), ("inner", L + 3), ("digits", L + 1)]) (ca := L + 3) (.inr ht.symm) rfl rfl rfl rfl rfl rfl rfl ?_)
    intro fa
    refine ⟨_, by walk_at "h_put", ?_⟩
    refine XS.cons (X.ret (d := .int (dval n ds)) (Ev.ifExp (b := !(intsD ds).isEmpty) (Tst.lst (Ev.cell (by walk_at "h_look")) (by simp [intsD]; lia)) (fun h1 => ?_) fun h1 => ?_) rfl)
    · refine Ev.callClo (ds := [.int (0 : Nat), .int ds.length]) (by walk_at "h_look") (EvL.cons Ev.constI (EvL.cons (Ev.conv (Ev.callB (by walk_at "h_mem") (by assumption) (EvL.cons (Ev.cell (by walk_at "h_look")) EvL.nil) (lenL (by simp [intsD]; lia))) (by simp [intsD])) EvL.nil)) ?_
      intro s Z vs Q E r i k
      have h2 : 1 ≤ ds.length := by cases ds with
        | nil => cases h1
        | cons d ds => simp
      refine d2i_inner n ds hd hn hn1 (qual := "_digits2int.<locals>.inner") (clos := [("n", L + 2), ("inner", L + 3), ("digits", L + 1)]) (cd := L + 1) (cn := L + 2) (ci := L + 3) rfl rfl rfl ds.length _ _ s Z vs 0 Q E h2 (by lia) (Nat.le_succ _) (by simp) (.inl (by walk_at "h_look")) (.inl (by walk_at "h_look")) (.tail (.tail .head)) r (by rw [show ((0 : Nat) : Int) + (ds.length : Int) = ds.length by lia]; exact i) (fun h' tk' Z' v r z i => k h' tk' Z' v r z (by simpa using i))
    · have h2 : ds = [] := by cases ds with
        | nil => rfl
        | cons d ds => cases h1
      subst h2
      exact Ev.constI
section
variable {c : Cx} {σ : Sig}
theorem Ev.call_d2i {e : Expr} {es : List Expr} {p pos : Pos} {n : Nat} {ds : List Int} (hg : ("_digits2int" : Str) ∈ c.gnames) (hG : GOK c.G) (h : EvL c σ pos (e :: es) [.lst (intsD ds), .int n]) (hk : ds.length + 1 < c.room)
    (hd : ∀ d ∈ ds, 0 ≤ d ∧ d < 2 ^ n) (hn : n * ds.length ≤ 62) (hn1 : 1 ≤ n)
    (he : ∀ env, starEach (e :: es) env = (false, eval e env) :: starEach es env := by intro _; rfl) : Ev c σ (.Call (.Name "_digits2int" p) (e :: es) [] pos) (.int (dval n ds)) :=
  Ev.callF (d := dfn 12) hg hG.f12 rfl h (d2i_fn hG hd hn hn1) hk (by decide) he
end
/-! F6 -/
def upd (ys : List Int) (L : Nat) (zs : List Int) : List Int := ys.take L ++ (zs ++ ys.drop (L + zs.length))
theorem upd_length {ys zs : List Int} {L : Nat} (h : L + zs.length ≤ ys.length) : (upd ys L zs).length = ys.length := by simp [upd]; lia
theorem upd_one {ys : List Int} {L : Nat} {x : Int} (h : L < ys.length) : upd ys L [x] = ys.set L x := by
  rw [List.set_eq_take_append_cons_drop, if_pos h]; rfl
theorem upd_upd {ys z1 z2 : List Int} {L : Nat} (h : L + z1.length + z2.length ≤ ys.length) : upd (upd ys L z1) (L + z1.length) z2 = upd ys L (z1 ++ z2) := by
  have e1 : (upd ys L z1).take (L + z1.length) = ys.take L ++ z1 := by
    unfold upd
    rw [← List.append_assoc, List.take_append_of_le_length (by simp; lia), List.take_of_length_le (by simp; lia)]
  have e2 : (upd ys L z1).drop (L + z1.length + z2.length) = ys.drop (L + z1.length + z2.length) := by
    unfold upd
    rw [← List.append_assoc, List.drop_append, List.drop_of_length_le (by simp; lia), List.nil_append, List.drop_drop]
    congr 1
    simp; lia
  rw [show upd (upd ys L z1) (L + z1.length) z2 = (upd ys L z1).take (L + z1.length) ++ (z2 ++ (upd ys L z1).drop (L + z1.length + z2.length)) from rfl, e1, e2]
  simp [upd, Nat.add_assoc]
theorem intsD_set {ys : List Int} {L : Nat} {x : Int} : intsD (ys.set L x) = (intsD ys).set L (.int x) := by simp [intsD, List.map_set]
theorem pow_lt_of {n k : Nat} {x : Int} (h : x < 2 ^ (n * k)) (hk : n * k ≤ 62) : x < 2 ^ 62 := Int.lt_of_lt_of_le h (pow_le62 hk)
theorem i2d_inner (n : Nat) (hn1 : 1 ≤ n) {qual : Str} {clos : List (Str × Addr)} {cd cn ci fa : Addr} (l1 : clos.lookup ("a_digits" : Str) = some cd) (l2 : clos.lookup ("n" : Str) = some cn) (l3 : clos.lookup ("inner" : Str) = some ci) :
    ∀ (m : Nat) (c : Cx) (σ : Sig) (s : Shared) (Z : Led) (vs : List Value) (x : Int) (L : Nat) (a : Addr) (vl : List Value) (nl : Nat) (ys : List Int) (Q : Value → Shared → Prop) (E : Value → Shared → Prop), 1 ≤ m → L + m ≤ ys.length → n * ys.length ≤ 62 → m ≤ c.room → 0 ≤ x → x < 2 ^ (n * m) →
      Look c.names σ "a_digits" (.cown cd a vl nl (intsD ys)) → Has c σ "n" cn (.int n) → Look c.names σ "inner" (.cfun ci fa (inn 11 1) qual clos) → R c σ Z s.heap → DAll Z vs [.int x, .int L, .int (L + m)] →
      (∀ h' tk' Z' vl' nl' σ', Put c.names σ "a_digits" (.cown cd a vl nl (intsD ys)) (.cown cd a vl' nl' (intsD (upd ys L (digs n m x)))) σ' → R c σ' Z' h' → Sub Z Z' → Q .none { s with heap := h', toks := tk' }) → wpAny c.M c.A (call (.ref fa) vs) Q E s := by
  intro m
  induction m using Nat.strongRecOn with
  | ind m ih =>
  intro c σ s Z vs x L a vl nl ys Q E hm hL hn hr hx0 hx1 hdg hnn hin r i q
  have hlen : ys.length ≤ 62 := Nat.le_trans (Nat.le_mul_of_pos_left _ hn1) hn
  have hco : ∃ co, (ci, co) ∈ Z ∧ co.data = .cell (some (.ref fa)) := let ⟨m, F, l⟩ := r.fr; (l _ _ hin).2.2.1
  have hca : ∃ co, (cd, co) ∈ Z ∧ co.data = .cell (some (.ref a)) := let ⟨m, F, l⟩ := r.fr; (l _ _ hdg).2.2.1
  have how := r.ow _ _ _ hdg rfl
  have hal := r.addr_lt hdg (a := a) rfl
  have fin : ∀ cdv σ₁ h' tk' Z', (∃ vl' nl', Look ["x", "L", "R", "mid", "shift", "upper", "lower", "a_digits", "n", "inner"] σ₁ "a_digits" (.cown cd a vl' nl' (intsD (upd ys L (digs n m x))))) →
      R (c.sub s.heap Z (envX qual (inn 11 1).scope s.heap.objs.size fa cdv clos) [a] ["x", "L", "R", "mid", "shift", "upper", "lower", "a_digits", "n", "inner"] [] (m - 1)) σ₁ Z' h' → Sub Z Z' → Q .none { s with heap := h', toks := tk' } := by
    rintro cdv σ₁ h' tk' Z' ⟨vl', nl', hk⟩ r' z
    obtain ⟨σ', hp⟩ := hdg.put (.cown cd a vl' nl' (intsD (upd ys L (digs n m x))))
    exact q _ _ _ _ _ _ hp (r.back1 hp rfl r' hk z) z
  refine Clo.call (d := inn 11 1) (k := m - 1) (hid := [a]) (pn := ["x", "L", "R"]) (rest := ["mid", "shift", "upper", "lower"]) (fns := ["a_digits", "n", "inner"]) (gnames := []) (fσ := [.cown cd a vl nl (intsD ys), .free cn (.int n), .cfun ci fa (inn 11 1) qual clos])
    (Nn := fun σ₁ => ∃ vl' nl', Look ["x", "L", "R", "mid", "shift", "upper", "lower", "a_digits", "n", "inner"] σ₁ "a_digits" (.cown cd a vl' nl' (intsD (upd ys L (digs n m x)))))
    (Rt := fun σ₁ d => d = .none ∧ ∃ vl' nl', Look ["x", "L", "R", "mid", "shift", "upper", "lower", "a_digits", "n", "inner"] σ₁ "a_digits" (.cown cd a vl' nl' (intsD (upd ys L (digs n m x)))))
    r (r.cfun hin).1 i (by lia) (fun b hb => by rw [List.mem_singleton.mp hb]; exact how.1) (fun b hb => by rw [List.mem_singleton.mp hb]; exact how.2.2) (fun b hb => by rw [List.mem_singleton.mp hb]; exact hal) ?_ rfl (by decide) (by decide) (by decide) (by decide) (by decide) rfl rfl rfl (fun x sl hl => ?_) (fun x sl a hl ha => ?_) (fun x y s t a hx hy hne hs => ?_) ?_
    (fun cd σ₁ h' tk' Z' hf r' z => fin _ _ _ _ _ hf r' z) fun cd σ₁ h' tk' Z' v dd hdd r' z i' => ?_
  · intro vs pm doc cd ctv h
    obtain ⟨a, b, d, rfl⟩ := vlen3 h
    rfl
  · cases hl with
    | head => exact ⟨l1, hca, (r.cown hdg).1, (r.cown hdg).2⟩
    | tail hl =>
      cases hl with
      | head => exact ⟨l2, r.has hnn⟩
      | tail hl =>
        cases hl with
        | head => exact ⟨l3, hco, (r.cfun hin).1⟩
        | tail hl => cases hl
  · cases hl with
    | head => cases ha; exact .head _
    | tail hl =>
      cases hl with
      | head => cases ha
      | tail hl =>
        cases hl with
        | head => cases ha
        | tail hl => cases hl
  · cases hx with
    | head =>
      cases hy with
      | head => exact absurd rfl hne
      | tail hl =>
        cases hl with
        | head => exact fun e => nomatch e
        | tail hl =>
          cases hl with
          | head => exact fun e => nomatch e
          | tail hl => cases hl
    | tail hl =>
      cases hl with
      | head => cases hs
      | tail hl =>
        cases hl with
        | head => cases hs
        | tail hl => cases hl
  · rintro ⟨G, A, env, h₀, names, gnames, av, room⟩ e1 e2 e3 e4
    simp only at e1 e2 e3 e4
    subst e1 e2 e3 e4
    conv => enter [3]; whnf
    change XS ⟨_, _, _, _, ["x", "L", "R", "mid", "shift", "upper", "lower", "a_digits", "n", "inner"], _, _, _⟩ [.val (.int x), .val (.int L), .val (.int (L + m)), .no, .no, .no, .no, .cown cd a vl nl (intsD ys), .free cn (.int n), .cfun ci fa (inn 11 1) qual clos] _ _ _
    have n62 : (n : Int) ≤ 62 := by
      have : n * 1 ≤ n * ys.length := Nat.mul_le_mul_left _ (by lia)
      lia
    walk_at "h_if" <;> intro h1
    · have hm1 : m = 1 := by
        have : (L : Int) + 1 = L + m := by simpa using h1
        lia
      subst hm1
      have hLd : L < ys.length := by lia
      refine XS.cons (X.cellItem (i := L) (Ev.name (by walk_at "h_look")) (by walk_at "h_look") (Ev.name (by walk_at "h_look")) (by lia) (by simp [intsD]; lia) (by simp [intsD]; lia) fun vl' nl' => ⟨_, by walk_at "h_put", ?_⟩)
      refine XS.cons (X.ret0 ⟨rfl, vl', nl', ?_⟩)
      have e : intsD (upd ys L (digs n 1 x)) = (intsD ys).set L (.int x) := by
        have : digs n 1 x = [x] := by
          rw [Nat.mul_one] at hx1
          simp [digs, Int.emod_eq_of_lt hx0 hx1]
        rw [this, upd_one hLd, intsD_set]
      rw [e]
      exact .tail (.tail (.tail (.tail (.tail (.tail (.tail .head))))))
    · refine XS.nil ?_
      have hm2 : 2 ≤ m := by
        have : ¬ ((L : Int) + 1 = L + m) := by simpa using h1
        lia
      have em : ((L : Int) + (L + m)).fdiv (2 ^ (1 : Int).toNat) = ((L + m / 2 : Nat) : Int) := by
        rw [show (2 : Int) ^ (1 : Int).toNat = 2 from rfl, Int.fdiv_eq_ediv_of_nonneg _ (by decide)]
        lia
      have es : (((L + m / 2 : Nat) : Int) - L) * n = ((n * (m / 2) : Nat) : Int) := by
        rw [show ((L + m / 2 : Nat) : Int) - L = ((m / 2 : Nat) : Int) by lia, Int.mul_comm]; rfl
      have hk : n * (m / 2) ≤ 62 := Nat.le_trans (Nat.mul_le_mul_left _ (by lia)) hn
      have hk2 : n * (m - m / 2) ≤ 62 := Nat.le_trans (Nat.mul_le_mul_left _ (by lia)) hn
      have eu : x.fdiv (2 ^ (((n * (m / 2) : Nat) : Int)).toNat) = x / 2 ^ (n * (m / 2)) := by
        rw [Int.toNat_natCast, Int.fdiv_eq_ediv_of_nonneg _ (Int.le_of_lt (p2 _))]
      have el : Builtin.bitXor x (x / 2 ^ (n * (m / 2)) * 2 ^ (((n * (m / 2) : Nat) : Int)).toNat) = x % 2 ^ (n * (m / 2)) := by
        rw [Int.toNat_natCast, xor_low hx0]
      have hu0 : 0 ≤ x / 2 ^ (n * (m / 2)) := Int.ediv_nonneg hx0 (Int.le_of_lt (p2 _))
      have hu1 : x / 2 ^ (n * (m / 2)) < 2 ^ (n * (m - m / 2)) := by
        rw [Int.ediv_lt_iff_lt_mul (p2 _), ← Int.pow_add, ← Nat.mul_add, show m - m / 2 + m / 2 = m by lia]
        exact hx1
      have hu2 := pow_lt_of hu1 hk2
      have hu3 : (x / 2 ^ (n * (m / 2))).natAbs < 2 ^ 64 := by lia
      walk_at "h_asg"
      rw [em]
      walk_at "h_asg"
      rw [es]
      walk_at "h_asg"
      rw [eu]
      walk_at "h_asg"
      rw [el]
      have d1 := digs_length n (m / 2) (x % 2 ^ (n * (m / 2)))
      have d2 := digs_length n (m - m / 2) (x / 2 ^ (n * (m / 2)))
      have u1 : (upd ys L (digs n (m / 2) (x % 2 ^ (n * (m / 2))))).length = ys.length := upd_length (by rw [d1]; lia)
      refine XS.cons (X.callClo (y := "a_digits") (cb := cd) (a := a) (vl := vl) (nl := nl) (dl := intsD ys) (dl' := intsD (upd ys L (digs n (m / 2) (x % 2 ^ (n * (m / 2)))))) (by walk_at "h_look") (by walk_at "h_evl") (fun s Z vs Q E r i k => ?_) fun vl' nl' => ⟨_, by walk_at "h_put", ?_⟩)
      · exact ih (m / 2) (by lia) _ _ s Z vs _ L a vl nl ys Q E (by lia) (by lia) hn (by show m / 2 ≤ m - 1; lia) (Int.emod_nonneg _ (Int.ne_of_gt (p2 _))) (Int.emod_lt_of_pos _ (p2 _)) (by walk_at "h_look") (.inr (by walk_at "h_look")) (by walk_at "h_look") r (by rw [show (L : Int) + ((m / 2 : Nat) : Int) = ((L + m / 2 : Nat) : Int) by lia]; exact i) k
      refine XS.cons (X.callClo (y := "a_digits") (cb := cd) (a := a) (vl := vl') (nl := nl') (dl := intsD (upd ys L (digs n (m / 2) (x % 2 ^ (n * (m / 2)))))) (dl' := intsD (upd ys L (digs n m x))) (by walk_at "h_look") (by walk_at "h_evl") (fun s Z vs Q E r i k => ?_) fun vl'' nl'' => ⟨_, by walk_at "h_put", ?_⟩)
      · have e1 : upd (upd ys L (digs n (m / 2) (x % 2 ^ (n * (m / 2))))) (L + m / 2) (digs n (m - m / 2) (x / 2 ^ (n * (m / 2)))) = upd ys L (digs n m x) := by
          have := upd_upd (ys := ys) (z1 := digs n (m / 2) (x % 2 ^ (n * (m / 2)))) (z2 := digs n (m - m / 2) (x / 2 ^ (n * (m / 2)))) (L := L) (by rw [d1, d2]; lia)
          rw [d1, ← digs_add, show m / 2 + (m - m / 2) = m by lia] at this
          exact this
        exact ih (m - m / 2) (by lia) _ _ s Z vs _ (L + m / 2) a vl' nl' _ Q E (by lia) (by rw [u1]; lia) (by rw [u1]; exact hn) (by show m - m / 2 ≤ m - 1; lia) hu0 hu1 (by walk_at "h_look") (.inr (by walk_at "h_look")) (by walk_at "h_look") r (by rw [show ((L + m / 2 : Nat) : Int) + ((m - m / 2 : Nat) : Int) = L + m by lia]; exact i) (by rw [e1]; exact k)
      exact XS.nil ⟨vl'', nl'', by walk_at "h_look"⟩
  · obtain ⟨rfl, hdd⟩ := hdd
    cases i'
    exact fin _ _ _ _ _ hdd r' z
theorem i2d_fn {G : Glo} {n : Nat} {a : Int} (hG : GOK G) (ha : 0 ≤ a) (hn1 : 1 ≤ n) (hn : n * cnt n a ≤ 62) (hn2 : n ≤ 62) : Fn G (dfn 11) (cnt n a + 1) [.int a, .int n] (.lst (intsD (digs n (cnt n a) a))) := by
  obtain ⟨cc, P, ht⟩ := hG.t1
  have hlen : cnt n a ≤ 62 := Nat.le_trans (Nat.le_mul_of_pos_left _ hn1) hn
  refine Fn.of_cells (t := ⟨dfn 11, cc, P, (inn 11 1).pos, "_int2digits.<locals>.inner"⟩) (.inl ht.symm) (pn := ["a", "n"]) (names := ["a", "n", "a_digits", "inner"]) (gnames := ["len"]) (fun L => [.val (.int a), .cell (L + 1) (.int n), .ucell (L + 2), .ucell (L + 3)]) ?_ (by decide) rfl ?_ ?_ rfl rfl rfl ?_
  · intro vs pm code doc h
    obtain ⟨a, b, rfl⟩ := vlen2 h
    rfl
  · intro L x hx
    rcases List.mem_cons.mp hx with rfl | hx
    · exact .inl rfl
    · rw [List.mem_singleton.mp hx]; exact .inr ⟨rfl, rfl⟩
  · intro L vs x sl hv hl
    obtain ⟨v, b, rfl⟩ := vlen2 hv
    cases hl with
    | head => exact ⟨rfl, v, rfl, .head _⟩
    | tail hl =>
      cases hl with
      | head => exact ⟨rfl, rfl, b, rfl, .tail _ (.head _)⟩
      | tail hl =>
        cases hl with
        | head => exact ⟨rfl, rfl, rfl⟩
        | tail hl =>
          cases hl with
          | head => exact ⟨rfl, rfl, rfl⟩
          | tail hl => cases hl
  · rintro ⟨G', A, env, h₀, names, gnames, av, room⟩ L fa0 e1 e2 e3 e4 e5
    simp only at e1 e2 e3 e4 e5
    subst e1 e2 e3 e4 e5
    obtain ⟨⟩ := hG
    conv => enter [3]; whnf
    have ec : ((Builtin.Int.intBits a : Int) + n - 1).fdiv n = (cnt n a : Int) := by
      rw [Int.fdiv_eq_ediv_of_nonneg _ (by lia), show (Builtin.Int.intBits a : Int) + n - 1 = ((Builtin.Int.intBits a + n - 1 : Nat) : Int) by lia]
      rfl
    change XS _ [.val (.int a), .cell (L + 1) (.int n), .ucell (L + 2), .ucell (L + 3)] _ _ _
    refine XS.cons (X.cellRepeat (ca := L + 2) (d := .int 0) (n := cnt n a) ?_ ?_ (by lia) (by lia) fun la vl => ⟨_, by walk_at "h_put", ?_⟩)
    · walk_at "h_ev"
    · refine Ev.conv (d := .int (((Builtin.Int.intBits a : Int) + n - 1).fdiv n)) ?_ (by rw [ec])
      walk_at "h_ev"
    rw [Int.toNat_natCast, show List.replicate (cnt n a) (D.int 0) = intsD (List.replicate (cnt n a) 0) by simp [intsD]]
    refine XS.cons (X.nest (t := ⟨dfn 11, cc, P, (inn 11 1).pos, "_int2digits.<locals>.inner"⟩) (clos := [("n", L + 1), ("inner", L + 3), ("a_digits", L + 2)]) (ca := L + 3) (.inl ht.symm) rfl rfl rfl rfl rfl rfl rfl ?_)
    intro fa
    refine ⟨_, by walk_at "h_put", ?_⟩
    have fin : ∀ vl' nl' ys, ys = digs n (cnt n a) a → XS ⟨G', A, envOfC (dfn 11).name (dfn 11).scope L fa0 (.ref cc), h₀, ["a", "n", "a_digits", "inner"], ["len"], av, cnt n a + 1⟩ [.val (.int a), .cell (L + 1) (.int n), .cown (L + 2) la vl' nl' (intsD ys), .cfun (L + 3) fa (inn 11 1) "_int2digits.<locals>.inner" [("n", L + 1), ("inner", L + 3), ("a_digits", L + 2)]]
        ((dfn 11).body.drop 3) (fun _ => False) (fun _ r => r = .lst (intsD (digs n (cnt n a) a))) := by
      intro vl' nl' ys hy
      conv => enter [3]; whnf
      refine XS.freezeC (x := "a_digits") rfl (by walk_at "h_put") ?_
      walk_at "h_ret"
      rw [hy]
    refine XS.cons (X.if_ (Tst.plain (Ev.name (by walk_at "h_look")) (Tr.int a)) (fun h1 => ?_) fun h1 => ?_)
    · have h2 : a ≠ 0 := by simpa using h1
      have hc0 : 1 ≤ cnt n a := by
        have h3 := cnt_lt hn1 ha
        by_cases h4 : cnt n a = 0
        · rw [h4, Nat.mul_zero] at h3; simp at h3; lia
        · lia
      refine XS.cons (X.callClo (y := "a_digits") (cb := L + 2) (a := la) (vl := vl) (nl := 0) (dl := intsD (List.replicate (cnt n a) 0)) (dl' := intsD (digs n (cnt n a) a)) (ds := [.int a, .int (0 : Nat), .int (cnt n a)]) (by walk_at "h_look") (EvL.cons (Ev.name (by walk_at "h_look")) (EvL.cons Ev.constI (EvL.cons (Ev.conv (Ev.lenC (by walk_at "h_mem") (by assumption) (by walk_at "h_look") (by simp [intsD]; lia)) (by simp [intsD])) EvL.nil))) (fun s Z vs Q E r i k => ?_) fun vl' nl' => ⟨_, by walk_at "h_put", ?_⟩)
      · have e : upd (List.replicate (cnt n a) 0) 0 (digs n (cnt n a) a) = digs n (cnt n a) a := by
          unfold upd
          rw [digs_length]
          simp
        refine i2d_inner n hn1 (qual := "_int2digits.<locals>.inner") (clos := [("n", L + 1), ("inner", L + 3), ("a_digits", L + 2)]) (cd := L + 2) (cn := L + 1) (ci := L + 3) rfl rfl rfl (cnt n a) _ _ s Z vs a 0 la vl 0 (List.replicate (cnt n a) 0) Q E hc0 (by simp) (by simpa using hn) (Nat.le_succ _) ha (cnt_lt hn1 ha) (by walk_at "h_look") (.inl (by walk_at "h_look")) (.tail (.tail (.tail .head))) r (by rw [show ((0 : Nat) : Int) + (cnt n a : Int) = cnt n a by lia]; exact i) ?_
        rw [e]; exact k
      · exact XS.nil (fin vl' nl' _ rfl)
    · have h2 : a = 0 := by simpa using h1
      have hc : cnt n a = 0 := by
        rw [h2]
        unfold cnt
        rw [show Builtin.Int.intBits 0 = 0 from rfl]
        exact Nat.div_eq_of_lt (by lia)
      exact XS.nil (fin vl 0 _ (by rw [hc]; rfl))
section
variable {c : Cx} {σ : Sig}
theorem Ev.call_i2d {e : Expr} {es : List Expr} {p pos : Pos} {n : Nat} {a : Int} (hg : ("_int2digits" : Str) ∈ c.gnames) (hG : GOK c.G) (h : EvL c σ pos (e :: es) [.int a, .int n]) (hk : cnt n a + 1 < c.room)
    (ha : 0 ≤ a) (hn1 : 1 ≤ n) (hn : n * cnt n a ≤ 62) (hn2 : n ≤ 62)
    (he : ∀ env, starEach (e :: es) env = (false, eval e env) :: starEach es env := by intro _; rfl) : Ev c σ (.Call (.Name "_int2digits" p) (e :: es) [] pos) (.lst (intsD (digs n (cnt n a) a))) :=
  Ev.callF (d := dfn 11) hg hG.f11 rfl h (i2d_fn hG ha hn1 hn hn2) hk (by decide) he
end
/-! F7 -/
theorem div21_fn {G : Glo} {a b : Int} {n : Nat} (hG : GOK G) (hb : 0 < b) (hb2 : b < 2 ^ 28) (ha : (Builtin.Int.intBits a : Int) - n ≤ 4000) : Fn G (dfn 9) 0 [.int a, .int b, .int n] (.tup [.int (a / b), .int (a % b)]) := by
  refine Fn.body ["a", "b", "n"] [] ["a", "b", "n"] ["_DIV_LIMIT", "divmod"] [.val (.int a), .val (.int b), .val (.int n)] hG.f9 rfl rfl ?_ rfl (by decide) (by decide) (by decide) (by decide) rfl rfl rfl ?_
  · intro vs pm code doc h
    obtain ⟨a, b, d, rfl⟩ := vlen3 h
    rfl
  · intro A env h₀ av
    obtain ⟨⟩ := hG
    conv => enter [3]; whnf
    walk_at "h_if" <;> intro h1
    · refine XS.cons (X.ret (Ev.callB (by walk_at "h_mem") (by assumption) (by walk_at "h_evl") (divmodII (by lia) (PyProof.noPylong_small (by lia)))) ?_)
      rw [Int.fdiv_eq_ediv_of_nonneg _ (Int.le_of_lt hb), Int.fmod_eq_emod_of_nonneg _ (Int.le_of_lt hb)]
    · exact absurd ha (by simpa using h1)
section
variable {c : Cx} {σ : Sig}
theorem Ev.call_div21 {e : Expr} {es : List Expr} {p pos : Pos} {n : Nat} {a b : Int} (hg : ("_div2n1n" : Str) ∈ c.gnames) (hG : GOK c.G) (h : EvL c σ pos (e :: es) [.int a, .int b, .int n]) (hk : 0 < c.room)
    (hb : 0 < b) (hb2 : b < 2 ^ 28) (ha : (Builtin.Int.intBits a : Int) - n ≤ 4000)
    (he : ∀ env, starEach (e :: es) env = (false, eval e env) :: starEach es env := by intro _; rfl) : Ev c σ (.Call (.Name "_div2n1n" p) (e :: es) [] pos) (.tup [.int (a / b), .int (a % b)]) :=
  Ev.callF (d := dfn 9) hg hG.f9 rfl h (div21_fn hG hb hb2 ha) hk (by decide) he
end
theorem pos_fn {G : Glo} {a b : Int} (hG : GOK G) (ha : 0 ≤ a) (hb : 0 < b) (hb2 : b < 2 ^ 28) (hc : Builtin.Int.intBits b * cnt (Builtin.Int.intBits b) a ≤ 62) :
    Fn G (dfn 13) (cnt (Builtin.Int.intBits b) a + 2) [.int a, .int b] (.tup [.int (a / b), .int (a % b)]) := by
  refine Fn.body ["a", "b"] ["n", "a_digits", "r", "q_digits", "a_digit", "q_digit", "q"] ["a", "b", "n", "a_digits", "r", "q_digits", "a_digit", "q_digit", "q"] ["_int2digits", "reversed", "_div2n1n", "_digits2int"]
    [.val (.int a), .val (.int b), .no, .no, .no, .no, .no, .no, .no] hG.f13 rfl rfl ?_ rfl (by decide) (by decide) (by decide) (by decide) rfl rfl rfl ?_
  · intro vs pm code doc h
    obtain ⟨a, b, rfl⟩ := vlen2 h
    rfl
  · intro A env h₀ av
    have hG' := hG
    obtain ⟨⟩ := hG
    conv => enter [3]; whnf
    have hn1 := bits_pos hb
    have hn2 : Builtin.Int.intBits b ≤ 28 := bits_le (Int.le_of_lt hb) hb2
    have hbn : b < 2 ^ Builtin.Int.intBits b := bits_lt (Int.le_of_lt hb)
    walk_at "h_asg"
    generalize hn : Builtin.Int.intBits b = n at *
    have hlen : cnt n a ≤ 62 := Nat.le_trans (Nat.le_mul_of_pos_left _ hn1) hc
    refine XS.cons (X.assign (o := .no) (Ev.call_i2d (n := n) (a := a) (by walk_at "h_mem") hG' (by walk_at "h_evl") (by simp only []; lia) ha hn1 hc (by lia)) (by walk_at "h_put") rfl ?_)
    have hdl := digs_length n (cnt n a) a
    have hdv : dval n (digs n (cnt n a) a) = a := dval_digs _ _ _ ha (cnt_lt hn1 ha)
    have hdb := digs_bound n (cnt n a) a
    generalize hD : digs n (cnt n a) a = ds at *
    walk_at "h_asg"
    refine XS.cons (X.assignOwn (ds := []) EvL.nil (by simp) (by walk_at "h_look") rfl fun la vs ln => ⟨_, by walk_at "h_put", ?_⟩)
    refine XS.cons (X.for_ (It.reversed (ds := intsD ds) (by walk_at "h_mem") (by assumption) (by walk_at "h_ev")) (fun i σ => ∃ vs ln ql o1 o2, σ = [.val (.int a), .val (.int b), .val (.int n), .val (.lst (intsD ds)), .val (.int (hiV n ds i % b)), .own la vs ln (intsD ql), o1, o2, .no] ∧ o1.local = true ∧ o2.local = true ∧ ql.length = i ∧ dval n ql.reverse = hiV n ds i / b ∧ ∀ d ∈ ql, 0 ≤ d ∧ d < 2 ^ n) ?_ (fun i σ₁ hi hJ => ?_) fun σ₁ hJ => ?_)
    · refine ⟨vs, ln, [], .no, .no, ?_, rfl, rfl, rfl, ?_, fun d hd => absurd hd List.not_mem_nil⟩
      · simp [hiV, dval, intsD]
      · simp [hiV, dval]
    · obtain ⟨vs, ln, ql, o1, o2, rfl, ho1, ho2, hql, hqv, hqb⟩ := hJ
      have hi' : i < ds.length := by simpa [intsD] using hi
      have hdi := hdb ds[ds.length - 1 - i] (List.getElem_mem _)
      have st := divstep (n := n) (b := b) (V := hiV n ds i) (d := ds[ds.length - 1 - i]) hb hdi.1 hdi.2
      have e1 : (intsD ds).getD ((intsD ds).length - 1 - i) .none = .int ds[ds.length - 1 - i] := by
        rw [List.getD_eq_getElem?_getD, show (intsD ds).length = ds.length by simp [intsD], intsD_get]; rfl
      rw [e1]
      refine ⟨o1, _, by walk_at "h_put", ho1, ?_⟩
      have h5 := Int.emod_nonneg (hiV n ds i) (Int.ne_of_gt hb)
      have h6 := Int.emod_lt_of_pos (hiV n ds i) hb
      have hs : (hiV n ds i % b).natAbs < 2 ^ 64 := by lia
      have hbits : (Builtin.Int.intBits (hiV n ds i % b * 2 ^ n + ds[ds.length - 1 - i]) : Int) - n ≤ 4000 := by
        have : hiV n ds i % b * 2 ^ n + ds[ds.length - 1 - i] < 2 ^ (n + n) := by
          rw [Int.pow_add]
          exact Int.lt_of_lt_of_le st.2.2.2.2.2 (Int.mul_le_mul_of_nonneg_right (Int.le_of_lt hbn) (Int.le_of_lt (p2 n)))
        have := bits_le st.2.2.2.2.1 this
        lia
      refine XS.cons (X.assign2 (o1 := o2) (o2 := .val (.int (hiV n ds i % b))) (d1 := .int ((hiV n ds i % b * 2 ^ n + ds[ds.length - 1 - i]) / b)) (d2 := .int ((hiV n ds i % b * 2 ^ n + ds[ds.length - 1 - i]) % b)) (Ev.call_div21 (by walk_at "h_mem") hG' (EvL.cons ?_ (EvL.cons (by walk_at "h_ev") (EvL.cons (by walk_at "h_ev") EvL.nil))) (by simp only []; lia) hb hb2 hbits) (by walk_at "h_put") (by walk_at "h_put") ho2 rfl ?_)
      · refine Ev.conv (d := .int (hiV n ds i % b * 2 ^ (n : Int).toNat + ds[ds.length - 1 - i])) ?_ (by rw [Int.toNat_natCast])
        walk_at "h_ev"
      · refine XS.cons (X.append (by walk_at "h_look") (by walk_at "h_ev") (by simp [intsD, sizeLine_eq]; lia) fun vs' n' => ⟨_, by walk_at "h_put", ?_⟩)
        refine XS.nil ⟨vs', n', ql ++ [(hiV n ds i % b * 2 ^ n + ds[ds.length - 1 - i]) / b], .val (.int ds[ds.length - 1 - i]), .val (.int ((hiV n ds i % b * 2 ^ n + ds[ds.length - 1 - i]) / b)), ?_, rfl, rfl, by simp [hql], ?_, ?_⟩
        · rw [hiV_succ hi', ← st.1]
          simp [intsD]
        · rw [List.reverse_append, hiV_succ hi', ← st.2.1, ← hqv]
          simp [dval]
        · intro d hd
          rcases List.mem_append.mp hd with hd | hd
          · exact hqb d hd
          · rw [List.mem_singleton.mp hd]; exact ⟨st.2.2.1, st.2.2.2.1⟩
    · obtain ⟨vs, ln, ql, o1, o2, rfl, ho1, ho2, hql, hqv, hqb⟩ := hJ
      have e2 : (intsD ds).length = ds.length := by simp [intsD]
      have e3 : hiV n ds ds.length = a := by rw [← hdv]; simp [hiV]
      rw [e2] at hql hqv
      rw [e2, e3]
      rw [e3] at hqv
      refine XS.cons (X.reverse (by walk_at "h_look") (by simp [intsD, sizeLine_eq]; lia) fun vs' n' => ⟨_, by walk_at "h_put", ?_⟩)
      rw [show (intsD ql).reverse = intsD ql.reverse by simp [intsD]]
      refine XS.freeze (x := "q_digits") (by walk_at "h_put") ?_
      refine XS.cons (X.assign (o := .no) (Ev.call_d2i (n := n) (ds := ql.reverse) (by walk_at "h_mem") hG' (by walk_at "h_evl") (by simp; lia) (fun d hd => hqb d (List.mem_reverse.mp hd)) (by rw [List.length_reverse, hql, hdl]; exact hc) hn1) (by walk_at "h_put") rfl ?_)
      walk_at "h_ret"
      rw [hqv]
/-! F8 -/
theorem Fn.mono {G : Glo} {d : DefRec} {k k' : Nat} {args : List D} {res : D} (h : Fn G d k args res) (hk : k ≤ k') : Fn G d k' args res :=
  fun c σ s Z vs a Q E hG hr => h c σ s Z vs a Q E hG (Nat.lt_of_le_of_lt hk hr)
def Small (a b : Int) : Prop := 0 < b ∧ b < 2 ^ 20 ∧ -2 ^ (Builtin.Int.intBits b * 3) ≤ a ∧ a < 2 ^ (Builtin.Int.intBits b * 3)
theorem Small.cnt {a b : Int} (h : Small a b) (ha : 0 ≤ a) : Builtin.Int.intBits b * Td.cnt (Builtin.Int.intBits b) a ≤ 62 ∧ Td.cnt (Builtin.Int.intBits b) a ≤ 3 := by
  obtain ⟨h0, h1, h2, h3⟩ := h
  have hn := bits_le (Int.le_of_lt h0) h1
  have hc := cnt_le (bits_pos h0) ha h3
  refine ⟨Nat.le_trans (Nat.mul_le_mul hn hc) (by decide), hc⟩
section
variable {c : Cx} {σ : Sig}
theorem Ev.call_pos {e : Expr} {es : List Expr} {p pos : Pos} {a b : Int} (hg : ("_divmod_pos" : Str) ∈ c.gnames) (hG : GOK c.G) (h : EvL c σ pos (e :: es) [.int a, .int b]) (hk : 5 < c.room)
    (hs : Small a b) (ha : 0 ≤ a)
    (he : ∀ env, starEach (e :: es) env = (false, eval e env) :: starEach es env := by intro _; rfl) : Ev c σ (.Call (.Name "_divmod_pos" p) (e :: es) [] pos) (.tup [.int (a / b), .int (a % b)]) :=
  Ev.callF (d := dfn 13) hg hG.f13 rfl h ((pos_fn hG ha hs.1 (Int.lt_trans hs.2.1 (by decide)) (hs.cnt ha).1).mono (by have := (hs.cnt ha).2; lia : _ ≤ 5)) hk (by decide) he
end
theorem intdiv_pos {G : Glo} {a b : Int} (hG : GOK G) (hs : Small a b) (ha : 0 ≤ a) : Fn G (dfn 14) 6 [.int a, .int b] (.tup [.int (a / b), .int (a % b)]) := by
  refine Fn.body ["a", "b"] ["q", "r"] ["a", "b", "q", "r"] ["int_divmod", "_divmod_pos"] [.val (.int a), .val (.int b), .no, .no] hG.f14 rfl rfl ?_ rfl (by decide) (by decide) (by decide) (by decide) rfl rfl rfl ?_
  · intro vs pm code doc h
    obtain ⟨a, b, rfl⟩ := vlen2 h
    rfl
  · intro A env h₀ av
    have hb := hs.1
    conv => enter [3]; whnf
    walk_at "h_if" <;> intro h1
    · exact absurd h1 (by simp; lia)
    refine XS.cons ?_
    refine X.if_ (b := decide (b < 0)) (by walk_at "h_tst") (fun h2 => absurd h2 (by simp; lia)) fun h2 => ?_
    refine XS.cons ?_
    refine X.if_ (b := decide (a < 0)) (by walk_at "h_tst") (fun h3 => absurd h3 (by simp; lia)) fun h3 => ?_
    exact XS.cons (X.ret (Ev.call_pos (by walk_at "h_mem") hG (by walk_at "h_evl") (by simp only []; lia) hs ha) rfl)
section
variable {c : Cx} {σ : Sig}
theorem Ev.call_idp {e : Expr} {es : List Expr} {p pos : Pos} {a b : Int} (hg : ("int_divmod" : Str) ∈ c.gnames) (hG : GOK c.G) (h : EvL c σ pos (e :: es) [.int a, .int b]) (hk : 6 < c.room)
    (hs : Small a b) (ha : 0 ≤ a)
    (he : ∀ env, starEach (e :: es) env = (false, eval e env) :: starEach es env := by intro _; rfl) : Ev c σ (.Call (.Name "int_divmod" p) (e :: es) [] pos) (.tup [.int (a / b), .int (a % b)]) :=
  Ev.callF (d := dfn 14) hg hG.f14 rfl h (intdiv_pos hG hs ha) hk (by decide) he
end
theorem intdiv_fn {G : Glo} {a b : Int} (hG : GOK G) (hs : Small a b) : Fn G (dfn 14) 7 [.int a, .int b] (.tup [.int (a / b), .int (a % b)]) := by
  by_cases ha : 0 ≤ a
  · exact (intdiv_pos hG hs ha).mono (by lia)
  refine Fn.body ["a", "b"] ["q", "r"] ["a", "b", "q", "r"] ["int_divmod", "_divmod_pos"] [.val (.int a), .val (.int b), .no, .no] hG.f14 rfl rfl ?_ rfl (by decide) (by decide) (by decide) (by decide) rfl rfl rfl ?_
  · intro vs pm code doc h
    obtain ⟨a, b, rfl⟩ := vlen2 h
    rfl
  · intro A env h₀ av
    have hb := hs.1
    conv => enter [3]; whnf
    walk_at "h_if" <;> intro h1
    · exact absurd h1 (by simp; lia)
    refine XS.cons ?_
    refine X.if_ (b := decide (b < 0)) (by walk_at "h_tst") (fun h2 => absurd h2 (by simp; lia)) fun h2 => ?_
    refine XS.cons ?_
    refine X.if_ (b := decide (a < 0)) (by walk_at "h_tst") (fun h3 => ?_) fun h3 => absurd h3 (by simp; lia)
    have eb : Builtin.bitNot a = -a - 1 := rfl
    have hs' : Small (-a - 1) b := ⟨hs.1, hs.2.1, by have := hs.2.2.1; have := hs.2.2.2; have p := p2 (Builtin.Int.intBits b * 3); lia, by have := hs.2.2.1; lia⟩
    refine XS.cons (X.assign2 (d1 := .int ((-a - 1) / b)) (d2 := .int ((-a - 1) % b)) (Ev.call_idp (by walk_at "h_mem") hG (by rw [← eb]; walk_at "h_evl") (by simp only []; lia) hs' (by lia)) (by walk_at "h_put") (by walk_at "h_put") rfl rfl ?_)
    have nd := neg_div (a := a) hb
    walk_at "h_ret"
    rw [← nd.1, ← nd.2]
    rfl
section
variable {c : Cx} {σ : Sig}
theorem Ev.call_id {e : Expr} {es : List Expr} {p pos : Pos} {a b : Int} (hg : ("int_divmod" : Str) ∈ c.gnames) (hG : GOK c.G) (h : EvL c σ pos (e :: es) [.int a, .int b]) (hk : 7 < c.room)
    (hs : Small a b)
    (he : ∀ env, starEach (e :: es) env = (false, eval e env) :: starEach es env := by intro _; rfl) : Ev c σ (.Call (.Name "int_divmod" p) (e :: es) [] pos) (.tup [.int (a / b), .int (a % b)]) :=
  Ev.callF (d := dfn 14) hg hG.f14 rfl h (intdiv_fn hG hs) hk (by decide) he
end
/-! F9 -/
def ovU0 (a0 a1 b0 b1 : Int) : Int := a0 * b0 - a0 * b1 + a1 * b1
def ovU1 (a0 a1 b0 b1 : Int) : Int := a1 * b0 - a0 * b1
def ovL (b0 b1 : Int) : Int := b0 * b0 - b0 * b1 + b1 * b1
def overF (a0 a1 b0 b1 : Int) : D :=
  if ovU0 a0 a1 b0 b1 % ovL b0 b1 = 0 ∧ ovU1 a0 a1 b0 b1 % ovL b0 b1 = 0 then .lst [.int (ovU0 a0 a1 b0 b1 / ovL b0 b1), .int (ovU1 a0 a1 b0 b1 / ovL b0 b1)] else .none
theorem over_fn {G : Glo} {a0 a1 b0 b1 : Int} (hG : GOK G) (ha0 : a0.natAbs < 2 ^ 64) (ha1 : a1.natAbs < 2 ^ 64) (hb0 : b0.natAbs < 2 ^ 64) (hb1 : b1.natAbs < 2 ^ 64) (h0 : Small (ovU0 a0 a1 b0 b1) (ovL b0 b1)) (h1 : Small (ovU1 a0 a1 b0 b1) (ovL b0 b1)) :
    Fn G (dfn 72) 8 [.lst [.int a0, .int a1], .lst [.int b0, .int b1]] (overF a0 a1 b0 b1) := by
  refine Fn.body ["a", "b"] ["upper", "lower", "told"] ["a", "b", "upper", "lower", "told"] ["int_divmod"] [.val (.lst [.int a0, .int a1]), .val (.lst [.int b0, .int b1]), .no, .no, .no] hG.f72 rfl rfl ?_ rfl (by decide) (by decide) (by decide) (by decide) rfl rfl rfl ?_
  · intro vs pm code doc h
    obtain ⟨a, b, rfl⟩ := vlen2 h
    rfl
  · intro A env h₀ av
    conv => enter [3]; whnf
    walk_at "h_asg"
    walk_at "h_asg"
    change XS _ [_, _, .val (.lst [.int (ovU0 a0 a1 b0 b1), .int (ovU1 a0 a1 b0 b1)]), .val (.int (ovL b0 b1)), _] _ _ _
    unfold overF
    generalize ovU0 a0 a1 b0 b1 = u0 at *
    generalize ovU1 a0 a1 b0 b1 = u1 at *
    generalize ovL b0 b1 = l at *
    refine XS.cons (X.assign (o := .no) (Ev.list (EvL.cons (Ev.call_id (by walk_at "h_mem") hG (by walk_at "h_evl") (by simp only []; lia) h0) (EvL.cons (Ev.call_id (by walk_at "h_mem") hG (by walk_at "h_evl") (by simp only []; lia) h1) EvL.nil)) (by simp [sizeLine_eq])) (by walk_at "h_put") rfl ?_)
    refine XS.cons (X.if_ (b := !decide ([u0 % l, u1 % l] = [0, 0])) (Tst.cmp (d1 := .lst (intsD [u0 % l, u1 % l])) (d2 := .lst (intsD [0, 0])) (by show Ev _ _ _ (.lst [.int (u0 % l), .int (u1 % l)]); walk_at "h_ev") (by show Ev _ _ _ (.lst [.int 0, .int 0]); walk_at "h_ev") neLI (Tr.bool _)) (fun h => ?_) fun h => ?_)
    · walk_at "h_ret"
      rw [if_neg (fun hh => by simp [hh.1, hh.2] at h)]
    · refine XS.nil ?_
      walk_at "h_ret"
      rw [if_pos (by simpa using h)]
section
variable {c : Cx} {σ : Sig}
theorem Ev.call_over {e : Expr} {es : List Expr} {p pos : Pos} {a0 a1 b0 b1 : Int} (hg : ("_law_over" : Str) ∈ c.gnames) (hG : GOK c.G) (h : EvL c σ pos (e :: es) [.lst [.int a0, .int a1], .lst [.int b0, .int b1]]) (hk : 8 < c.room)
    (ha0 : a0.natAbs < 2 ^ 64) (ha1 : a1.natAbs < 2 ^ 64) (hb0 : b0.natAbs < 2 ^ 64) (hb1 : b1.natAbs < 2 ^ 64) (h0 : Small (ovU0 a0 a1 b0 b1) (ovL b0 b1)) (h1 : Small (ovU1 a0 a1 b0 b1) (ovL b0 b1))
    (he : ∀ env, starEach (e :: es) env = (false, eval e env) :: starEach es env := by intro _; rfl) : Ev c σ (.Call (.Name "_law_over" p) (e :: es) [] pos) (overF a0 a1 b0 b1) :=
  Ev.callF (d := dfn 72) hg hG.f72 rfl h (over_fn hG ha0 ha1 hb0 hb1 h0 h1) hk (by decide) he
end
/-! F10 -/
/-- what the longest operator at a place measures -/
def sizeAt (T : List (PyData × PyData)) (x : Str) (p : Nat) : Nat :=
  if (Spec.lookup (.str (cut x p (p + 3))) T).isSome then 3 else if (Spec.lookup (.str (cut x p (p + 2))) T).isSome then 2 else 1
def cutsOk (x : Str) (p : Nat) : Bool := decide ((cut x p (p + 3)).length ≤ sizeLine) && decide ((cut x p (p + 2)).length ≤ sizeLine) && decide ((cut x p (p + 1)).length ≤ sizeLine)
def readF (T : List (PyData × PyData)) (x : Str) : Nat → Nat → Option (List Int)
  | 0, _ => none
  | f + 1, p => if p < x.length then
      (if cutsOk x p then (match Spec.lookup (.str (cut x p (p + sizeAt T x p))) T with
        | some (.int n) => (readF T x f (p + sizeAt T x p)).map (n :: ·)
        | _ => none) else none)
    else some []
theorem readF_step {T : List (PyData × PyData)} {x : Str} {f p : Nat} {ns : List Int} (h : readF T x (f + 1) p = some ns) (hp : p < x.length) :
    cutsOk x p = true ∧ ∃ n ms, ns = n :: ms ∧ Spec.lookup (.str (cut x p (p + sizeAt T x p))) T = some (.int n) ∧ readF T x f (p + sizeAt T x p) = some ms := by
  rw [readF, if_pos hp] at h
  split at h
  · rename_i hc
    refine ⟨hc, ?_⟩
    split at h
    · rename_i n hn
      cases hr : readF T x f (p + sizeAt T x p) with
      | none => rw [hr] at h; cases h
      | some ms => rw [hr] at h; cases h; exact ⟨n, ms, rfl, hn, rfl⟩
    · cases h
  · cases h
theorem read_fn {G : Glo} {x : Str} {f : Nat} {ns : List Int} (hG : GOK G) (hx : x.length < 1000) (hf : f < 1000) (hd : G.dnm = "EXACT_TOKEN_TYPES") (h : readF G.tab x f 0 = some ns) : Fn G (dfn 71) 0 [.str x] (.lst (intsD ns)) := by
  refine Fn.body ["text"] ["numbers", "place", "size"] ["text", "numbers", "place", "size"] ["len", "EXACT_TOKEN_TYPES"] [.val (.str x), .no, .no, .no] hG.f71 rfl rfl ?_ rfl (by decide) (by decide) (by decide) (by decide) rfl rfl rfl ?_
  · intro vs pm code doc h
    obtain ⟨a, rfl⟩ := vlen1 h
    rfl
  · intro A env h₀ av
    obtain ⟨⟩ := hG
    conv => enter [3]; whnf
    refine XS.cons (X.assignOwn (ds := []) EvL.nil (by simp) (by walk_at "h_look") rfl fun la vs ln => ⟨_, by walk_at "h_put", ?_⟩)
    walk_at "h_asg"
    refine XS.cons (X.while_ (fun n σ => ∃ vs ln p acc ms sl, σ = [.val (.str x), .own la vs ln (intsD acc), .val (.int (p : Nat)), sl] ∧ sl.local = true ∧ p ≤ x.length + 3 ∧ acc.length + n ≤ f ∧ readF G.tab x n p = some ms ∧ ns = acc ++ ms) f ?_ fun n σ₁ hJ => ?_)
    · exact ⟨vs, ln, 0, [], ns, .no, rfl, rfl, by lia, by simp, h, rfl⟩
    · obtain ⟨vs, ln, p, acc, ms, sl, rfl, hsl, hp3, hacc, hr, hns⟩ := hJ
      refine ⟨decide ((p : Int) < x.length), Tst.cmp (Ev.name (by walk_at "h_look")) (Ev.callB (by walk_at "h_mem") (by assumption) (by walk_at "h_evl") (lenS (by lia))) ltII (Tr.bool _), fun hb => ?_, fun hb => ?_⟩
      · have hp : p < x.length := by have := of_decide_eq_true hb; lia
        cases n with
        | zero => cases hr
        | succ n =>
        obtain ⟨hc, n₀, ms', rfl, hl, hr'⟩ := readF_step hr hp
        simp only [cutsOk, Bool.and_eq_true, decide_eq_true_eq] at hc
        refine XS.cons (X.assign (o := sl) Ev.constI (by walk_at "h_put") hsl ?_)
        have hk : ∀ (k : Nat), 2 ≤ k → k ≤ 3 → (cut x p ((p : Int) + (k : Nat))).length ≤ sizeLine := fun k h1 h2 => by
          have : k = 2 ∨ k = 3 := by lia
          rcases this with rfl | rfl
          · exact hc.1.2
          · exact hc.1.1
        refine XS.cons (X.while_ (fun m σ => m ≤ 3 ∧ 1 ≤ m ∧ (∀ k : Nat, m < k → k ≤ 3 → (Spec.lookup (.str (cut x p (p + (k : Nat)))) G.tab).isSome = false) ∧ σ = [.val (.str x), .own la vs ln (intsD acc), .val (.int (p : Nat)), .val (.int (m : Nat))]) 3 ⟨by lia, by lia, fun k h1 h2 => by lia, rfl⟩ fun m σ₁ hJ => ?_)
        obtain ⟨hm3, hm1, hbig, rfl⟩ := hJ
        refine ⟨decide ((m : Int) > 1) && (!(Spec.lookup (.str (cut x p (p + (m : Nat)))) G.tab).isSome && true), Tst.and (Tst.cmp (Ev.name (by walk_at "h_look")) Ev.constI gtII (Tr.bool _)) fun h1 => Tst.and (Tst.notInTab (Ev.slice (Ev.name (by walk_at "h_look")) (Ev.name (by walk_at "h_look")) (Ev.bin (Ev.name (by walk_at "h_look")) (Ev.name (by walk_at "h_look")) addII) (hk m (by have := of_decide_eq_true h1; lia) hm3)) (by walk_at "h_mem") hd) fun _ => Tst.and_nil, fun hb2 => ?_, fun hb2 => ?_⟩
        · simp only [Bool.and_eq_true, decide_eq_true_eq, Bool.not_eq_true', Bool.and_true] at hb2
          refine XS.cons (X.aug (by walk_at "h_look") Ev.constI isubII (by walk_at "h_put") ?_)
          refine XS.nil ⟨m - 1, by lia, by lia, by lia, fun k h1 h2 => ?_, ?_⟩
          · by_cases e : k = m
            · subst e; exact hb2.2
            · exact hbig k (by lia) h2
          · rw [show ((m - 1 : Nat) : Int) = (m : Int) - 1 by lia]
        · have hsz : m = sizeAt G.tab x p := by
            have hb2' : ¬ ((m : Int) > 1) ∨ (Spec.lookup (.str (cut x p (p + (m : Nat)))) G.tab).isSome = true := by
              by_cases e : (m : Int) > 1
              · right
                cases e2 : (Spec.lookup (.str (cut x p (p + (m : Nat)))) G.tab).isSome
                · exfalso; rw [e2] at hb2; simp at hb2; lia
                · rfl
              · exact .inl e
            unfold sizeAt
            have : m = 1 ∨ m = 2 ∨ m = 3 := by lia
            rcases this with rfl | rfl | rfl
            · rw [if_neg (by have := hbig 3 (by lia) (by lia); simpa using this), if_neg (by have := hbig 2 (by lia) (by lia); simpa using this)]
            · rcases hb2' with e | e
              · exact absurd e (by lia)
              · rw [if_neg (by have := hbig 3 (by lia) (by lia); simpa using this), if_pos (by simpa using e)]
            · rcases hb2' with e | e
              · exact absurd e (by lia)
              · rw [if_pos (by simpa using e)]
          have hz1 : (cut x p ((p : Int) + (m : Nat))).length ≤ sizeLine := by
            by_cases e : m = 1
            · subst e; exact hc.2
            · exact hk m (by lia) hm3
          rw [← hsz] at hl hr'
          refine XS.cons (X.append (by walk_at "h_look") (Ev.itemTab (Ev.slice (Ev.name (by walk_at "h_look")) (Ev.name (by walk_at "h_look")) (Ev.bin (Ev.name (by walk_at "h_look")) (Ev.name (by walk_at "h_look")) addII) hz1) (by walk_at "h_mem") hd hl) (by simp [intsD, sizeLine_eq]; lia) fun vs' n' => ⟨_, by walk_at "h_put", ?_⟩)
          refine XS.cons (X.aug (by walk_at "h_look") (Ev.name (by walk_at "h_look")) iaddII (by walk_at "h_put") ?_)
          refine XS.nil ⟨n, by lia, vs', n', p + m, acc ++ [n₀], ms', .val (.int (m : Nat)), ?_, rfl, by lia, by simp; lia, hr', by simp [hns]⟩
          simp [intsD]
      · have hp : ¬ p < x.length := by have := of_decide_eq_false hb; lia
        have hms : ms = [] := by
          cases n with
          | zero => cases hr
          | succ n => rw [readF, if_neg hp] at hr; cases hr; rfl
        subst hms
        refine XS.freeze (x := "numbers") (by walk_at "h_put") ?_
        walk_at "h_ret"
        rw [hns, List.append_nil]
section
variable {c : Cx} {σ : Sig}
theorem Ev.call_read {e : Expr} {es : List Expr} {p pos : Pos} {x : Str} {f : Nat} {ns : List Int} (hg : ("_law_read" : Str) ∈ c.gnames) (hG : GOK c.G) (h : EvL c σ pos (e :: es) [.str x]) (hk : 0 < c.room)
    (hx : x.length < 1000) (hf : f < 1000) (hd : c.G.dnm = "EXACT_TOKEN_TYPES") (hr : readF c.G.tab x f 0 = some ns)
    (he : ∀ env, starEach (e :: es) env = (false, eval e env) :: starEach es env := by intro _; rfl) : Ev c σ (.Call (.Name "_law_read" p) (e :: es) [] pos) (.lst (intsD ns)) :=
  Ev.callF (d := dfn 71) hg hG.f71 rfl h (read_fn hG hx hf hd hr) hk (by decide) he
end
/-! I1 -/
section
open PySem.Float64
/-- which numbers are floats -/
theorem V_has {k : Nat} (hk : k ≤ 2 ^ 53) (g : Nat) : ∃ t, V t = k * 2 ^ g := by
  by_cases h0 : k = 0
  · exact ⟨0, by subst h0; simp [V]⟩
  by_cases h1 : 2 ^ 52 ≤ k
  · exact ⟨_, V_at (k := g) (q := k) hk (.inl h1)⟩
  have hl := Nat.log2_self_le h0
  have hu := @Nat.lt_log2_self k
  have hl52 : k.log2 < 52 := by
    apply Nat.lt_of_not_le
    intro h
    exact h1 (Nat.le_trans (Nat.pow_le_pow_right (by decide) h) hl)
  by_cases hs : 52 - k.log2 ≤ g
  · have e : k * 2 ^ (52 - k.log2) * 2 ^ (g - (52 - k.log2)) = k * 2 ^ g := by
      rw [Nat.mul_assoc, ← Nat.pow_add]; congr 2; lia
    have q1 : k * 2 ^ (52 - k.log2) ≤ 2 ^ 53 := by
      have : k * 2 ^ (52 - k.log2) ≤ 2 ^ (k.log2 + 1) * 2 ^ (52 - k.log2) := Nat.mul_le_mul_right _ (Nat.le_of_lt hu)
      rw [← Nat.pow_add] at this
      exact Nat.le_trans this (Nat.pow_le_pow_right (by decide) (by lia))
    have q2 : 2 ^ 52 ≤ k * 2 ^ (52 - k.log2) := by
      have : 2 ^ k.log2 * 2 ^ (52 - k.log2) ≤ k * 2 ^ (52 - k.log2) := Nat.mul_le_mul_right _ hl
      rw [← Nat.pow_add] at this
      exact Nat.le_trans (Nat.pow_le_pow_right (by decide) (by lia)) this
    exact ⟨_, (V_at (k := g - (52 - k.log2)) q1 (.inl q2)).trans e⟩
  · have q1 : k * 2 ^ g ≤ 2 ^ 53 := by
      have : k * 2 ^ g ≤ 2 ^ (k.log2 + 1) * 2 ^ g := Nat.mul_le_mul_right _ (Nat.le_of_lt hu)
      rw [← Nat.pow_add] at this
      exact Nat.le_trans this (Nat.pow_le_pow_right (by decide) (by lia))
    exact ⟨_, (V_at (k := 0) (q := k * 2 ^ g) q1 (.inr rfl)).trans (by simp)⟩

/-- between two numbers of the grid 2^-u -/
def In (u : Nat) (x : UInt64) (lo hi : Int) : Prop := isFinite x = true ∧ lo * 2 ^ (1074 - u) ≤ val x ∧ val x ≤ hi * 2 ^ (1074 - u)
/-- r is w / D rounded -/
def SR (r : UInt64) (w : Int) (D : Nat) : Prop := ∃ neg, Right r neg w.natAbs D ∧ (neg = true → w ≤ 0) ∧ (neg = false → 0 ≤ w)
theorem fin_of_pack {neg : Bool} {t : Nat} (h : t < infMag) : isFinite (pack neg t) = true := by
  obtain ⟨m, e, hd, _⟩ := decode_pack neg h
  unfold isFinite; rw [hd]
theorem near_le {W D a b : Nat} (h : dist W (D * a) ≤ dist W (D * b)) (hD : 0 < D) (hb : W ≤ D * b) : a ≤ b := by
  apply Nat.le_of_not_lt
  intro hlt
  have : D * b < D * a := Nat.mul_lt_mul_of_pos_left hlt hD
  unfold dist at h
  lia
theorem near_ge {W D a b : Nat} (h : dist W (D * a) ≤ dist W (D * b)) (hD : 0 < D) (hb : D * b ≤ W) : b ≤ a := by
  apply Nat.le_of_not_lt
  intro hlt
  have : D * a < D * b := Nat.mul_lt_mul_of_pos_left hlt hD
  unfold dist at h
  lia
theorem round_in {u : Nat} {r : UInt64} {w lo hi : Int} {D : Nat} (h : SR r w D) (hD : 0 < D) (h1 : lo * 2 ^ (1074 - u) * D ≤ w) (h2 : w ≤ hi * 2 ^ (1074 - u) * D) (hlo : lo.natAbs ≤ 2 ^ 53) (hhi : hi.natAbs ≤ 2 ^ 53) : In u r lo hi := by
  obtain ⟨neg, ⟨t, rfl, htm, htt, hn⟩, hs1, hs2⟩ := h
  generalize hE : (2 ^ (1074 - u) : Nat) = E at *
  have hEi : ((2 : Int) ^ (1074 - u)) = (E : Int) := by rw [← hE]; push_cast; rfl
  rw [hEi] at h1 h2
  have hE1 : E ≤ 2 ^ 1074 := by rw [← hE]; exact Nat.pow_le_pow_right (by decide) (by lia)
  have hE0 : 0 < E := by rw [← hE]; exact Nat.two_pow_pos _
  have cb : ∀ k : Nat, k ≤ 2 ^ 53 → k * E * D ≤ 2 ^ 1127 * D := fun k hk => Nat.mul_le_mul_right _ (Nat.le_trans (Nat.mul_le_mul hk hE1) (by rw [← Nat.pow_add]; exact Nat.le_refl _))
  have habs : w.natAbs ≤ 2 ^ 1127 * D := by
    have a1 := cb _ hlo
    have a2 := cb _ hhi
    have b1 : (lo * E * D).natAbs = lo.natAbs * E * D := by rw [Int.natAbs_mul, Int.natAbs_mul, Int.natAbs_natCast, Int.natAbs_natCast]
    have b2 : (hi * E * D).natAbs = hi.natAbs * E * D := by rw [Int.natAbs_mul, Int.natAbs_mul, Int.natAbs_natCast, Int.natAbs_natCast]
    lia
  have hlt : t < infMag := by
    rcases Nat.lt_or_eq_of_le htm with h | h
    · exact h
    · exfalso
      have h3 := htt.mp h
      have h4 : D * ((2 ^ 54 - 1) * 2 ^ 2045) ≤ D * (2 * 2 ^ 1127) := by
        refine Nat.le_trans h3 ?_
        rw [Nat.mul_left_comm, Nat.mul_comm D]
        exact Nat.mul_le_mul_left _ habs
      have h5 := Nat.le_of_mul_le_mul_left h4 hD
      exact absurd h5 (by decide +kernel)
  have hnn := hn hlt
  have hval : val (pack neg t) = sgn neg (V t) := val_pack neg hlt
  have up : ∀ k : Nat, k ≤ 2 ^ 53 → w.natAbs ≤ k * E * D → V t ≤ k * E := fun k hk hw => by
    obtain ⟨t', ht'⟩ := V_has hk (1074 - u)
    rw [hE] at ht'
    rw [← ht']
    exact near_le (hnn t').1 hD (by rw [ht', Nat.mul_comm]; exact hw)
  have dn : ∀ k : Nat, k ≤ 2 ^ 53 → k * E * D ≤ w.natAbs → k * E ≤ V t := fun k hk hw => by
    obtain ⟨t', ht'⟩ := V_has hk (1074 - u)
    rw [hE] at ht'
    rw [← ht']
    exact near_ge (hnn t').1 hD (by rw [ht', Nat.mul_comm]; exact hw)
  have cast : ∀ k : Nat, ((k * E * D : Nat) : Int) = (k : Int) * E * D := fun k => by push_cast; rfl
  have cast2 : ∀ k : Nat, ((k * E : Nat) : Int) = (k : Int) * E := fun k => by push_cast; rfl
  have sg : ∀ i : Int, i < 0 → i * E * D < 0 := fun i hi0 => Int.mul_neg_of_neg_of_pos (Int.mul_neg_of_neg_of_pos hi0 (by lia)) (by lia)
  have sg2 : ∀ i : Int, 0 ≤ i → 0 ≤ i * E * D := fun i hi0 => Int.mul_nonneg (Int.mul_nonneg hi0 (by lia)) (by lia)
  have sg3 : ∀ i : Int, i ≤ 0 → i * E ≤ 0 := fun i hi0 => Int.mul_nonpos_of_nonpos_of_nonneg hi0 (by lia)
  have sg4 : ∀ i : Int, 0 ≤ i → 0 ≤ i * E := fun i hi0 => Int.mul_nonneg hi0 (by lia)
  refine ⟨fin_of_pack hlt, ?_, ?_⟩
  · rw [hval, hEi]
    cases neg with
    | false =>
      have hw := hs2 rfl
      show lo * E ≤ ((V t : Nat) : Int)
      by_cases hl : lo ≤ 0
      · have := sg3 lo hl; lia
      · have hk : (lo.toNat : Int) = lo := by lia
        have := dn lo.toNat (by lia) (by have := cast lo.toNat; rw [hk] at this; lia)
        have c2 := cast2 lo.toNat
        rw [hk] at c2
        lia
    | true =>
      have hw := hs1 rfl
      show lo * E ≤ -((V t : Nat) : Int)
      have hl : lo ≤ 0 := by
        apply Int.not_lt.mp
        intro h
        have : 0 < lo * E * D := Int.mul_pos (Int.mul_pos h (by lia)) (by lia)
        lia
      have hk : ((-lo).toNat : Int) = -lo := by lia
      have c1 := cast (-lo).toNat
      have c2 := cast2 (-lo).toNat
      rw [hk, Int.neg_mul, Int.neg_mul] at c1
      rw [hk, Int.neg_mul] at c2
      have := up (-lo).toNat (by lia) (by lia)
      lia
  · rw [hval, hEi]
    cases neg with
    | false =>
      have hw := hs2 rfl
      show ((V t : Nat) : Int) ≤ hi * E
      have hl : 0 ≤ hi := by
        apply Int.not_lt.mp
        intro h
        have := sg hi h
        lia
      have hk : (hi.toNat : Int) = hi := by lia
      have c1 := cast hi.toNat
      have c2 := cast2 hi.toNat
      rw [hk] at c1 c2
      have := up hi.toNat (by lia) (by lia)
      lia
    | true =>
      have hw := hs1 rfl
      show -((V t : Nat) : Int) ≤ hi * E
      by_cases hl : 0 ≤ hi
      · have := sg4 hi hl; lia
      · have hk : ((-hi).toNat : Int) = -hi := by lia
        have c1 := cast (-hi).toNat
        have c2 := cast2 (-hi).toNat
        rw [hk, Int.neg_mul, Int.neg_mul] at c1
        rw [hk, Int.neg_mul] at c2
        have := dn (-hi).toNat (by lia) (by lia)
        lia
end
/-! I2 -/
section
open PySem.Float64
abbrev EE (u : Nat) : Int := 2 ^ (1074 - u)
theorem EE_pos (u : Nat) : 0 < EE u := Int.pow_pos (by decide)
theorem In.fin {u : Nat} {x : UInt64} {a b : Int} (h : In u x a b) : ∃ s m e, decode x = .fin s m e := by
  have := h.1
  unfold isFinite at this
  cases hd : decode x with
  | fin s m e => exact ⟨s, m, e, rfl⟩
  | nan => rw [hd] at this; cases this
  | inf => rw [hd] at this; cases this
theorem In.wide {u : Nat} {x : UInt64} {a b c d : Int} (h : In u x a b) (h1 : c ≤ a) (h2 : b ≤ d) : In u x c d :=
  ⟨h.1, Int.le_trans (Int.mul_le_mul_of_nonneg_right h1 (Int.le_of_lt (EE_pos u))) h.2.1, Int.le_trans h.2.2 (Int.mul_le_mul_of_nonneg_right h2 (Int.le_of_lt (EE_pos u)))⟩
theorem val_zero (s : Bool) : val (zero s) = 0 ∧ isFinite (zero s) = true := by cases s <;> decide +kernel
theorem SR.of_right {r : UInt64} {w : Int} {D : Nat} (h : Right r (decide (w < 0)) w.natAbs D) : SR r w D := ⟨_, h, fun h => by have := of_decide_eq_true h; lia, fun h => by have := of_decide_eq_false h; lia⟩
theorem sum_in {u : Nat} {r : UInt64} {w lo hi : Int} {s : Bool} (h0 : w = 0 → r = zero s) (h1 : w ≠ 0 → Right r (decide (w < 0)) w.natAbs 1) (hl : lo * EE u ≤ w) (hh : w ≤ hi * EE u) (hlo : lo.natAbs ≤ 2 ^ 53) (hhi : hi.natAbs ≤ 2 ^ 53) : In u r lo hi := by
  by_cases hw : w = 0
  · rw [h0 hw]
    obtain ⟨z1, z2⟩ := val_zero s
    exact ⟨z2, by rw [z1]; rw [hw] at hl; exact hl, by rw [z1]; rw [hw] at hh; exact hh⟩
  · exact round_in (.of_right (h1 hw)) (by decide) (by simpa using hl) (by simpa using hh) hlo hhi
section
variable {u : Nat} {x y : UInt64} {a b c d : Int}
theorem add_in (hx : In u x a b) (hy : In u y c d) (h1 : (a + c).natAbs ≤ 2 ^ 53) (h2 : (b + d).natAbs ≤ 2 ^ 53) : In u (add x y) (a + c) (b + d) := by
  obtain ⟨s, m, e, dx⟩ := hx.fin
  obtain ⟨t, k, f, dy⟩ := hy.fin
  obtain ⟨r0, r1⟩ := add_right dx dy
  exact sum_in r0 r1 (by rw [Int.add_mul]; exact Int.add_le_add hx.2.1 hy.2.1) (by rw [Int.add_mul]; exact Int.add_le_add hx.2.2 hy.2.2) h1 h2
theorem sub_in (hx : In u x a b) (hy : In u y c d) (h1 : (a - d).natAbs ≤ 2 ^ 53) (h2 : (b - c).natAbs ≤ 2 ^ 53) : In u (sub x y) (a - d) (b - c) := by
  obtain ⟨s, m, e, dx⟩ := hx.fin
  obtain ⟨t, k, f, dy⟩ := hy.fin
  obtain ⟨r0, r1⟩ := sub_right dx dy
  exact sum_in r0 r1 (by rw [Int.sub_mul]; exact Int.sub_le_sub hx.2.1 hy.2.2) (by rw [Int.sub_mul]; exact Int.sub_le_sub hx.2.2 hy.2.1) h1 h2
theorem sgn_zero_le (s : Bool) (m : Nat) : (s = true → sgn s m ≤ 0) ∧ (s = false → 0 ≤ sgn s m) := by
  unfold sgn; cases s <;> simp
/-- by a number of the grid -/
theorem mul_in {lo hi : Int} (hx : In u x a b) (hy : In u y c c) (hc : 0 ≤ c) (hu : u ≤ 1074) (l1 : lo * 2 ^ u ≤ a * c) (l2 : b * c ≤ hi * 2 ^ u) (h1 : lo.natAbs ≤ 2 ^ 53) (h2 : hi.natAbs ≤ 2 ^ 53) : In u (mul x y) lo hi := by
  obtain ⟨s, m, e, dx⟩ := hx.fin
  obtain ⟨t, k, f, dy⟩ := hy.fin
  have hr := mul_right dx dy
  have vy : val y = c * EE u := Int.le_antisymm hy.2.2 hy.2.1
  have E0 := EE_pos u
  have vy0 : 0 ≤ val y := by rw [vy]; exact Int.mul_nonneg hc (Int.le_of_lt E0)
  have e1 : ((2 ^ 1074 : Nat) : Int) = 2 ^ u * EE u := by
    rw [show EE u = 2 ^ (1074 - u) from rfl, ← Int.pow_add, Nat.add_sub_cancel' hu]; push_cast; rfl
  refine round_in (w := val x * val y) (D := 2 ^ 1074) ⟨(s != t), ?_, ?_, ?_⟩ (Nat.two_pow_pos _) ?_ ?_ h1 h2
  · rw [Int.natAbs_mul]; exact hr
  · intro hst
    have vx := val_eq dx
    have vyy := val_eq dy
    by_cases hz : val y = 0
    · rw [hz]; simp
    · cases t with
      | true => have := (sgn_zero_le true (k * 2 ^ (f + 1074).toNat)).1 rfl; rw [← vyy] at this; lia
      | false =>
        have hs : s = true := by cases s <;> simp at hst ⊢
        subst hs
        have := (sgn_zero_le true (m * 2 ^ (e + 1074).toNat)).1 rfl
        rw [← vx] at this
        exact Int.mul_nonpos_of_nonpos_of_nonneg this vy0
  · intro hst
    have vx := val_eq dx
    have vyy := val_eq dy
    by_cases hz : val y = 0
    · rw [hz]; simp
    · cases t with
      | true => have := (sgn_zero_le true (k * 2 ^ (f + 1074).toNat)).1 rfl; rw [← vyy] at this; lia
      | false =>
        have hs : s = false := by cases s <;> simp at hst ⊢
        subst hs
        have := (sgn_zero_le false (m * 2 ^ (e + 1074).toNat)).2 rfl
        rw [← vx] at this
        exact Int.mul_nonneg this vy0
  · rw [e1, vy]
    have : lo * EE u * (2 ^ u * EE u) = (lo * 2 ^ u) * (EE u * EE u) := by ac_rfl
    rw [this]
    have h3 : a * EE u * (c * EE u) ≤ val x * (c * EE u) := Int.mul_le_mul_of_nonneg_right hx.2.1 (Int.mul_nonneg hc (Int.le_of_lt E0))
    have h4 : a * EE u * (c * EE u) = (a * c) * (EE u * EE u) := by ac_rfl
    rw [h4] at h3
    exact Int.le_trans (Int.mul_le_mul_of_nonneg_right l1 (Int.mul_nonneg (Int.le_of_lt E0) (Int.le_of_lt E0))) h3
  · rw [e1, vy]
    have : hi * EE u * (2 ^ u * EE u) = (hi * 2 ^ u) * (EE u * EE u) := by ac_rfl
    rw [this]
    have h3 : val x * (c * EE u) ≤ b * EE u * (c * EE u) := Int.mul_le_mul_of_nonneg_right hx.2.2 (Int.mul_nonneg hc (Int.le_of_lt E0))
    have h4 : b * EE u * (c * EE u) = (b * c) * (EE u * EE u) := by ac_rfl
    rw [h4] at h3
    exact Int.le_trans h3 (Int.mul_le_mul_of_nonneg_right l2 (Int.mul_nonneg (Int.le_of_lt E0) (Int.le_of_lt E0)))
theorem div_in {lo hi : Int} (hx : In u x a b) (hy : In u y c d) (hc : 0 < c) (hu : u ≤ 1074) (l1 : lo * c ≤ a * 2 ^ u) (l2 : lo * d ≤ a * 2 ^ u) (l3 : b * 2 ^ u ≤ hi * c) (l4 : b * 2 ^ u ≤ hi * d) (h1 : lo.natAbs ≤ 2 ^ 53) (h2 : hi.natAbs ≤ 2 ^ 53) : In u (div x y) lo hi := by
  obtain ⟨s, m, e, dx⟩ := hx.fin
  obtain ⟨t, k, f, dy⟩ := hy.fin
  have E0 := EE_pos u
  have vy0 : 0 < val y := Int.lt_of_lt_of_le (Int.mul_pos hc E0) hy.2.1
  have vx := val_eq dx
  have vyy := val_eq dy
  have hk : k ≠ 0 := by
    intro hk
    subst hk
    rw [vyy] at vy0
    simp [sgn] at vy0
  have ht : t = false := by
    cases t with
    | false => rfl
    | true => have := (sgn_zero_le true (k * 2 ^ (f + 1074).toNat)).1 rfl; rw [← vyy] at this; lia
  subst ht
  have hr := div_right dx dy hk
  have e1 : ((2 ^ 1074 : Nat) : Int) = 2 ^ u * EE u := by
    rw [show EE u = 2 ^ (1074 - u) from rfl, ← Int.pow_add, Nat.add_sub_cancel' hu]; push_cast; rfl
  have vyn : (((val y).natAbs : Nat) : Int) = val y := by lia
  have key1 : lo * val y ≤ a * 2 ^ u * EE u := by
    by_cases hl : 0 ≤ lo
    · have q1 : lo * val y ≤ lo * (d * EE u) := Int.mul_le_mul_of_nonneg_left hy.2.2 hl
      have q2 : lo * d * EE u ≤ a * 2 ^ u * EE u := Int.mul_le_mul_of_nonneg_right l2 (Int.le_of_lt E0)
      rw [Int.mul_assoc] at q2
      exact Int.le_trans q1 q2
    · have q1 : lo * val y ≤ lo * (c * EE u) := Int.mul_le_mul_of_nonpos_left (by lia) hy.2.1
      have q2 : lo * c * EE u ≤ a * 2 ^ u * EE u := Int.mul_le_mul_of_nonneg_right l1 (Int.le_of_lt E0)
      rw [Int.mul_assoc] at q2
      exact Int.le_trans q1 q2
  have key2 : b * 2 ^ u * EE u ≤ hi * val y := by
    by_cases hl : 0 ≤ hi
    · have q1 : hi * (c * EE u) ≤ hi * val y := Int.mul_le_mul_of_nonneg_left hy.2.1 hl
      have q2 : b * 2 ^ u * EE u ≤ hi * c * EE u := Int.mul_le_mul_of_nonneg_right l3 (Int.le_of_lt E0)
      rw [Int.mul_assoc hi] at q2
      exact Int.le_trans q2 q1
    · have q1 : hi * (d * EE u) ≤ hi * val y := Int.mul_le_mul_of_nonpos_left (by lia) hy.2.2
      have q2 : b * 2 ^ u * EE u ≤ hi * d * EE u := Int.mul_le_mul_of_nonneg_right l4 (Int.le_of_lt E0)
      rw [Int.mul_assoc hi] at q2
      exact Int.le_trans q2 q1
  refine round_in (w := val x * ((2 ^ 1074 : Nat) : Int)) (D := (val y).natAbs) ⟨(s != false), ?_, ?_, ?_⟩ (by lia) ?_ ?_ h1 h2
  · rw [Int.natAbs_mul, Int.natAbs_natCast]; exact hr
  · intro hst
    have hs : s = true := by simpa using hst
    subst hs
    have := (sgn_zero_le true (m * 2 ^ (e + 1074).toNat)).1 rfl
    rw [← vx] at this
    exact Int.mul_nonpos_of_nonpos_of_nonneg this (by lia)
  · intro hst
    have hs : s = false := by simpa using hst
    subst hs
    have := (sgn_zero_le false (m * 2 ^ (e + 1074).toNat)).2 rfl
    rw [← vx] at this
    exact Int.mul_nonneg this (by lia)
  · rw [vyn, e1]
    have q : a * EE u * (2 ^ u * EE u) ≤ val x * (2 ^ u * EE u) := Int.mul_le_mul_of_nonneg_right hx.2.1 (Int.mul_nonneg (Int.le_of_lt (p2' u)) (Int.le_of_lt E0))
    refine Int.le_trans ?_ q
    have e2 : lo * EE u * val y = lo * val y * EE u := by ac_rfl
    have e3 : a * EE u * (2 ^ u * EE u) = a * 2 ^ u * EE u * EE u := by ac_rfl
    rw [show lo * 2 ^ (1074 - u) * val y = lo * val y * EE u from e2, e3]
    exact Int.mul_le_mul_of_nonneg_right key1 (Int.le_of_lt E0)
  · rw [vyn, e1]
    have q : val x * (2 ^ u * EE u) ≤ b * EE u * (2 ^ u * EE u) := Int.mul_le_mul_of_nonneg_right hx.2.2 (Int.mul_nonneg (Int.le_of_lt (p2' u)) (Int.le_of_lt E0))
    refine Int.le_trans q ?_
    have e2 : hi * EE u * val y = hi * val y * EE u := by ac_rfl
    have e3 : b * EE u * (2 ^ u * EE u) = b * 2 ^ u * EE u * EE u := by ac_rfl
    rw [show hi * 2 ^ (1074 - u) * val y = hi * val y * EE u from e2, e3]
    exact Int.mul_le_mul_of_nonneg_right key2 (Int.le_of_lt E0)
where p2' (n : Nat) : (0 : Int) < 2 ^ n := Int.pow_pos (by decide)
end
end
/-! I3 -/
section
open PySem.Float64
theorem e1074 {u : Nat} (hu : u ≤ 1074) : ((2 ^ 1074 : Nat) : Int) = 2 ^ u * EE u := by
  rw [show EE u = 2 ^ (1074 - u) from rfl, ← Int.pow_add, Nat.add_sub_cancel' hu]; push_cast; rfl
/-- a fraction of whole numbers -/
theorem frac_in {u : Nat} {n lo hi : Int} {d : Nat} (hd : 0 < d) (hu : u ≤ 1074) (l1 : lo * d ≤ n * 2 ^ u) (l2 : n * 2 ^ u ≤ hi * d) (h1 : lo.natAbs ≤ 2 ^ 53) (h2 : hi.natAbs ≤ 2 ^ 53) : In u (ofFrac (decide (n < 0)) n.natAbs d) lo hi := by
  have E0 := EE_pos u
  refine round_in (w := n * ((2 ^ 1074 : Nat) : Int)) (D := d) ⟨decide (n < 0), ?_, fun h => ?_, fun h => ?_⟩ hd ?_ ?_ h1 h2
  · rw [Int.natAbs_mul, Int.natAbs_natCast]
    exact ofFrac_right hd rfl hd
  · exact Int.mul_nonpos_of_nonpos_of_nonneg (by have := of_decide_eq_true h; lia) (by lia)
  · exact Int.mul_nonneg (by have := of_decide_eq_false h; lia) (by lia)
  · rw [e1074 hu]
    have e2 : lo * EE u * d = lo * d * EE u := by ac_rfl
    rw [show lo * 2 ^ (1074 - u) * d = lo * d * EE u from e2, ← Int.mul_assoc]
    exact Int.mul_le_mul_of_nonneg_right l1 (Int.le_of_lt E0)
  · rw [e1074 hu]
    have e2 : hi * EE u * d = hi * d * EE u := by ac_rfl
    rw [show hi * 2 ^ (1074 - u) * d = hi * d * EE u from e2, ← Int.mul_assoc]
    exact Int.mul_le_mul_of_nonneg_right l2 (Int.le_of_lt E0)
theorem fin_of {x : UInt64} (h : isFinite x = true) : ∃ s m e, decode x = .fin s m e := by
  unfold isFinite at h
  cases hd : decode x with
  | fin s m e => exact ⟨s, m, e, rfl⟩
  | nan => rw [hd] at h; cases h
  | inf => rw [hd] at h; cases h
section
variable {u : Nat} {x y : UInt64} {a b c d : Int}
theorem cmp_val (hx : isFinite x = true) (hy : isFinite y = true) : cmp x y = some (compare (val x) (val y)) := by
  obtain ⟨s, m, e, dx⟩ := fin_of hx
  obtain ⟨t, k, f, dy⟩ := fin_of hy
  exact cmp_right dx dy
theorem flt_iff (hx : isFinite x = true) (hy : isFinite y = true) : (Float64.cmp x y == some .lt) = decide (val x < val y) := by
  rw [cmp_val hx hy]
  by_cases h : val x < val y
  · rw [Int.compare_eq_lt.mpr h, decide_eq_true h]; rfl
  · rw [decide_eq_false h]
    have : compare (val x) (val y) ≠ .lt := fun e => h (Int.compare_eq_lt.mp e)
    cases hc : compare (val x) (val y) with
    | lt => exact absurd hc this
    | eq => rfl
    | gt => rfl
theorem feq_iff (hx : isFinite x = true) (hy : isFinite y = true) : (Float64.cmp x y == some .eq) = decide (val x = val y) := by
  rw [cmp_val hx hy]
  by_cases h : val x = val y
  · rw [Int.compare_eq_eq.mpr h, decide_eq_true h]; rfl
  · rw [decide_eq_false h]
    have : compare (val x) (val y) ≠ .eq := fun e => h (Int.compare_eq_eq.mp e)
    cases hc : compare (val x) (val y) with
    | eq => exact absurd hc this
    | lt => rfl
    | gt => rfl
theorem In.lt_of (hx : In u x a b) (hy : In u y c d) (h : b < c) : val x < val y :=
  Int.lt_of_le_of_lt hx.2.2 (Int.lt_of_lt_of_le (Int.mul_lt_mul_of_pos_right h (EE_pos u)) hy.2.1)
theorem In.le_of (hx : In u x a b) (hy : In u y c d) (h : b ≤ c) : val x ≤ val y :=
  Int.le_trans hx.2.2 (Int.le_trans (Int.mul_le_mul_of_nonneg_right h (Int.le_of_lt (EE_pos u))) hy.2.1)
theorem mx_in (hx : In u x a b) (hy : In u y c d) : In u (mx x y) (max a c) (max b d) ∧ (val (mx x y) = max (val x) (val y)) := by
  have E0 := Int.le_of_lt (EE_pos u)
  unfold mx
  rw [flt_iff hx.1 hy.1]
  by_cases h : val x < val y
  · rw [decide_eq_true h, if_pos rfl]
    refine ⟨⟨hy.1, ?_, Int.le_trans hy.2.2 (Int.mul_le_mul_of_nonneg_right (by lia) E0)⟩, by lia⟩
    rcases Int.le_total a c with q | q
    · rw [Int.max_eq_right q]; exact hy.2.1
    · rw [Int.max_eq_left q]; exact Int.le_trans hx.2.1 (Int.le_of_lt h)
  · rw [decide_eq_false h, if_neg (by decide)]
    refine ⟨⟨hx.1, ?_, Int.le_trans hx.2.2 (Int.mul_le_mul_of_nonneg_right (by lia) E0)⟩, by lia⟩
    rcases Int.le_total a c with q | q
    · rw [Int.max_eq_right q]; exact Int.le_trans hy.2.1 (by lia)
    · rw [Int.max_eq_left q]; exact hx.2.1
theorem mn_in (hx : In u x a b) (hy : In u y c d) : In u (mn x y) (min a c) (min b d) ∧ (val (mn x y) = min (val x) (val y)) := by
  have E0 := Int.le_of_lt (EE_pos u)
  unfold mn
  rw [flt_iff hy.1 hx.1]
  by_cases h : val y < val x
  · rw [decide_eq_true h, if_pos rfl]
    refine ⟨⟨hy.1, Int.le_trans (Int.mul_le_mul_of_nonneg_right (by lia) E0) hy.2.1, ?_⟩, by lia⟩
    rcases Int.le_total b d with q | q
    · rw [Int.min_eq_left q]; exact Int.le_trans (Int.le_of_lt h) hx.2.2
    · rw [Int.min_eq_right q]; exact hy.2.2
  · rw [decide_eq_false h, if_neg (by decide)]
    refine ⟨⟨hx.1, Int.le_trans (Int.mul_le_mul_of_nonneg_right (by lia) E0) hx.2.1, ?_⟩, by lia⟩
    rcases Int.le_total b d with q | q
    · rw [Int.min_eq_left q]; exact hx.2.2
    · rw [Int.min_eq_right q]; exact Int.le_trans (by lia) hy.2.2
end
theorem decode_one : decode 0x3ff0000000000000 = .fin false (2 ^ 52) (-52) := by
  have h : (match decode 0x3ff0000000000000 with | .fin s m e => s == false && m == 2 ^ 52 && e == -52 | _ => false) = true := by decide +kernel
  cases hd : decode 0x3ff0000000000000 with
  | fin s m e =>
    rw [hd] at h
    simp only [Bool.and_eq_true, beq_iff_eq] at h
    rw [h.1.1, h.1.2, h.2]
  | nan => rw [hd] at h; cases h
  | inf => rw [hd] at h; cases h
theorem val_one : val 0x3ff0000000000000 = ((2 ^ 1074 : Nat) : Int) := by decide +kernel
theorem fm_aux {m A B T X P : Nat} (h1 : X = m * 2 ^ B * 2 ^ T) (h2 : P = 2 ^ A * 2 ^ T) : m * 2 ^ B % 2 ^ A * 2 ^ T = X % P := by rw [h1, h2, Nat.mul_mod_mul_right]
theorem fm_aux2 {a b c d X P : Nat} (h : a * P = b * c) (k : b = X % P) : a * P * 1 = X % P * c := by rw [Nat.mul_one, h, k]
/-- fmod by one -/
theorem fmod_one {x : UInt64} {s : Bool} {m : Nat} {e : Int} (hx : decode x = .fin s m e) : Right (fmod x 0x3ff0000000000000) s ((val x).natAbs % 2 ^ 1074) 1 := by
  have he := decode_ge hx
  unfold fmod
  rw [hx, decode_one]
  simp only
  rw [if_neg (by decide)]
  unfold align
  simp only
  have hp : (sgn false (m * 2 ^ (e - min e (-52)).toNat)).toNat = m * 2 ^ (e - min e (-52)).toNat := by unfold sgn; exact Int.toNat_natCast _
  have hq : (sgn false (2 ^ 52 * 2 ^ (-52 - min e (-52)).toNat)).toNat = 2 ^ (-min e (-52)).toNat := by
    unfold sgn
    rw [if_neg (by decide), Int.toNat_natCast, ← Nat.pow_add]
    congr 1
    lia
  rw [hp, hq]
  show Right (ofFrac s (shift (m * 2 ^ (e - min e (-52)).toNat % 2 ^ (-min e (-52)).toNat) 1 (min e (-52))).1 (shift (m * 2 ^ (e - min e (-52)).toNat % 2 ^ (-min e (-52)).toNat) 1 (min e (-52))).2) s _ _
  have hsh := shift_one (m * 2 ^ (e - min e (-52)).toNat % 2 ^ (-min e (-52)).toNat) (min e (-52)) 1074 (by lia)
  have hpos := shift_pos (m * 2 ^ (e - min e (-52)).toNat % 2 ^ (-min e (-52)).toNat) 1 (min e (-52)) (by decide)
  have k1 : m * 2 ^ (e + 1074).toNat = m * 2 ^ (e - min e (-52)).toNat * 2 ^ (min e (-52) + 1074).toNat := by
    have q : (e - min e (-52)).toNat + (min e (-52) + 1074).toNat = (e + 1074).toNat := by lia
    rw [Nat.mul_assoc, ← Nat.pow_add, q]
  have k2 : (2 : Nat) ^ 1074 = 2 ^ (-min e (-52)).toNat * 2 ^ (min e (-52) + 1074).toNat := by
    have q : (-min e (-52)).toNat + (min e (-52) + 1074).toNat = 1074 := by lia
    rw [← Nat.pow_add, q]
  have k3 := fm_aux (A := (-min e (-52)).toNat) ((val_natAbs hx).trans k1) k2
  exact ofFrac_right hpos (fm_aux2 (d := 0) hsh k3) (by decide)
theorem right_zero {r : UInt64} {neg : Bool} {W : Nat} (h : Right r neg W 1) (hf : isFinite r = true) (hz : val r = 0) : W = 0 := by
  obtain ⟨t, rfl, htm, htt, hn⟩ := h
  have hlt : t < infMag := by
    rcases Nat.lt_or_eq_of_le htm with h | h
    · exact h
    · exfalso
      subst h
      cases neg with
      | true => exact absurd hf (by decide +kernel)
      | false => exact absurd hf (by decide +kernel)
  rw [val_pack neg hlt] at hz
  have hV : V t = 0 := by
    unfold sgn at hz
    cases neg <;> simp at hz <;> exact hz
  have h1 := (hn hlt 1).1
  rw [hV, show V 1 = 1 by decide] at h1
  unfold dist at h1
  lia
theorem isZero_iff {x : UInt64} (hf : isFinite x = true) : isZero x = decide (val x = 0) := by
  obtain ⟨s, m, e, hd⟩ := fin_of hf
  unfold isZero
  rw [hd, val_eq hd]
  cases m with
  | zero => simp [sgn]
  | succ m =>
    have : sgn s ((m + 1) * 2 ^ (e + 1074).toNat) ≠ 0 := by
      have hp : 0 < (m + 1) * 2 ^ (e + 1074).toNat := Nat.mul_pos (by lia) (Nat.two_pow_pos _)
      unfold sgn
      split <;> lia
    rw [decide_eq_false this]
    rfl
end
/-! I4 -/
section
open PySem.Float64
theorem pow_pos' (n : Nat) : (0 : Int) < 2 ^ n := Int.pow_pos (by decide)
theorem one_in {u : Nat} (hu : u ≤ 1074) : In u 0x3ff0000000000000 (2 ^ u) (2 ^ u) := by
  have : val 0x3ff0000000000000 = 2 ^ u * EE u := by rw [val_one, e1074 hu]
  exact ⟨by decide +kernel, by rw [this]; exact Int.le_refl _, by rw [this]; exact Int.le_refl _⟩
theorem zero_res : isFinite (copysign (zero false) 0x3ff0000000000000) = true ∧ val (copysign (zero false) 0x3ff0000000000000) = 0 := by decide +kernel
theorem lt_one : Float64.lt 0x3ff0000000000000 (zero false) = false := by decide +kernel
theorem divmod_one (x : UInt64) : hmod x = if isZero (fmod x 0x3ff0000000000000) then copysign (zero false) 0x3ff0000000000000 else if false != Float64.lt (fmod x 0x3ff0000000000000) (zero false) then add (fmod x 0x3ff0000000000000) 0x3ff0000000000000 else fmod x 0x3ff0000000000000 := by
  unfold hmod divmod
  simp only [lt_one]
  split
  · rfl
  · split <;> rfl
theorem lt_zero {m : UInt64} (hf : isFinite m = true) : Float64.lt m (zero false) = decide (val m < 0) := by
  unfold Float64.lt
  rw [flt_iff hf (val_zero false).2, (val_zero false).1]
/-- the remainder by one -/
theorem hmod_in {u : Nat} {x : UInt64} {lo hi k : Int} (hu : u ≤ 1074) (hx : In u x lo hi) (h1 : k * (2 ^ u * EE u) ≤ val x) (h2 : val x < (k + 1) * (2 ^ u * EE u)) (hlo : k * 2 ^ u ≤ lo) (hhi : hi ≤ (k + 1) * 2 ^ u)
    (b1 : (lo - k * 2 ^ u).natAbs ≤ 2 ^ 52) (b2 : (hi - k * 2 ^ u).natAbs ≤ 2 ^ 52) (b3 : u ≤ 50) : In u (hmod x) (lo - k * 2 ^ u) (hi - k * 2 ^ u) := by
  have E0 := EE_pos u
  have hU := pow_pos' u
  have hUs : (2 : Int) ^ u ≤ 2 ^ 50 := by exact_mod_cast Nat.pow_le_pow_right (n := 2) (by decide) b3
  have c1 : (lo - k * 2 ^ u - 2 ^ u).natAbs ≤ 2 ^ 53 := by lia
  have c2 : (hi - k * 2 ^ u - 2 ^ u).natAbs ≤ 2 ^ 53 := by lia
  have c3 : (lo - k * 2 ^ u).natAbs ≤ 2 ^ 53 := by lia
  have c4 : (hi - k * 2 ^ u).natAbs ≤ 2 ^ 53 := by lia
  have hxl := hx.2.1
  have hxh := hx.2.2
  obtain ⟨s, m, e, hd⟩ := hx.fin
  have hr := fmod_one hd
  have vx := val_eq hd
  have eS : ((2 ^ 1074 : Nat) : Int) = 2 ^ u * EE u := e1074 hu
  rw [show (2 : Int) ^ (1074 - u) = EE u from rfl] at hxl hxh
  generalize hP : (2 ^ 1074 : Nat) = P at *
  generalize hEE : EE u = Eu at *
  have eP : (P : Int) = 2 ^ u * Eu := eS
  generalize hU2 : (2 : Int) ^ u = U at *
  have hP0 : 0 < P := by have := Int.mul_pos hU E0; lia
  have dm := Nat.div_add_mod (val x).natAbs P
  have ml := Nat.mod_lt (val x).natAbs hP0
  generalize hW : (val x).natAbs % P = W at *
  generalize hJ : (val x).natAbs / P = J at *
  have dmi : (P : Int) * J + W = (val x).natAbs := by exact_mod_cast dm
  rw [← eP] at h1 h2
  have lE : (lo - k * U) * Eu = lo * Eu - k * P := by rw [Int.sub_mul, Int.mul_assoc, ← eP]
  have hE : (hi - k * U) * Eu = hi * Eu - k * P := by rw [Int.sub_mul, Int.mul_assoc, ← eP]
  rw [divmod_one]
  by_cases hv : 0 ≤ val x
  · -- from nought up
    have hJk : (J : Int) = k := by
      have q1 : (P : Int) * J ≤ val x := by lia
      have q2 : val x < (P : Int) * J + P := by lia
      have q3 : k * P < P * J + P := by lia
      have q4 : (P : Int) * J < (k + 1) * P := by lia
      have r1 : k < J + 1 := by
        apply Int.lt_of_mul_lt_mul_right (a := P) _ (by lia)
        rw [Int.add_mul, Int.mul_comm (J : Int)]; lia
      have r2 : (J : Int) < k + 1 := by
        apply Int.lt_of_mul_lt_mul_right (a := P) _ (by lia)
        rw [Int.mul_comm (J : Int)]; lia
      lia
    have hw : (W : Int) = val x - k * P := by rw [← hJk, Int.mul_comm (J : Int)]; lia
    have hs : SR (fmod x 0x3ff0000000000000) (W : Int) 1 := by
      refine ⟨s, by rw [Int.natAbs_natCast]; exact hr, fun h => ?_, fun _ => by lia⟩
      subst h
      have := (sgn_zero_le true (m * 2 ^ (e + 1074).toNat)).1 rfl
      rw [← vx] at this
      have hv0 : val x = 0 := by lia
      rw [hv0] at dm
      have : W = 0 := by
        have : P * J + W = 0 := dm
        lia
      lia
    have hm : In u (fmod x 0x3ff0000000000000) (lo - k * U) (hi - k * U) := by
      refine round_in hs (by decide) ?_ ?_ c3 c4
      · rw [show (2 : Int) ^ (1074 - u) = Eu from hEE]; simp only [Int.natCast_one, Int.mul_one]; lia
      · rw [show (2 : Int) ^ (1074 - u) = Eu from hEE]; simp only [Int.natCast_one, Int.mul_one]; lia
    rw [isZero_iff hm.1, lt_zero hm.1]
    have hm1 := hm.2.1
    rw [show (2 : Int) ^ (1074 - u) = Eu from hEE] at hm1
    have hm0 : 0 ≤ val (fmod x 0x3ff0000000000000) := Int.le_trans (Int.mul_nonneg (by lia) (Int.le_of_lt E0)) hm1
    by_cases hz : val (fmod x 0x3ff0000000000000) = 0
    · rw [decide_eq_true hz, if_pos rfl]
      have r := hm.2
      rw [hz] at r
      exact ⟨zero_res.1, by rw [zero_res.2]; exact r.1, by rw [zero_res.2]; exact r.2⟩
    · rw [decide_eq_false hz, if_neg (by decide), decide_eq_false (by lia), if_neg (by decide)]
      exact hm
  · -- below nought
    have hst : s = true := by
      cases s with
      | true => rfl
      | false => have := (sgn_zero_le false (m * 2 ^ (e + 1074).toNat)).2 rfl; rw [← vx] at this; lia
    subst hst
    have hvn : ((val x).natAbs : Int) = -val x := by lia
    by_cases hW0 : W = 0
    · have hz : isFinite (fmod x 0x3ff0000000000000) = true ∧ val (fmod x 0x3ff0000000000000) = 0 := by
        have hs : SR (fmod x 0x3ff0000000000000) 0 1 := ⟨true, by rw [hW0] at hr; exact hr, fun _ => Int.le_refl _, fun h => nomatch h⟩
        have hm : In u (fmod x 0x3ff0000000000000) 0 0 := round_in hs (by decide) (by simp) (by simp) (by decide) (by decide)
        refine ⟨hm.1, ?_⟩
        have a1 := hm.2.1
        have a2 := hm.2.2
        rw [Int.zero_mul] at a1 a2
        lia
      rw [isZero_iff hz.1, hz.2, decide_eq_true rfl, if_pos rfl]
      have hJk : -(J : Int) = k := by
        have q : val x = -(P * J) := by lia
        have r1 : k ≤ -(J : Int) := by
          apply Int.le_of_mul_le_mul_right (a := P) _ (by lia)
          rw [Int.neg_mul, Int.mul_comm (J : Int)]; lia
        have r2 : -(J : Int) < k + 1 := by
          apply Int.lt_of_mul_lt_mul_right (a := P) _ (by lia)
          rw [Int.neg_mul, Int.mul_comm (J : Int)]; lia
        lia
      have hvk : val x = k * P := by rw [← hJk, Int.neg_mul, Int.mul_comm (J : Int)]; lia
      refine ⟨zero_res.1, ?_, ?_⟩
      · rw [zero_res.2, show (2 : Int) ^ (1074 - u) = Eu from hEE]; lia
      · rw [zero_res.2, show (2 : Int) ^ (1074 - u) = Eu from hEE]; lia
    · have hJk : -(J : Int) = k + 1 := by
        have q : val x = -(P * J) - W := by lia
        have r1 : -(J : Int) ≤ k + 1 := by
          apply Int.le_of_lt_add_one
          apply Int.lt_of_mul_lt_mul_right (a := P) _ (by lia)
          rw [Int.neg_mul, Int.mul_comm (J : Int), Int.add_mul, Int.add_mul]
          rw [Int.add_mul] at h2
          lia
        have r2 : k < -(J : Int) := by
          apply Int.lt_of_mul_lt_mul_right (a := P) _ (by lia)
          rw [Int.neg_mul, Int.mul_comm (J : Int)]; lia
        lia
      have hw : -(W : Int) = val x - (k + 1) * P := by rw [← hJk, Int.neg_mul, Int.mul_comm (J : Int)]; lia
      have hs : SR (fmod x 0x3ff0000000000000) (-(W : Int)) 1 := ⟨true, by rw [Int.natAbs_neg, Int.natAbs_natCast]; exact hr, fun _ => by lia, fun h => nomatch h⟩
      have e3 : (lo - k * U - U) * Eu = lo * Eu - (k + 1) * P := by rw [Int.sub_mul, lE, Int.add_mul, eP]; lia
      have e4 : (hi - k * U - U) * Eu = hi * Eu - (k + 1) * P := by rw [Int.sub_mul, hE, Int.add_mul, eP]; lia
      have hm : In u (fmod x 0x3ff0000000000000) (lo - k * U - U) (hi - k * U - U) := by
        refine round_in hs (by decide) ?_ ?_ c1 c2
        · rw [show (2 : Int) ^ (1074 - u) = Eu from hEE]; simp only [Int.natCast_one, Int.mul_one]; lia
        · rw [show (2 : Int) ^ (1074 - u) = Eu from hEE]; simp only [Int.natCast_one, Int.mul_one]; lia
      have hnz : val (fmod x 0x3ff0000000000000) ≠ 0 := fun h => hW0 (right_zero hr hm.1 h)
      have hm2 := hm.2.2
      rw [show (2 : Int) ^ (1074 - u) = Eu from hEE] at hm2
      have hle : (hi - k * U - U) * Eu ≤ 0 := Int.mul_nonpos_of_nonpos_of_nonneg (by rw [Int.add_mul] at hhi; lia) (Int.le_of_lt E0)
      rw [isZero_iff hm.1, lt_zero hm.1, decide_eq_false hnz, if_neg (by decide), decide_eq_true (by lia), if_pos (by decide)]
      have h1' := one_in hu
      rw [show (2 : Int) ^ u = U from hU2] at h1'
      have := add_in hm h1' (by lia) (by lia)
      rw [show lo - k * U - U + U = lo - k * U by lia, show hi - k * U - U + U = hi - k * U by lia] at this
      exact this
/-- int() -/
theorem toI_in {u : Nat} {x : UInt64} {lo hi K : Int} (hu : u ≤ 1074) (hx : In u x lo hi) (hK : 0 ≤ K) (h1 : K * 2 ^ u ≤ lo) (h2 : hi < (K + 1) * 2 ^ u) : toI x = K := by
  have E0 := EE_pos u
  obtain ⟨s, m, e, hd⟩ := hx.fin
  have he := decode_ge hd
  have vx := val_eq hd
  have eS : ((2 ^ 1074 : Nat) : Int) = 2 ^ u * EE u := e1074 hu
  have hxl := hx.2.1
  have hxh := hx.2.2
  rw [show (2 : Int) ^ (1074 - u) = EE u from rfl] at hxl hxh
  have l1 : K * ((2 ^ 1074 : Nat) : Int) ≤ val x := by
    rw [eS, ← Int.mul_assoc]
    exact Int.le_trans (Int.mul_le_mul_of_nonneg_right h1 (Int.le_of_lt E0)) hxl
  have l2 : val x < (K + 1) * ((2 ^ 1074 : Nat) : Int) := by
    rw [eS, ← Int.mul_assoc]
    exact Int.lt_of_le_of_lt hxh (Int.mul_lt_mul_of_pos_right h2 E0)
  unfold toI
  rw [hd]
  show truncOf s m e = K
  have hKP : 0 ≤ K * ((2 ^ 1074 : Nat) : Int) := Int.mul_nonneg hK (by lia)
  cases s with
  | true =>
    have := (sgn_zero_le true (m * 2 ^ (e + 1074).toNat)).1 rfl
    rw [← vx] at this
    have hv0 : val x = 0 := by lia
    have hm : m = 0 := by
      have h3 := val_natAbs hd
      rw [hv0] at h3
      have h4 : m * 2 ^ (e + 1074).toNat = 0 := h3.symm
      rcases Nat.mul_eq_zero.mp h4 with h | h
      · exact h
      · exact absurd h (Nat.ne_of_gt (Nat.two_pow_pos _))
    have hK0 : K = 0 := by
      by_cases h : K = 0
      · exact h
      · have : 0 < K * ((2 ^ 1074 : Nat) : Int) := Int.mul_pos (by lia) (by have := Nat.two_pow_pos 1074; lia)
        lia
    subst hm hK0
    unfold truncOf ceilOf floorOf sgn
    simp
  | false =>
    have hv : val x = ((m * 2 ^ (e + 1074).toNat : Nat) : Int) := vx
    unfold truncOf floorOf
    simp only [Bool.false_eq_true, if_false]
    by_cases he0 : e ≥ 0
    · rw [if_pos he0]
      have q : m * 2 ^ (e + 1074).toNat = m * 2 ^ e.toNat * 2 ^ 1074 := by
        have q1 : e.toNat + 1074 = (e + 1074).toNat := by lia
        rw [Nat.mul_assoc, ← Nat.pow_add, q1]
      rw [hv, q] at l1 l2
      have hp := Nat.two_pow_pos 1074
      generalize (2 ^ 1074 : Nat) = P at *
      have e2 : ((m * 2 ^ e.toNat * P : Nat) : Int) = ((m * 2 ^ e.toNat : Nat) : Int) * P := by push_cast; rfl
      rw [e2] at l1 l2
      have r1 := Int.le_of_mul_le_mul_right l1 (by lia)
      have r2 := Int.lt_of_mul_lt_mul_right l2 (by lia)
      have e3 : sgn false m * 2 ^ e.toNat = ((m * 2 ^ e.toNat : Nat) : Int) := by unfold sgn; push_cast; rfl
      rw [e3]; lia
    · rw [if_neg he0]
      have q : (2 : Nat) ^ 1074 = 2 ^ (-e).toNat * 2 ^ (e + 1074).toNat := by
        have q1 : (-e).toNat + (e + 1074).toNat = 1074 := by lia
        rw [← Nat.pow_add, q1]
      rw [hv, q] at l1 l2
      have hp := Nat.two_pow_pos (e + 1074).toNat
      have hp2 := Nat.two_pow_pos (-e).toNat
      generalize (2 ^ (e + 1074).toNat : Nat) = P at *
      have e2 : ((m * P : Nat) : Int) = (m : Int) * P := by push_cast; rfl
      have e4 : ∀ i : Int, i * ((2 ^ (-e).toNat * P : Nat) : Int) = i * ((2 ^ (-e).toNat : Nat) : Int) * P := fun i => by rw [Int.mul_assoc]; push_cast; rfl
      rw [e2, e4] at l1 l2
      have r1 := Int.le_of_mul_le_mul_right l1 (by lia)
      have r2 := Int.lt_of_mul_lt_mul_right l2 (by lia)
      have e3 : sgn false m = (m : Int) := rfl
      have e5 : ((2 : Int) ^ (-e).toNat) = ((2 ^ (-e).toNat : Nat) : Int) := by push_cast; rfl
      rw [e3, e5, Int.fdiv_eq_ediv_of_nonneg _ (by lia)]
      have a1 := Int.le_ediv_of_mul_le (show (0 : Int) < ((2 ^ (-e).toNat : Nat) : Int) by lia) r1
      have a2 := Int.ediv_lt_of_lt_mul (show (0 : Int) < ((2 ^ (-e).toNat : Nat) : Int) by lia) r2
      lia
end
/-! I5 -/
section
open PySem.Float64
abbrev Iv := Int × Int
/-- between, by the grid 2^-49 -/
def Inn (x : UInt64) (i : Iv) : Prop := In 49 x i.1 i.2
def okb (i : Iv) : Bool := decide (i.1.natAbs ≤ 2 ^ 53) && decide (i.2.natAbs ≤ 2 ^ 53)
theorem okb_spec {i : Iv} (h : okb i = true) : i.1.natAbs ≤ 2 ^ 53 ∧ i.2.natAbs ≤ 2 ^ 53 := by simpa [okb] using h
def UU : Int := 562949953421312
theorem UU_eq : UU = 2 ^ 49 := by decide
def addI (a b : Iv) : Iv := (a.1 + b.1, a.2 + b.2)
def subI (a b : Iv) : Iv := (a.1 - b.2, a.2 - b.1)
def mulP (c : Int) (h : Iv) : Iv := (h.1 * c / UU, -(-(h.2 * c) / UU))
def divLo (a : Int) (c d : Int) : Int := if 0 ≤ a then a * UU / d else a * UU / c
def divHi (b : Int) (c d : Int) : Int := if 0 ≤ b then -(-(b * UU) / c) else -(-(b * UU) / d)
def divI (a b : Iv) : Iv := (divLo a.1 b.1 b.2, divHi a.2 b.1 b.2)
section
variable {x y : UInt64} {a b : Iv}
theorem addI_in (hx : Inn x a) (hy : Inn y b) (ok : okb (addI a b) = true) : Inn (add x y) (addI a b) := add_in hx hy (okb_spec ok).1 (okb_spec ok).2
theorem subI_in (hx : Inn x a) (hy : Inn y b) (ok : okb (subI a b) = true) : Inn (sub x y) (subI a b) := sub_in hx hy (okb_spec ok).1 (okb_spec ok).2
theorem floor_le (p : Int) : p / UU * 2 ^ 49 ≤ p := by rw [← UU_eq]; exact Int.ediv_mul_le _ (by decide)
theorem le_ceil (p : Int) : p ≤ -(-p / UU) * 2 ^ 49 := by
  have := floor_le (-p)
  rw [Int.neg_mul]; lia
theorem mulP_in {c : Int} (hx : Inn x a) (hy : Inn y (c, c)) (hc : 0 ≤ c) (ok : okb (mulP c a) = true) : Inn (mul x y) (mulP c a) :=
  mul_in hx hy hc (by decide) (floor_le _) (le_ceil _) (okb_spec ok).1 (okb_spec ok).2
theorem mul_comm' (hx : isFinite x = true) (hy : isFinite y = true) : mul x y = mul y x := by
  obtain ⟨s, m, e, dx⟩ := fin_of hx
  obtain ⟨t, k, f, dy⟩ := fin_of hy
  unfold mul
  rw [dx, dy]
  show ofBin (s != t) (m * k) (e + f) = ofBin (t != s) (k * m) (f + e)
  rw [Nat.mul_comm, Int.add_comm, show (s != t) = (t != s) by cases s <;> cases t <;> rfl]
theorem mulP_in' {c : Int} (hx : Inn x (c, c)) (hy : Inn y a) (hc : 0 ≤ c) (ok : okb (mulP c a) = true) : Inn (mul x y) (mulP c a) := by
  rw [mul_comm' hx.1 hy.1]; exact mulP_in hy hx hc ok
theorem divI_in (hx : Inn x a) (hy : Inn y b) (hb : 0 < b.1) (hbb : b.1 ≤ b.2) (ok : okb (divI a b) = true) : Inn (div x y) (divI a b) := by
  have o := okb_spec ok
  have key : ∀ p q r : Int, 0 < q → 0 < r → 0 ≤ p → q ≤ r → p / r * q ≤ p := fun p q r hq hr hp hqr => by
    have h1 : 0 ≤ p / r := Int.ediv_nonneg hp (by lia)
    have h2 := Int.ediv_mul_le p (Int.ne_of_gt hr)
    exact Int.le_trans (Int.mul_le_mul_of_nonneg_left hqr h1) h2
  have key2 : ∀ p q r : Int, 0 < q → 0 < r → p ≤ 0 → q ≤ r → p / q * r ≤ p := fun p q r hq hr hp hqr => by
    have h1 : p / q ≤ 0 := by
      have := Int.ediv_lt_of_lt_mul hq (show p < 1 * q by lia)
      lia
    have h2 := Int.ediv_mul_le p (Int.ne_of_gt hq)
    exact Int.le_trans (Int.mul_le_mul_of_nonpos_left h1 hqr) h2
  refine div_in (u := 49) hx hy hb (by decide) ?_ ?_ ?_ ?_ o.1 o.2
  · show divLo a.1 b.1 b.2 * b.1 ≤ a.1 * 2 ^ 49
    rw [← UU_eq]
    unfold divLo
    split
    · rename_i h; exact key _ _ _ hb (by lia) (Int.mul_nonneg h (by decide)) hbb
    · exact Int.ediv_mul_le _ (Int.ne_of_gt hb)
  · show divLo a.1 b.1 b.2 * b.2 ≤ a.1 * 2 ^ 49
    rw [← UU_eq]
    unfold divLo
    split
    · exact Int.ediv_mul_le _ (by lia)
    · rename_i h; exact key2 _ _ _ hb (by lia) (Int.mul_nonpos_of_nonpos_of_nonneg (by lia) (by decide)) hbb
  · show a.2 * 2 ^ 49 ≤ divHi a.2 b.1 b.2 * b.1
    rw [← UU_eq]
    unfold divHi
    split
    · have := Int.ediv_mul_le (-(a.2 * UU)) (Int.ne_of_gt hb); rw [Int.neg_mul]; lia
    · rename_i h
      have := key (-(a.2 * UU)) b.1 b.2 hb (by lia) (by have := Int.mul_nonpos_of_nonpos_of_nonneg (show a.2 ≤ 0 by lia) (show 0 ≤ UU by decide); lia) hbb
      rw [Int.neg_mul]; lia
  · show a.2 * 2 ^ 49 ≤ divHi a.2 b.1 b.2 * b.2
    rw [← UU_eq]
    unfold divHi
    split
    · rename_i h
      have := key2 (-(a.2 * UU)) b.1 b.2 hb (by lia) (by have := Int.mul_nonneg h (show 0 ≤ UU by decide); lia) hbb
      rw [Int.neg_mul]; lia
    · have := Int.ediv_mul_le (-(a.2 * UU)) (show b.2 ≠ 0 by lia); rw [Int.neg_mul]; lia
end
/-- the remainder by one, of a number known but for a whole one -/
def hmodL (h : Iv) : List Iv :=
  let k := h.1 / UU
  if h.2 < (k + 1) * UU then [(h.1 - k * UU, h.2 - k * UU)] else [(h.1 - k * UU, UU), (0, h.2 - (k + 1) * UU)]
def hmodOk (h : Iv) : Bool := decide (h.2 - (h.1 / UU + 1) * UU < UU)
theorem hmodL_in {x : UInt64} {h : Iv} (q : Int) (hx : Inn x (h.1 + q * UU, h.2 + q * UU)) (ok : hmodOk h = true) : ∃ i ∈ hmodL h, Inn (hmod x) i := by
  have ok' : h.2 - (h.1 / UU + 1) * UU < UU := of_decide_eq_true ok
  have hk0 := Int.ediv_mul_le h.1 (show UU ≠ 0 by decide)
  have hk1 := Int.lt_ediv_add_one_mul_self h.1 (show 0 < UU by decide)
  unfold hmodL
  simp only
  generalize h.1 / UU = k at *
  have E0 := EE_pos 49
  have v1 := hx.2.1
  have v2 := hx.2.2
  simp only at v1 v2
  rw [show (2 : Int) ^ (1074 - 49) = EE 49 from rfl] at v1 v2
  have Uv : UU = 562949953421312 := rfl
  have hk2 : (k + 1) * UU = k * UU + UU := by rw [Int.add_mul, Int.one_mul]
  have hle : h.1 ≤ h.2 := by
    have := Int.le_of_mul_le_mul_right (Int.le_trans v1 v2) E0
    lia
  have s1 : ∀ j : Int, j * (2 ^ 49 * EE 49) = j * UU * EE 49 := fun j => by rw [← UU_eq, Int.mul_assoc]
  have low : (k + q) * (2 ^ 49 * EE 49) ≤ val x := by
    rw [s1]
    refine Int.le_trans (Int.mul_le_mul_of_nonneg_right ?_ (Int.le_of_lt E0)) v1
    rw [Int.add_mul]; lia
  by_cases hc : h.2 < (k + 1) * UU
  · rw [if_pos hc]
    refine ⟨_, .head _, ?_⟩
    have r := hmod_in (k := k + q) (by decide) hx low (by
      rw [s1]
      refine Int.lt_of_le_of_lt v2 (Int.mul_lt_mul_of_pos_right ?_ E0)
      rw [show k + q + 1 = (k + 1) + q by lia, Int.add_mul]; lia) (by rw [← UU_eq, Int.add_mul]; simp only; lia) (by rw [← UU_eq, show k + q + 1 = (k + 1) + q by lia, Int.add_mul]; simp only; lia)
      (by rw [← UU_eq, Int.add_mul]; simp only; lia) (by rw [← UU_eq, Int.add_mul]; simp only; lia) (by decide)
    rw [← UU_eq, Int.add_mul] at r
    simp only at r
    rw [show h.1 + q * UU - (k * UU + q * UU) = h.1 - k * UU by lia, show h.2 + q * UU - (k * UU + q * UU) = h.2 - k * UU by lia] at r
    exact r
  · rw [if_neg hc]
    by_cases hv : val x < (k + 1 + q) * (2 ^ 49 * EE 49)
    · refine ⟨_, .head _, ?_⟩
      have hx' : In 49 x (h.1 + q * UU) ((k + 1 + q) * UU) := ⟨hx.1, v1, by
        rw [s1] at hv
        exact Int.le_of_lt hv⟩
      have r := hmod_in (k := k + q) (by decide) hx' low (by rw [show k + q + 1 = k + 1 + q by lia]; exact hv) (by rw [← UU_eq, Int.add_mul]; lia) (by rw [← UU_eq, show k + q + 1 = k + 1 + q by lia]; lia)
        (by rw [← UU_eq, Int.add_mul]; lia) (by rw [← UU_eq, Int.add_mul, Int.add_mul, Int.add_mul]; lia) (by decide)
      rw [← UU_eq, Int.add_mul, Int.add_mul, Int.add_mul] at r
      rw [show h.1 + q * UU - (k * UU + q * UU) = h.1 - k * UU by lia, show k * UU + 1 * UU + q * UU - (k * UU + q * UU) = UU by lia] at r
      exact r
    · refine ⟨_, .tail _ (.head _), ?_⟩
      have hx' : In 49 x ((k + 1 + q) * UU) (h.2 + q * UU) := ⟨hx.1, by
        rw [s1] at hv
        exact Int.not_lt.mp hv, v2⟩
      have r := hmod_in (k := k + 1 + q) (by decide) hx' (Int.not_lt.mp hv) (by
        rw [s1]
        refine Int.lt_of_le_of_lt v2 (Int.mul_lt_mul_of_pos_right ?_ E0)
        rw [show k + 1 + q + 1 = (k + 1) + (q + 1) by lia, Int.add_mul, Int.add_mul q]; lia) (by rw [← UU_eq]; lia) (by rw [← UU_eq, show k + 1 + q + 1 = (k + 1) + q + 1 by lia, Int.add_mul, Int.add_mul]; lia)
        (by rw [← UU_eq]; lia) (by rw [← UU_eq, Int.add_mul]; lia) (by decide)
      rw [← UU_eq, Int.add_mul] at r
      rw [show (k + 1) * UU + q * UU - ((k + 1) * UU + q * UU) = 0 by lia, show h.2 + q * UU - ((k + 1) * UU + q * UU) = h.2 - (k + 1) * UU by lia] at r
      exact r
end
/-! I6 -/
section
open PySem.Float64
def S1 : Int := 93824992236885
def R1 : Int := 187649984473770
def T1 : Int := 375299968947541
def HU : Int := 281474976710656
def U6 : Int := 3377699720527872
theorem sixth_in : Inn sixth (S1, S1 + 1) := ⟨by decide +kernel, by decide +kernel, by decide +kernel⟩
theorem third_in : Inn third (R1, R1 + 1) := ⟨by decide +kernel, by decide +kernel, by decide +kernel⟩
theorem twoth_in : Inn twoth (T1, T1 + 1) := ⟨by decide +kernel, by decide +kernel, by decide +kernel⟩
theorem half_in : Inn 0x3fe0000000000000 (HU, HU) := ⟨by decide +kernel, by decide +kernel, by decide +kernel⟩
theorem six_in : Inn 0x4018000000000000 (U6, U6) := ⟨by decide +kernel, by decide +kernel, by decide +kernel⟩
def vA (M1 W : Int) (h : Iv) : Iv := addI (M1, M1) (mulP U6 (mulP W h))
def vAok (M1 W : Int) (h : Iv) : Bool := okb (mulP W h) && okb (mulP U6 (mulP W h)) && okb (vA M1 W h)
def vHueL (M1 M2 W : Int) (h : Iv) : List Iv :=
  (if h.1 ≤ S1 then [vA M1 W h] else []) ++ ((if S1 ≤ h.2 ∧ h.1 < HU then [(M2, M2)] else []) ++ ((if HU ≤ h.2 ∧ h.1 ≤ T1 then [vA M1 W (subI (T1, T1 + 1) h)] else []) ++ (if T1 ≤ h.2 then [(M1, M1)] else [])))
def vHueOk (M1 W : Int) (h : Iv) : Bool := (decide (S1 < h.1) || vAok M1 W h) && (decide (h.2 < HU) || decide (T1 < h.1) || (okb (subI (T1, T1 + 1) h) && vAok M1 W (subI (T1, T1 + 1) h)))
section
variable {x y m1 m2 : UInt64} {h i : Iv} {M1 M2 W : Int}
theorem Inn.lt_lo (hx : Inn x h) (hy : Inn y i) (hv : val x < val y) : h.1 < i.2 := by
  have E0 := EE_pos 49
  exact Int.lt_of_mul_lt_mul_right (Int.lt_of_le_of_lt hx.2.1 (Int.lt_of_lt_of_le hv hy.2.2)) (Int.le_of_lt E0)
theorem Inn.le_lo (hx : Inn x h) (hy : Inn y i) (hv : val x ≤ val y) : h.1 ≤ i.2 := by
  have E0 := EE_pos 49
  exact Int.le_of_mul_le_mul_right (Int.le_trans hx.2.1 (Int.le_trans hv hy.2.2)) E0
theorem vA_in (h1 : Inn m1 (M1, M1)) (hw : Inn (sub m2 m1) (W, W)) (hW : 0 ≤ W) (hx : Inn x h) (ok : vAok M1 W h = true) : Inn (add m1 (mul (mul (sub m2 m1) x) 0x4018000000000000)) (vA M1 W h) := by
  simp only [vAok, Bool.and_eq_true] at ok
  exact addI_in h1 (mulP_in (mulP_in' hw hx hW ok.1.1) six_in (by decide) ok.1.2) ok.2
theorem vHue_in (h1 : Inn m1 (M1, M1)) (h2 : Inn m2 (M2, M2)) (hw : Inn (sub m2 m1) (W, W)) (hW : 0 ≤ W) (hx : Inn x h) (ok : vHueOk M1 W h = true) : ∃ i ∈ vHueL M1 M2 W h, Inn (vHue m1 m2 x) i := by
  simp only [vHueOk, Bool.and_eq_true, Bool.or_eq_true, decide_eq_true_eq] at ok
  unfold vHue flt vHueL
  rw [flt_iff hx.1 sixth_in.1, flt_iff hx.1 half_in.1, flt_iff hx.1 twoth_in.1]
  by_cases c1 : val x < val sixth
  · rw [decide_eq_true c1, if_pos (show true = true from rfl)]
    have q : h.1 ≤ S1 := by have := hx.lt_lo sixth_in c1; simp only at this; lia
    rw [if_pos q]
    have o : vAok M1 W h = true := by
      rcases ok.1 with o | o
      · lia
      · exact o
    exact ⟨vA M1 W h, List.mem_append_left _ (.head _), vA_in h1 hw hW hx o⟩
  rw [decide_eq_false c1, if_neg (show ¬ (false = true) by decide)]
  by_cases c2 : val x < val 0x3fe0000000000000
  · rw [decide_eq_true c2, if_pos (show true = true from rfl)]
    have q1 : S1 ≤ h.2 := sixth_in.le_lo hx (by lia)
    have q2 : h.1 < HU := hx.lt_lo half_in c2
    rw [if_pos (show S1 ≤ h.2 ∧ h.1 < HU from ⟨q1, q2⟩)]
    exact ⟨(M2, M2), List.mem_append_right _ (List.mem_append_left _ (.head _)), h2⟩
  rw [decide_eq_false c2, if_neg (show ¬ (false = true) by decide)]
  by_cases c3 : val x < val twoth
  · rw [decide_eq_true c3, if_pos (show true = true from rfl)]
    have q1 : HU ≤ h.2 := half_in.le_lo hx (by lia)
    have q2 : h.1 ≤ T1 := by have := hx.lt_lo twoth_in c3; simp only at this; lia
    have o : okb (subI (T1, T1 + 1) h) = true ∧ vAok M1 W (subI (T1, T1 + 1) h) = true := by
      rcases ok.2 with (o | o) | o
      · lia
      · lia
      · exact o
    rw [if_pos (show HU ≤ h.2 ∧ h.1 ≤ T1 from ⟨q1, q2⟩)]
    exact ⟨_, List.mem_append_right _ (List.mem_append_right _ (List.mem_append_left _ (.head _))), vA_in h1 hw hW (subI_in twoth_in hx o.1) o.2⟩
  · rw [decide_eq_false c3, if_neg (show ¬ (false = true) by decide)]
    have q1 : T1 ≤ h.2 := twoth_in.le_lo hx (by lia)
    rw [if_pos q1]
    exact ⟨(M1, M1), List.mem_append_right _ (List.mem_append_right _ (List.mem_append_right _ (.head _))), h1⟩
end
def hullL : List Iv → Iv
  | [] => (0, 0)
  | [i] => i
  | i :: j :: r => (min i.1 (hullL (j :: r)).1, max i.2 (hullL (j :: r)).2)
theorem hullL_in {x : UInt64} : ∀ {L : List Iv} {i : Iv}, i ∈ L → Inn x i → Inn x (hullL L)
  | [i], _, hm, hx => by rw [List.mem_singleton.mp hm] at hx; exact hx
  | i :: j :: r, k, hm, hx => by
    rcases List.mem_cons.mp hm with rfl | hm
    · exact In.wide hx (Int.min_le_left _ _) (Int.le_max_left _ _)
    · exact In.wide (hullL_in hm hx) (Int.min_le_right _ _) (Int.le_max_right _ _)
def chan (M1 M2 W : Int) (h : Iv) : Iv := hullL ((hmodL h).flatMap (vHueL M1 M2 W))
def chanOk (M1 W : Int) (h : Iv) : Bool := hmodOk h && (hmodL h).all (vHueOk M1 W)
theorem chan_in {x m1 m2 : UInt64} {h : Iv} {M1 M2 W : Int} (q : Int) (h1 : Inn m1 (M1, M1)) (h2 : Inn m2 (M2, M2)) (hw : Inn (sub m2 m1) (W, W)) (hW : 0 ≤ W) (hx : Inn x (h.1 + q * UU, h.2 + q * UU)) (ok : chanOk M1 W h = true) : Inn (vF m1 m2 x) (chan M1 M2 W h) := by
  simp only [chanOk, Bool.and_eq_true, List.all_eq_true] at ok
  obtain ⟨i, hi, hxi⟩ := hmodL_in q hx ok.1
  obtain ⟨j, hj, hxj⟩ := vHue_in h1 h2 hw hW hxi (ok.2 i hi)
  exact hullL_in (List.mem_flatMap.mpr ⟨i, hi, hj⟩) hxj
/-- int(x * c + 0.5) -/
def idxLo (c : Int) (i : Iv) : Int := i.1 / 524288 * c + 536870912
def idxHi (c : Int) (i : Iv) : Int := -(-i.2 / 524288) * c + 536870912
def idxK (c : Int) (i : Iv) : Int := idxLo c i / 1073741824
def idxOk (c : Int) (i : Iv) : Bool := decide (0 ≤ idxK c i) && decide (idxHi c i < (idxK c i + 1) * 1073741824) && decide ((idxHi c i).natAbs ≤ 2 ^ 53) && decide ((idxLo c i).natAbs ≤ 2 ^ 53) && decide ((i.1 / 524288 * c).natAbs ≤ 2 ^ 53) && decide ((-(-i.2 / 524288) * c).natAbs ≤ 2 ^ 53)
theorem coarse {x : UInt64} {i : Iv} (hx : Inn x i) : In 30 x (i.1 / 524288) (-(-i.2 / 524288)) := by
  have e : EE 30 = 524288 * EE 49 := by
    rw [show (524288 : Int) = 2 ^ 19 from rfl, ← Int.pow_add]
  have E0 := EE_pos 49
  have a1 := Int.ediv_mul_le i.1 (show (524288 : Int) ≠ 0 by decide)
  have a2 := Int.ediv_mul_le (-i.2) (show (524288 : Int) ≠ 0 by decide)
  refine ⟨hx.1, ?_, ?_⟩
  · rw [show (2 : Int) ^ (1074 - 30) = 524288 * EE 49 from e, ← Int.mul_assoc]
    exact Int.le_trans (Int.mul_le_mul_of_nonneg_right a1 (Int.le_of_lt E0)) hx.2.1
  · rw [show (2 : Int) ^ (1074 - 30) = 524288 * EE 49 from e, ← Int.mul_assoc]
    refine Int.le_trans hx.2.2 (Int.mul_le_mul_of_nonneg_right ?_ (Int.le_of_lt E0))
    rw [Int.neg_mul]; lia
theorem half30 : In 30 0x3fe0000000000000 536870912 536870912 := ⟨by decide +kernel, by decide +kernel, by decide +kernel⟩
theorem idx_in {x cf : UInt64} {i : Iv} {c : Int} (hx : Inn x i) (hc : In 30 cf (c * 1073741824) (c * 1073741824)) (h0 : 0 ≤ c) (ok : idxOk c i = true) :
    toI (add (mul x cf) 0x3fe0000000000000) = idxK c i ∧ isFinite (add (mul x cf) 0x3fe0000000000000) = true := by
  simp only [idxOk, Bool.and_eq_true, decide_eq_true_eq] at ok
  obtain ⟨⟨⟨⟨⟨o1, o2⟩, o3⟩, o4⟩, o5⟩, o6⟩ := ok
  have p : In 30 (mul x cf) (i.1 / 524288 * c) (-(-i.2 / 524288) * c) := mul_in (coarse hx) hc (Int.mul_nonneg h0 (by decide)) (by decide) (by rw [Int.mul_assoc]; exact Int.le_refl _) (by rw [Int.mul_assoc]; exact Int.le_refl _) o5 o6
  have a := add_in p half30 o4 o3
  refine ⟨toI_in (by decide) a o1 ?_ o2, a.1⟩
  exact Int.ediv_mul_le (idxLo c i) (show (1073741824 : Int) ≠ 0 by decide)
theorem c512 : In 30 (Float64.ofInt 512) (512 * 1073741824) (512 * 1073741824) := ⟨by decide +kernel, by decide +kernel, by decide +kernel⟩
theorem c96 : In 30 (Float64.ofInt 96) (96 * 1073741824) (96 * 1073741824) := ⟨by decide +kernel, by decide +kernel, by decide +kernel⟩
theorem c2_20 : In 30 (Float64.ofInt 1048576) (1048576 * 1073741824) (1048576 * 1073741824) := ⟨by decide +kernel, by decide +kernel, by decide +kernel⟩
end
/-! I7 -/
section
open PySem.Float64
def U2 : Int := 1125899906842624
def U4 : Int := 2251799813685248
theorem two_in : Inn 0x4000000000000000 (U2, U2) := ⟨by decide +kernel, by decide +kernel, by decide +kernel⟩
theorem four_in : Inn 0x4010000000000000 (U4, U4) := ⟨by decide +kernel, by decide +kernel, by decide +kernel⟩
def mxI (a b : Iv) : Iv := (max a.1 b.1, max a.2 b.2)
def mnI (a b : Iv) : Iv := (min a.1 b.1, min a.2 b.2)
def denL (maxc minc lI : Iv) : List Iv := (if lI.1 ≤ HU then [addI maxc minc] else []) ++ (if HU ≤ lI.2 then [subI (subI (U2, U2) maxc) minc] else [])
def h0L (r g b maxc rc gc bc : Iv) : List Iv :=
  (if maxc.1 ≤ r.2 then [subI bc gc] else []) ++ ((if maxc.1 ≤ g.2 then [subI (addI (U2, U2) rc) bc] else []) ++ (if maxc.1 ≤ b.2 then [subI (addI (U4, U4) gc) rc] else []))
def posb (i : Iv) : Bool := decide (0 < i.1) && decide (i.1 ≤ i.2) && okb i
def is (c : Int) (i : Iv) (K : Int) : Bool := idxOk c i && (idxK c i == K)
def rgbChk (r g b : Iv) (res L S : Int) : Bool :=
  let maxc := mxI (mxI r g) b
  let minc := mnI (mnI r g) b
  let rangec := subI maxc minc
  let lI := divI (addI maxc minc) (U2, U2)
  let rc := divI (subI maxc r) rangec
  let gc := divI (subI maxc g) rangec
  let bc := divI (subI maxc b) rangec
  decide (minc.2 < maxc.1) && (posb rangec && (okb (addI maxc minc) && (okb lI && ((okb (subI (U2, U2) maxc) && (denL maxc minc lI).all fun d => posb d && (okb (divI rangec d) && is 1048576 (divI rangec d) S)) && (is 1048576 lI L &&
    ((okb (subI maxc r) && (okb (subI maxc g) && (okb (subI maxc b) && (okb rc && (okb gc && (okb bc && (okb (addI (U2, U2) rc) && okb (addI (U4, U4) gc)))))))) &&
      (h0L r g b maxc rc gc bc).all fun h => okb h && (okb (divI h (U6, U6)) && (hmodOk (divI h (U6, U6)) && (hmodL (divI h (U6, U6))).all fun i => idxOk 96 i && (idxK 96 i % 96 == res)))))))))
theorem posb_spec {i : Iv} (h : posb i = true) : 0 < i.1 ∧ i.1 ≤ i.2 ∧ okb i = true := by
  simp only [posb, Bool.and_eq_true, decide_eq_true_eq] at h
  exact ⟨h.1.1, h.1.2, h.2⟩
theorem is_spec {c K : Int} {i : Iv} (h : is c i K = true) : idxOk c i = true ∧ idxK c i = K := by simpa [is] using h
theorem Inn.notZero {x : UInt64} {i : Iv} (h : Inn x i) (h0 : 0 < i.1) : isZero x = false := by
  rw [isZero_iff h.1, decide_eq_false]
  intro e
  have := h.2.1
  rw [e] at this
  have := Int.mul_pos h0 (EE_pos 49)
  have e2 : i.1 * EE 49 ≤ 0 := by assumption
  lia
theorem rgb_ok {x y z : UInt64} {r g b : Iv} {res L S : Int} (hx : Inn x r) (hy : Inn y g) (hz : Inn z b) (ok : rgbChk r g b res L S = true) :
    feq (fmin3 x y z) (fmax3 x y z) = false ∧ isZero (sub (fmax3 x y z) (fmin3 x y z)) = false ∧ isZero (rgbDen (fmax3 x y z) (fmin3 x y z)) = false ∧
    (toI (add (mul (rgbH x y z (fmax3 x y z) (fmin3 x y z)) (Float64.ofInt 96)) 0x3fe0000000000000) % 96 = res ∧ isFinite (add (mul (rgbH x y z (fmax3 x y z) (fmin3 x y z)) (Float64.ofInt 96)) 0x3fe0000000000000) = true) ∧
    (toI (add (mul (rgbL (fmax3 x y z) (fmin3 x y z)) (Float64.ofInt 1048576)) 0x3fe0000000000000) = L ∧ isFinite (add (mul (rgbL (fmax3 x y z) (fmin3 x y z)) (Float64.ofInt 1048576)) 0x3fe0000000000000) = true) ∧
    (toI (add (mul (rgbS (fmax3 x y z) (fmin3 x y z)) (Float64.ofInt 1048576)) 0x3fe0000000000000) = S ∧ isFinite (add (mul (rgbS (fmax3 x y z) (fmin3 x y z)) (Float64.ofInt 1048576)) 0x3fe0000000000000) = true) := by
  unfold rgbChk at ok
  simp only [Bool.and_eq_true, List.all_eq_true, decide_eq_true_eq, beq_iff_eq] at ok
  obtain ⟨o1, o2, o3, o4, ⟨o5, o6⟩, o7, ⟨p1, p2, p3, p4, p5, p6, p7, p8⟩, o8⟩ := ok
  have hM0 := mx_in hx hy
  have hM := mx_in hM0.1 hz
  have hm := mn_in (mn_in hx hy).1 hz
  have hMi : Inn (fmax3 x y z) (mxI (mxI r g) b) := hM.1
  have hmi : Inn (fmin3 x y z) (mnI (mnI r g) b) := hm.1
  have hMv : val (fmax3 x y z) = max (max (val x) (val y)) (val z) := by
    show val (mx (mx x y) z) = _
    rw [hM.2, hM0.2]
  generalize fmax3 x y z = M at *
  generalize fmin3 x y z = m at *
  generalize mxI (mxI r g) b = maxc at *
  generalize mnI (mnI r g) b = minc at *
  obtain ⟨q1, q2, q3⟩ := posb_spec o2
  have hR : Inn (sub M m) (subI maxc minc) := subI_in hMi hmi q3
  have hS : Inn (add M m) (addI maxc minc) := addI_in hMi hmi o3
  have hL : Inn (rgbL M m) (divI (addI maxc minc) (U2, U2)) := divI_in hS two_in (by decide) (by decide) o4
  obtain ⟨i1, i2⟩ := is_spec o7
  have hden : ∃ d ∈ denL maxc minc (divI (addI maxc minc) (U2, U2)), Inn (rgbDen M m) d := by
    unfold rgbDen fle denL
    rw [flt_iff hL.1 half_in.1, feq_iff hL.1 half_in.1]
    by_cases c : val (rgbL M m) ≤ val 0x3fe0000000000000
    · have e : (decide (val (rgbL M m) < val 0x3fe0000000000000) || decide (val (rgbL M m) = val 0x3fe0000000000000)) = true := by
        rcases Int.lt_or_eq_of_le c with c | c
        · rw [decide_eq_true c]; rfl
        · rw [decide_eq_true c, Bool.or_true]
      rw [e, if_pos (show true = true from rfl), if_pos (show (divI (addI maxc minc) (U2, U2)).1 ≤ HU from hL.le_lo half_in c)]
      exact ⟨addI maxc minc, List.mem_append_left _ (.head _), hS⟩
    · have e : (decide (val (rgbL M m) < val 0x3fe0000000000000) || decide (val (rgbL M m) = val 0x3fe0000000000000)) = false := by
        rw [decide_eq_false (by lia), decide_eq_false (by lia)]; rfl
      have e2 : HU ≤ (divI (addI maxc minc) (U2, U2)).2 := half_in.le_lo hL (by lia)
      rw [e, if_neg (show ¬ (false = true) by decide), if_pos e2]
      have hmem : subI (subI (U2, U2) maxc) minc ∈ (if (divI (addI maxc minc) (U2, U2)).1 ≤ HU then [addI maxc minc] else []) ++ [subI (subI (U2, U2) maxc) minc] := List.mem_append_right _ (.head _)
      refine ⟨_, hmem, subI_in (subI_in two_in hMi o5) hmi ?_⟩
      have hd := o6 (subI (subI (U2, U2) maxc) minc) (by unfold denL; rw [if_pos e2]; exact hmem)
      exact (posb_spec hd.1).2.2
  obtain ⟨d, hdm, hd⟩ := hden
  obtain ⟨d1, d2, d3⟩ := o6 d hdm
  obtain ⟨e1, e2, e3⟩ := posb_spec d1
  obtain ⟨i3, i4⟩ := is_spec d3
  have hsI : Inn (rgbS M m) (divI (subI maxc minc) d) := divI_in hR hd e1 e2 d2
  have hrc : Inn (rgbC M m x) (divI (subI maxc r) (subI maxc minc)) := divI_in (subI_in hMi hx p1) hR q1 q2 p4
  have hgc : Inn (rgbC M m y) (divI (subI maxc g) (subI maxc minc)) := divI_in (subI_in hMi hy p2) hR q1 q2 p5
  have hbc : Inn (rgbC M m z) (divI (subI maxc b) (subI maxc minc)) := divI_in (subI_in hMi hz p3) hR q1 q2 p6
  generalize divI (subI maxc r) (subI maxc minc) = rc at *
  generalize divI (subI maxc g) (subI maxc minc) = gc at *
  generalize divI (subI maxc b) (subI maxc minc) = bc at *
  have hh0 : ∃ i ∈ h0L r g b maxc rc gc bc, Inn (rgbH0 x y z M m) i := by
    unfold rgbH0 feq
    rw [feq_iff hx.1 hMi.1, feq_iff hy.1 hMi.1]
    by_cases c1 : val x = val M
    · rw [decide_eq_true c1, if_pos (show true = true from rfl)]
      have q : maxc.1 ≤ r.2 := hMi.le_lo hx (by lia)
      have hmem : subI bc gc ∈ h0L r g b maxc rc gc bc := by unfold h0L; rw [if_pos q]; exact List.mem_append_left _ (.head _)
      exact ⟨_, hmem, subI_in hbc hgc (o8 _ hmem).1⟩
    rw [decide_eq_false c1, if_neg (show ¬ (false = true) by decide)]
    by_cases c2 : val y = val M
    · rw [decide_eq_true c2, if_pos (show true = true from rfl)]
      have q : maxc.1 ≤ g.2 := hMi.le_lo hy (by lia)
      have hmem : subI (addI (U2, U2) rc) bc ∈ h0L r g b maxc rc gc bc := by unfold h0L; rw [if_pos q]; exact List.mem_append_right _ (List.mem_append_left _ (.head _))
      exact ⟨_, hmem, subI_in (addI_in two_in hrc p7) hbc (o8 _ hmem).1⟩
    · rw [decide_eq_false c2, if_neg (show ¬ (false = true) by decide)]
      have q : maxc.1 ≤ b.2 := hMi.le_lo hz (by lia)
      have hmem : subI (addI (U4, U4) gc) rc ∈ h0L r g b maxc rc gc bc := by unfold h0L; rw [if_pos q]; exact List.mem_append_right _ (List.mem_append_right _ (.head _))
      exact ⟨_, hmem, subI_in (addI_in four_in hgc p8) hrc (o8 _ hmem).1⟩
  obtain ⟨i, him, hi⟩ := hh0
  obtain ⟨w1, w2, w3, w4⟩ := o8 i him
  have hdv : Inn (div (rgbH0 x y z M m) 0x4018000000000000) (divI i (U6, U6)) := divI_in hi six_in (by decide) (by decide) w2
  obtain ⟨j, hj, hji⟩ := hmodL_in (h := divI i (U6, U6)) 0 (by rw [Int.zero_mul, Int.add_zero, Int.add_zero]; exact hdv) w3
  obtain ⟨v1, v2⟩ := w4 j hj
  have r1 := idx_in hji c96 (by decide) v1
  have r2 := idx_in hL c2_20 (by decide) i1
  have r3 := idx_in hsI c2_20 (by decide) i3
  refine ⟨?_, hR.notZero q1, hd.notZero e1, ⟨?_, r1.2⟩, ⟨r2.1.trans i2, r2.2⟩, ⟨r3.1.trans i4, r3.2⟩⟩
  · unfold feq
    rw [feq_iff hmi.1 hMi.1, decide_eq_false]
    have := In.lt_of hmi hMi o1
    lia
  · have : toI (add (mul (rgbH x y z M m) (Float64.ofInt 96)) 0x3fe0000000000000) = idxK 96 j := r1.1
    rw [this]; exact v2
end
/-! I8 -/
section
open PySem.Float64
def wideI (l s : Int) : Int := 2 * s * min l (8 - l)
def nearI (n c : Int) : Int := max 0 (min 16 (32 - min ((n - c) % 96) ((c - n) % 96)))
def M1I (l s : Int) : Int := (l * 4 - s * min l (8 - l)) * 17592186044416
def M2I (l s : Int) : Int := (l * 4 + s * min l (8 - l)) * 17592186044416
def hrI (r : Int) : Iv := (r * UU / 96, -(-(r * UU) / 96))
def chkAll (r l s : Int) : Bool :=
  let M1 := M1I l s
  let M2 := M2I l s
  let W := M2 - M1
  let ha := addI (hrI r) (R1, R1 + 1)
  let hc := subI (hrI r) (R1, R1 + 1)
  let a := chan M1 M2 W ha
  let g := chan M1 M2 W (hrI r)
  let b := chan M1 M2 W hc
  chanOk M1 W ha && (chanOk M1 W (hrI r) && (chanOk M1 W hc && (idxOk 512 a && (idxOk 512 g && (idxOk 512 b && ((idxK 512 a - idxK 512 b == wideI l s * (nearI r 0 - nearI r 64)) && ((idxK 512 g - idxK 512 b == wideI l s * (nearI r 32 - nearI r 64)) && rgbChk a g b r (l * 131072) (s * 262144))))))))
set_option maxRecDepth 100000 in
theorem chk1_a : ((List.range 96).all fun r => chkAll (r : Nat) 1 1) = true := by decide +kernel
set_option maxRecDepth 100000 in
theorem chk1_b : ((List.range 96).all fun r => chkAll (r : Nat) 1 2) = true := by decide +kernel
set_option maxRecDepth 100000 in
theorem chk1_c : ((List.range 96).all fun r => chkAll (r : Nat) 1 3) = true := by decide +kernel
set_option maxRecDepth 100000 in
theorem chk1_d : ((List.range 96).all fun r => chkAll (r : Nat) 1 4) = true := by decide +kernel
set_option maxRecDepth 100000 in
theorem chk2_a : ((List.range 96).all fun r => chkAll (r : Nat) 2 1) = true := by decide +kernel
set_option maxRecDepth 100000 in
theorem chk2_b : ((List.range 96).all fun r => chkAll (r : Nat) 2 2) = true := by decide +kernel
set_option maxRecDepth 100000 in
theorem chk2_c : ((List.range 96).all fun r => chkAll (r : Nat) 2 3) = true := by decide +kernel
set_option maxRecDepth 100000 in
theorem chk2_d : ((List.range 96).all fun r => chkAll (r : Nat) 2 4) = true := by decide +kernel
set_option maxRecDepth 100000 in
theorem chk3_a : ((List.range 96).all fun r => chkAll (r : Nat) 3 1) = true := by decide +kernel
set_option maxRecDepth 100000 in
theorem chk3_b : ((List.range 96).all fun r => chkAll (r : Nat) 3 2) = true := by decide +kernel
set_option maxRecDepth 100000 in
theorem chk3_c : ((List.range 96).all fun r => chkAll (r : Nat) 3 3) = true := by decide +kernel
set_option maxRecDepth 100000 in
theorem chk3_d : ((List.range 96).all fun r => chkAll (r : Nat) 3 4) = true := by decide +kernel
set_option maxRecDepth 100000 in
theorem chk4_a : ((List.range 96).all fun r => chkAll (r : Nat) 4 1) = true := by decide +kernel
set_option maxRecDepth 100000 in
theorem chk4_b : ((List.range 96).all fun r => chkAll (r : Nat) 4 2) = true := by decide +kernel
set_option maxRecDepth 100000 in
theorem chk4_c : ((List.range 96).all fun r => chkAll (r : Nat) 4 3) = true := by decide +kernel
set_option maxRecDepth 100000 in
theorem chk4_d : ((List.range 96).all fun r => chkAll (r : Nat) 4 4) = true := by decide +kernel
set_option maxRecDepth 100000 in
theorem chk5_a : ((List.range 96).all fun r => chkAll (r : Nat) 5 1) = true := by decide +kernel
set_option maxRecDepth 100000 in
theorem chk5_b : ((List.range 96).all fun r => chkAll (r : Nat) 5 2) = true := by decide +kernel
set_option maxRecDepth 100000 in
theorem chk5_c : ((List.range 96).all fun r => chkAll (r : Nat) 5 3) = true := by decide +kernel
set_option maxRecDepth 100000 in
theorem chk5_d : ((List.range 96).all fun r => chkAll (r : Nat) 5 4) = true := by decide +kernel
set_option maxRecDepth 100000 in
theorem chk6_a : ((List.range 96).all fun r => chkAll (r : Nat) 6 1) = true := by decide +kernel
set_option maxRecDepth 100000 in
theorem chk6_b : ((List.range 96).all fun r => chkAll (r : Nat) 6 2) = true := by decide +kernel
set_option maxRecDepth 100000 in
theorem chk6_c : ((List.range 96).all fun r => chkAll (r : Nat) 6 3) = true := by decide +kernel
set_option maxRecDepth 100000 in
theorem chk6_d : ((List.range 96).all fun r => chkAll (r : Nat) 6 4) = true := by decide +kernel
set_option maxRecDepth 100000 in
theorem chk7_a : ((List.range 96).all fun r => chkAll (r : Nat) 7 1) = true := by decide +kernel
set_option maxRecDepth 100000 in
theorem chk7_b : ((List.range 96).all fun r => chkAll (r : Nat) 7 2) = true := by decide +kernel
set_option maxRecDepth 100000 in
theorem chk7_c : ((List.range 96).all fun r => chkAll (r : Nat) 7 3) = true := by decide +kernel
set_option maxRecDepth 100000 in
theorem chk7_d : ((List.range 96).all fun r => chkAll (r : Nat) 7 4) = true := by decide +kernel
theorem chk_at {r l s : Int} (hr0 : 0 ≤ r) (hr1 : r < 96) (hl0 : 1 ≤ l) (hl1 : l ≤ 7) (hs0 : 1 ≤ s) (hs1 : s ≤ 4) : chkAll r l s = true := by
  have use : ∀ l s : Int, ((List.range 96).all fun r => chkAll (r : Nat) l s) = true → chkAll r l s = true := fun l s h => by
    have h1 := List.all_eq_true.mp h r.toNat (List.mem_range.mpr (by lia))
    rw [show ((r.toNat : Nat) : Int) = r by lia] at h1
    exact h1
  have h1 : l = 1 ∨ l = 2 ∨ l = 3 ∨ l = 4 ∨ l = 5 ∨ l = 6 ∨ l = 7 := by lia
  have h2 : s = 1 ∨ s = 2 ∨ s = 3 ∨ s = 4 := by lia
  rcases h1 with rfl | rfl | rfl | rfl | rfl | rfl | rfl <;> rcases h2 with rfl | rfl | rfl | rfl
  · exact use _ _ chk1_a
  · exact use _ _ chk1_b
  · exact use _ _ chk1_c
  · exact use _ _ chk1_d
  · exact use _ _ chk2_a
  · exact use _ _ chk2_b
  · exact use _ _ chk2_c
  · exact use _ _ chk2_d
  · exact use _ _ chk3_a
  · exact use _ _ chk3_b
  · exact use _ _ chk3_c
  · exact use _ _ chk3_d
  · exact use _ _ chk4_a
  · exact use _ _ chk4_b
  · exact use _ _ chk4_c
  · exact use _ _ chk4_d
  · exact use _ _ chk5_a
  · exact use _ _ chk5_b
  · exact use _ _ chk5_c
  · exact use _ _ chk5_d
  · exact use _ _ chk6_a
  · exact use _ _ chk6_b
  · exact use _ _ chk6_c
  · exact use _ _ chk6_d
  · exact use _ _ chk7_a
  · exact use _ _ chk7_b
  · exact use _ _ chk7_c
  · exact use _ _ chk7_d
end
/-! I9 -/
section
open PySem.Float64
/-- a / b of whole numbers -/
def frD (a b : Int) : UInt64 := Float64.ofFrac (decide (a < 0) != decide (b < 0)) a.natAbs b.natAbs
def m2F (l s : Int) : UInt64 := hlsm2 (frD l 8) (frD s 4)
def m1F (l s : Int) : UInt64 := Float64.sub (Float64.mul 0x4000000000000000 (frD l 8)) (m2F l s)
def ptsOk (l s : Int) : Bool :=
  decide (Float64.isFinite (m1F l s) = true ∧ M1I l s * 2 ^ (1074 - 49) ≤ val (m1F l s) ∧ val (m1F l s) ≤ M1I l s * 2 ^ (1074 - 49)) &&
  (decide (Float64.isFinite (m2F l s) = true ∧ M2I l s * 2 ^ (1074 - 49) ≤ val (m2F l s) ∧ val (m2F l s) ≤ M2I l s * 2 ^ (1074 - 49)) && (okb (subI (M2I l s, M2I l s) (M1I l s, M1I l s)) && (decide (0 ≤ M2I l s - M1I l s) && (Float64.cmp (frD s 4) 0 != some .eq))))
set_option maxRecDepth 100000 in
theorem pts_all : ((List.range 7).all fun l => (List.range 4).all fun s => ptsOk ((l + 1 : Nat) : Int) ((s + 1 : Nat) : Int)) = true := by decide +kernel
theorem pts_at {l s : Int} (hl0 : 1 ≤ l) (hl1 : l ≤ 7) (hs0 : 1 ≤ s) (hs1 : s ≤ 4) : Inn (m1F l s) (M1I l s, M1I l s) ∧ Inn (m2F l s) (M2I l s, M2I l s) ∧ Inn (Float64.sub (m2F l s) (m1F l s)) (M2I l s - M1I l s, M2I l s - M1I l s) ∧ 0 ≤ M2I l s - M1I l s ∧ (Float64.cmp (frD s 4) 0 == some .eq) = false := by
  have h1 := List.all_eq_true.mp pts_all (l - 1).toNat (List.mem_range.mpr (by lia))
  have h2 := List.all_eq_true.mp h1 (s - 1).toNat (List.mem_range.mpr (by lia))
  rw [show (((l - 1).toNat + 1 : Nat) : Int) = l by lia, show (((s - 1).toNat + 1 : Nat) : Int) = s by lia] at h2
  simp only [ptsOk, Bool.and_eq_true, decide_eq_true_eq] at h2
  obtain ⟨a, b, c, d, e⟩ := h2
  have a' : Inn (m1F l s) (M1I l s, M1I l s) := a
  have b' : Inn (m2F l s) (M2I l s, M2I l s) := b
  refine ⟨a', b', subI_in b' a' c, d, ?_⟩
  cases h : (Float64.cmp (frD s 4) 0 == some .eq) with
  | false => rfl
  | true => rw [bne, h] at e; cases e
theorem frD_eq (a b : Int) (hb : 0 < b) : frD a b = Float64.ofFrac (decide (a < 0)) a.natAbs b.toNat := by
  unfold frD
  rw [decide_eq_false (show ¬ b < 0 by lia), show b.natAbs = b.toNat by lia]
  congr 1
  cases decide (a < 0) <;> rfl
theorem hr_bounds {r : Int} (h0 : 0 ≤ r) (h1 : r < 96) : 0 ≤ (hrI r).1 ∧ (hrI r).1 ≤ UU ∧ 0 ≤ (hrI r).2 ∧ (hrI r).2 ≤ UU := by
  have e : UU = 562949953421312 := rfl
  unfold hrI
  simp only [e]
  lia
theorem hue_in {n : Int} (h0 : -1344 ≤ n) (h1 : n ≤ 1343) : Inn (frD n 96) ((hrI (n % 96)).1 + n / 96 * UU, (hrI (n % 96)).2 + n / 96 * UU) := by
  rw [frD_eq n 96 (by decide)]
  have hb := hr_bounds (r := n % 96) (by lia) (by lia)
  have e : UU = 562949953421312 := rfl
  have u49 : (2 : Int) ^ 49 = 562949953421312 := by decide
  have e96 : (((96 : Int).toNat : Nat) : Int) = 96 := rfl
  refine frac_in (u := 49) (by decide) (by decide) ?_ ?_ ?_ ?_
  · simp only [u49, hrI, e, e96]; lia
  · simp only [u49, hrI, e, e96]; lia
  · simp only [e] at *; lia
  · simp only [e] at *; lia
structure Paint (n l s : Int) (r g b : UInt64) : Prop where
  hls : hlsF (frD n 96) (frD l 8) (frD s 4) = .tup [.flt r, .flt g, .flt b]
  fr : Float64.isFinite (Float64.add (Float64.mul r (Float64.ofInt 512)) 0x3fe0000000000000) = true
  fg : Float64.isFinite (Float64.add (Float64.mul g (Float64.ofInt 512)) 0x3fe0000000000000) = true
  fb : Float64.isFinite (Float64.add (Float64.mul b (Float64.ofInt 512)) 0x3fe0000000000000) = true
  d0 : toI (Float64.add (Float64.mul r (Float64.ofInt 512)) 0x3fe0000000000000) - toI (Float64.add (Float64.mul b (Float64.ofInt 512)) 0x3fe0000000000000) = wideI l s * (nearI n 0 - nearI n 64)
  d1 : toI (Float64.add (Float64.mul g (Float64.ofInt 512)) 0x3fe0000000000000) - toI (Float64.add (Float64.mul b (Float64.ofInt 512)) 0x3fe0000000000000) = wideI l s * (nearI n 32 - nearI n 64)
  ne : feq (fmin3 r g b) (fmax3 r g b) = false
  z1 : Float64.isZero (Float64.sub (fmax3 r g b) (fmin3 r g b)) = false
  z2 : Float64.isZero (rgbDen (fmax3 r g b) (fmin3 r g b)) = false
  h1 : toI (Float64.add (Float64.mul (rgbH r g b (fmax3 r g b) (fmin3 r g b)) (Float64.ofInt 96)) 0x3fe0000000000000) % 96 = n % 96
  h2 : Float64.isFinite (Float64.add (Float64.mul (rgbH r g b (fmax3 r g b) (fmin3 r g b)) (Float64.ofInt 96)) 0x3fe0000000000000) = true
  l1 : toI (Float64.add (Float64.mul (rgbL (fmax3 r g b) (fmin3 r g b)) (Float64.ofInt 1048576)) 0x3fe0000000000000) = l * 131072
  l2 : Float64.isFinite (Float64.add (Float64.mul (rgbL (fmax3 r g b) (fmin3 r g b)) (Float64.ofInt 1048576)) 0x3fe0000000000000) = true
  s1 : toI (Float64.add (Float64.mul (rgbS (fmax3 r g b) (fmin3 r g b)) (Float64.ofInt 1048576)) 0x3fe0000000000000) = s * 262144
  s2 : Float64.isFinite (Float64.add (Float64.mul (rgbS (fmax3 r g b) (fmin3 r g b)) (Float64.ofInt 1048576)) 0x3fe0000000000000) = true
theorem near_mod (n c : Int) : nearI (n % 96) c = nearI n c := by
  unfold nearI
  rw [show (n % 96 - c) % 96 = (n - c) % 96 by lia, show (c - n % 96) % 96 = (c - n) % 96 by lia]
theorem paint_at {n l s : Int} (h0 : -1344 ≤ n) (h1 : n ≤ 1343) (hl0 : 1 ≤ l) (hl1 : l ≤ 7) (hs0 : 1 ≤ s) (hs1 : s ≤ 4) : ∃ r g b, Paint n l s r g b := by
  obtain ⟨p1, p2, p3, p4, p5⟩ := pts_at hl0 hl1 hs0 hs1
  have ck := chk_at (r := n % 96) (by lia) (by lia) hl0 hl1 hs0 hs1
  unfold chkAll at ck
  simp only [Bool.and_eq_true, beq_iff_eq] at ck
  obtain ⟨c1, c2, c3, c4, c5, c6, c7, c8, c9⟩ := ck
  have hb := hr_bounds (r := n % 96) (by lia) (by lia)
  have hh := hue_in h0 h1
  have e : UU = 562949953421312 := rfl
  have eR : R1 = 187649984473770 := rfl
  have ga := chan_in (n / 96) p1 p2 p3 p4 hh c2
  have ta : Inn (Float64.add (frD n 96) third) ((addI (hrI (n % 96)) (R1, R1 + 1)).1 + n / 96 * UU, (addI (hrI (n % 96)) (R1, R1 + 1)).2 + n / 96 * UU) := by
    have := addI_in hh third_in (by simp only [okb, addI, Bool.and_eq_true, decide_eq_true_eq, e, eR] at *; lia)
    rw [show addI ((hrI (n % 96)).1 + n / 96 * UU, (hrI (n % 96)).2 + n / 96 * UU) (R1, R1 + 1) = ((addI (hrI (n % 96)) (R1, R1 + 1)).1 + n / 96 * UU, (addI (hrI (n % 96)) (R1, R1 + 1)).2 + n / 96 * UU) by simp only [addI, Prod.mk.injEq]; lia] at this
    exact this
  have tc : Inn (Float64.sub (frD n 96) third) ((subI (hrI (n % 96)) (R1, R1 + 1)).1 + n / 96 * UU, (subI (hrI (n % 96)) (R1, R1 + 1)).2 + n / 96 * UU) := by
    have := subI_in hh third_in (by simp only [okb, subI, Bool.and_eq_true, decide_eq_true_eq, e, eR] at *; lia)
    rw [show subI ((hrI (n % 96)).1 + n / 96 * UU, (hrI (n % 96)).2 + n / 96 * UU) (R1, R1 + 1) = ((subI (hrI (n % 96)) (R1, R1 + 1)).1 + n / 96 * UU, (subI (hrI (n % 96)) (R1, R1 + 1)).2 + n / 96 * UU) by simp only [subI, Prod.mk.injEq]; lia] at this
    exact this
  have gr := chan_in (n / 96) p1 p2 p3 p4 ta c1
  have gb := chan_in (n / 96) p1 p2 p3 p4 tc c3
  have i1 := idx_in gr c512 (by decide) c4
  have i2 := idx_in ga c512 (by decide) c5
  have i3 := idx_in gb c512 (by decide) c6
  obtain ⟨k1, k2, k3, k4, k5, k6⟩ := rgb_ok gr ga gb c9
  refine ⟨vF (m1F l s) (m2F l s) (Float64.add (frD n 96) third), vF (m1F l s) (m2F l s) (frD n 96), vF (m1F l s) (m2F l s) (Float64.sub (frD n 96) third), ?_, i1.2, i2.2, i3.2, ?_, ?_, k1, k2, k3, k4.1, k4.2, k5.1, k5.2, k6.1, k6.2⟩
  · unfold hlsF
    rw [if_neg (by rw [p5]; decide)]
    rfl
  · rw [i1.1, i3.1, c7, near_mod, near_mod]
  · rw [i2.1, i3.1, c8, near_mod, near_mod]
end
/-! P3 -/
def dueL : List (List Int) := [[16, 33], [16, 30], [38, 21], [16, 34, 34], [16, 34], [16, 29], [38, 20], [16, 33, 33]]
def dueAt (a : Int) : List Int := dueL.getD a.toNat []
def deedF (n : Int) : List Int := if n = 16 then [256] else if n = 20 then [1] else if n = 21 then [-1] else if n = 29 then [4] else if n = 30 then [2] else if n = 33 then [2] else if n = 34 then [-2] else [256, 3]
def pa0 (h : Int) : Int := h / 2 % 4
def pa1 (h : Int) : Int := h / 8 % 4 + 4
def pa (h : Int) : Int := if h % 2 = 1 then pa1 h else pa0 h
def pb (h : Int) : Int := if h % 2 = 1 then pa0 h else pa1 h
def numsF (h : Int) : List Int := dueAt (pa h) ++ dueAt (pb h) ++ [16]
def ruleF (h : Int) : List Int := (numsF h).flatMap deedF
def sideF (h : Int) : Int := 1 - h % 2 * 2
def expand (R row : List Int) : List Int := row.flatMap fun s => if s ≥ 256 then R else [s]
def rowF (hs : List Int) : List Int := hs.foldl (fun row h => expand (ruleF h) row) [256]
def scan : List Int → Int → List Int
  | [], _ => []
  | x :: xs, t => if x < 256 then scan xs (t + x) else t :: scan xs t
def tot : List Int → Int
  | [] => 0
  | x :: xs => (if x < 256 then x else 0) + tot xs
theorem tot_app (xs ys : List Int) : tot (xs ++ ys) = tot xs + tot ys := by
  induction xs with
  | nil => simp [tot]
  | cons x xs ih => simp only [List.cons_append, tot, ih]; lia
theorem scan_app (xs ys : List Int) : ∀ t, scan (xs ++ ys) t = scan xs t ++ scan ys (t + tot xs) := by
  induction xs with
  | nil => intro t; simp [scan, tot]
  | cons x xs ih =>
    intro t
    simp only [List.cons_append, scan, tot]
    split
    · rw [ih, Int.add_assoc]
    · rw [ih, List.cons_append, Int.zero_add]
theorem expand_app (R xs ys : List Int) : expand R (xs ++ ys) = expand R xs ++ expand R ys := List.flatMap_append ..
def Term (ta : List Int) : Prop := ∀ x ∈ ta, x < 256 ∧ x ≠ 0
theorem expand_term {R ta : List Int} (h : Term ta) : expand R ta = ta := by
  induction ta with
  | nil => rfl
  | cons x ta ih =>
    have hx := (h x (.head _)).1
    show (if x ≥ 256 then R else [x]) ++ expand R ta = _
    rw [if_neg (by lia), ih fun y hy => h y (.tail _ hy)]
    rfl
theorem expand_nt {R : List Int} (xs : List Int) : expand R (256 :: xs) = R ++ expand R xs := by
  show (if (256 : Int) ≥ 256 then R else [256]) ++ expand R xs = _
  rw [if_pos (by lia)]
theorem scan_term {ta : List Int} (h : Term ta) : ∀ t, scan ta t = [] := by
  induction ta with
  | nil => intro t; rfl
  | cons x ta ih => intro t; rw [scan, if_pos (h x (.head _)).1, ih fun y hy => h y (.tail _ hy)]
/-- a rule's shape -/
structure Shp (R ta tb : List Int) : Prop where
  e : R = 256 :: (ta ++ (256 :: (tb ++ [256])))
  a : Term ta
  b : Term tb
/-- what stands for a step in the end -/
structure Blk (W : List Int) (B : List Int × Int) : Prop where
  s : ∀ t, scan W t = B.1.map (t + ·)
  t : tot W = B.2
def comb (a b : Int) (B : List Int × Int) : List Int × Int := (B.1 ++ B.1.map (fun x => B.2 + a + x) ++ B.1.map (fun x => 2 * B.2 + a + b + x), 3 * B.2 + a + b)
theorem Blk.step {W R ta tb : List Int} {B : List Int × Int} (w : Blk W B) (h : Shp R ta tb) : Blk (expand W R) (comb (tot ta) (tot tb) B) := by
  have e : expand W R = W ++ (ta ++ (W ++ (tb ++ W))) := by
    rw [h.e, expand_nt, expand_app, expand_term h.a, expand_nt, expand_app, expand_term h.b, expand_nt]
    simp [expand]
  refine ⟨fun t => ?_, ?_⟩
  · rw [e]
    simp only [scan_app, tot_app, scan_term h.a, scan_term h.b, w.s, w.t, comb, List.map_append, List.map_map, List.nil_append, List.append_assoc]
    congr 1
    congr 1
    · apply List.map_congr_left; intro x _; simp only [Function.comp]; lia
    · apply List.map_congr_left; intro x _; simp only [Function.comp]; lia
  · rw [e]
    simp only [tot_app, w.t, comb]
    lia
theorem expand_expand (R S xs : List Int) : expand R (expand S xs) = expand (expand R S) xs := by
  induction xs with
  | nil => rfl
  | cons x xs ih =>
    have e1 : expand S (x :: xs) = (if x ≥ 256 then S else [x]) ++ expand S xs := rfl
    have e2 : expand (expand R S) (x :: xs) = (if x ≥ 256 then expand R S else [x]) ++ expand (expand R S) xs := rfl
    rw [e1, e2, expand_app, ih]
    congr 1
    by_cases h : x ≥ 256
    · rw [if_pos h, if_pos h]
    · rw [if_neg h, if_neg h]
      show (if x ≥ 256 then R else [x]) ++ [] = [x]
      rw [if_neg h]; rfl
theorem blk0 : Blk [256] ([0], 0) := ⟨fun t => by simp [scan], by simp [tot]⟩
theorem expand_one (R : List Int) : expand R [256] = R := by rw [expand_nt]; simp [expand]
def turnT (a : Int) : List Int := ((dueAt a).flatMap deedF).tail
theorem eight {a : Int} (h0 : 0 ≤ a) (h1 : a < 8) : a = 0 ∨ a = 1 ∨ a = 2 ∨ a = 3 ∨ a = 4 ∨ a = 5 ∨ a = 6 ∨ a = 7 := by lia
theorem turn_eq {a : Int} (h0 : 0 ≤ a) (h1 : a < 8) : (dueAt a).flatMap deedF = 256 :: turnT a ∧ Term (turnT a) ∧ (turnT a).length ≤ 2 := by
  rcases eight h0 h1 with rfl | rfl | rfl | rfl | rfl | rfl | rfl | rfl <;> exact ⟨by decide, by unfold Term; decide, by decide⟩
theorem pa_lt (h : Int) : 0 ≤ pa h ∧ pa h < 8 := by unfold pa pa0 pa1; split <;> lia
theorem pb_lt (h : Int) : 0 ≤ pb h ∧ pb h < 8 := by unfold pb pa0 pa1; split <;> lia
theorem rule_shp (h : Int) : Shp (ruleF h) (turnT (pa h)) (turnT (pb h)) := by
  have ha := turn_eq (pa_lt h).1 (pa_lt h).2
  have hb := turn_eq (pb_lt h).1 (pb_lt h).2
  refine ⟨?_, ha.2.1, hb.2.1⟩
  unfold ruleF numsF
  rw [List.flatMap_append, List.flatMap_append, ha.1, hb.1]
  simp [deedF]
theorem rule_len (h : Int) : (ruleF h).length ≤ 7 := by
  have ha := turn_eq (pa_lt h).1 (pa_lt h).2
  have hb := turn_eq (pb_lt h).1 (pb_lt h).2
  rw [(rule_shp h).e]
  simp only [List.length_cons, List.length_append, List.length_nil]
  lia
theorem expand_len {R : List Int} (hR : R.length ≤ 7) (xs : List Int) : (expand R xs).length ≤ 7 * xs.length := by
  induction xs with
  | nil => exact Nat.le_refl _
  | cons x xs ih =>
    have e1 : expand R (x :: xs) = (if x ≥ 256 then R else [x]) ++ expand R xs := rfl
    rw [e1, List.length_append, List.length_cons]
    split
    · lia
    · simp only [List.length_singleton]; lia
def Good (xs : List Int) : Prop := ∀ x ∈ xs, x ≠ 0
theorem Good.expand {R xs : List Int} (hR : Good R) (h : Good xs) : Good (expand R xs) := by
  intro x hx
  obtain ⟨y, hy, hm⟩ := List.mem_flatMap.mp hx
  split at hm
  · exact hR x hm
  · rw [List.mem_singleton.mp hm]; exact h y hy
theorem rule_good (h : Int) : Good (ruleF h) := by
  have s := rule_shp h
  rw [s.e]
  intro x hx
  simp only [List.mem_cons, List.mem_append, List.not_mem_nil, or_false] at hx
  rcases hx with rfl | hx | rfl | hx | rfl
  · decide
  · exact (s.a x hx).2
  · decide
  · exact (s.b x hx).2
  · decide
def row3 (h0 h1 h2 : Int) : List Int := rowF [h0, h1, h2]
theorem row3_eq (h0 h1 h2 : Int) : row3 h0 h1 h2 = expand (expand (ruleF h2) (ruleF h1)) (ruleF h0) := by
  show expand (ruleF h2) (expand (ruleF h1) (expand (ruleF h0) [256])) = _
  rw [expand_one, expand_expand]
theorem row3_good (h0 h1 h2 : Int) : Good (row3 h0 h1 h2) := by
  rw [row3_eq]
  exact ((rule_good h2).expand (rule_good h1)).expand (rule_good h0)
theorem row_len (hs : List Int) : ∀ row : List Int, (hs.foldl (fun row h => expand (ruleF h) row) row).length ≤ 7 ^ hs.length * row.length := by
  induction hs with
  | nil => intro row; simp
  | cons h hs ih =>
    intro row
    rw [List.foldl_cons]
    refine Nat.le_trans (ih _) ?_
    have := expand_len (rule_len h) row
    rw [List.length_cons, Nat.pow_succ, Nat.mul_assoc]
    exact Nat.mul_le_mul_left _ this
def EF (h0 h1 h2 : Int) : List Int := scan (row3 h0 h1 h2) 0
def ta (h : Int) : Int := tot (turnT (pa h))
def tb (h : Int) : Int := tot (turnT (pb h))
def combE (a0 b0 a1 b1 a2 b2 : Int) : List Int := (comb a0 b0 (comb a1 b1 (comb a2 b2 ([0], 0)))).1
theorem EF_eq (h0 h1 h2 : Int) : EF h0 h1 h2 = combE (ta h0) (tb h0) (ta h1) (tb h1) (ta h2) (tb h2) := by
  have w := ((blk0.step (rule_shp h2)).step (rule_shp h1)).step (rule_shp h0)
  have e1 : expand [256] (ruleF h2) = ruleF h2 := by
    have : ∀ xs : List Int, (∀ x ∈ xs, x < 256 ∨ x = 256) → expand [256] xs = xs := by
      intro xs
      induction xs with
      | nil => intro _; rfl
      | cons x xs ih =>
        intro hx
        have e1 : expand [256] (x :: xs) = (if x ≥ 256 then [256] else [x]) ++ expand [256] xs := rfl
        rw [e1, ih fun y hy => hx y (.tail _ hy)]
        rcases hx x (.head _) with h | h
        · rw [if_neg (by lia)]; rfl
        · subst h; rfl
    refine this _ fun x hx => ?_
    have s := rule_shp h2
    rw [s.e] at hx
    simp only [List.mem_cons, List.mem_append, List.not_mem_nil, or_false] at hx
    rcases hx with rfl | hx | rfl | hx | rfl
    · exact .inr rfl
    · exact .inl (s.a x hx).1
    · exact .inr rfl
    · exact .inl (s.b x hx).1
    · exact .inr rfl
  rw [e1] at w
  unfold EF
  rw [row3_eq, w.s]
  simp only [Int.zero_add, List.map_id']
  rfl
/-- the directions -/
def UF (s0 s1 s2 : Int) : List Int := (List.range 27).map fun k => (s0 * (if k / 9 = 1 then 1 else 0) + s1 * (if k / 3 % 3 = 1 then 1 else 0) + s2 * (if k % 3 = 1 then 1 else 0)) % 3
def pairs : List (Int × Int × Int) := [(1, 2, -2), (1, 2, 4), (1, -4, -2), (1, -4, 4), (-1, -2, 2), (-1, 4, 2), (-1, -2, -4), (-1, 4, -4)]
theorem pair_mem (h : Int) : (sideF h, ta h, tb h) ∈ pairs := by
  have : ∀ r : Fin 32, (sideF (r.val : Int), ta (r.val : Int), tb (r.val : Int)) ∈ pairs := by decide +kernel
  have hm := this ⟨(h % 32).toNat, by lia⟩
  have e : (((h % 32).toNat : Nat) : Int) = h % 32 := by lia
  simp only [e] at hm
  have e1 : sideF (h % 32) = sideF h := by unfold sideF; lia
  have e2 : pa (h % 32) = pa h := by
    unfold pa pa0 pa1
    rw [show h % 32 % 2 = h % 2 by lia, show h % 32 / 2 % 4 = h / 2 % 4 by lia, show h % 32 / 8 % 4 = h / 8 % 4 by lia]
  have e3 : pb (h % 32) = pb h := by
    unfold pb pa0 pa1
    rw [show h % 32 % 2 = h % 2 by lia, show h % 32 / 2 % 4 = h / 2 % 4 by lia, show h % 32 / 8 % 4 = h / 8 % 4 by lia]
  unfold ta tb at hm ⊢
  rw [e1, e2, e3] at hm
  exact hm
def chkE (p q r : Int × Int × Int) : Bool :=
  let E := combE p.2.1 p.2.2 q.2.1 q.2.2 r.2.1 r.2.2
  decide (E.length = 27) && (E.all fun e => decide (-78 ≤ e) && decide (e ≤ 78)) && (E.map (· % 6) == (UF p.1 q.1 r.1).map fun u => 2 * u % 6)
set_option maxRecDepth 100000 in
theorem chkE_a : (pairs.all fun q => pairs.all fun r => chkE (1, 2, -2) q r) = true := by decide +kernel
set_option maxRecDepth 100000 in
theorem chkE_b : (pairs.all fun q => pairs.all fun r => chkE (1, 2, 4) q r) = true := by decide +kernel
set_option maxRecDepth 100000 in
theorem chkE_c : (pairs.all fun q => pairs.all fun r => chkE (1, -4, -2) q r) = true := by decide +kernel
set_option maxRecDepth 100000 in
theorem chkE_d : (pairs.all fun q => pairs.all fun r => chkE (1, -4, 4) q r) = true := by decide +kernel
set_option maxRecDepth 100000 in
theorem chkE_e : (pairs.all fun q => pairs.all fun r => chkE (-1, -2, 2) q r) = true := by decide +kernel
set_option maxRecDepth 100000 in
theorem chkE_f : (pairs.all fun q => pairs.all fun r => chkE (-1, 4, 2) q r) = true := by decide +kernel
set_option maxRecDepth 100000 in
theorem chkE_g : (pairs.all fun q => pairs.all fun r => chkE (-1, -2, -4) q r) = true := by decide +kernel
set_option maxRecDepth 100000 in
theorem chkE_h : (pairs.all fun q => pairs.all fun r => chkE (-1, 4, -4) q r) = true := by decide +kernel
theorem chkE_all : (pairs.all fun p => pairs.all fun q => pairs.all fun r => chkE p q r) = true := by
  have h : ∀ p ∈ pairs, (pairs.all fun q => pairs.all fun r => chkE p q r) = true := by
    intro p hp
    simp only [pairs, List.mem_cons, List.not_mem_nil, or_false] at hp
    rcases hp with rfl | rfl | rfl | rfl | rfl | rfl | rfl | rfl
    · exact chkE_a
    · exact chkE_b
    · exact chkE_c
    · exact chkE_d
    · exact chkE_e
    · exact chkE_f
    · exact chkE_g
    · exact chkE_h
  exact List.all_eq_true.mpr h
theorem E_facts (h0 h1 h2 : Int) : (EF h0 h1 h2).length = 27 ∧ (∀ e ∈ EF h0 h1 h2, -78 ≤ e ∧ e ≤ 78) ∧ (EF h0 h1 h2).map (· % 6) = (UF (sideF h0) (sideF h1) (sideF h2)).map fun u => 2 * u % 6 := by
  have h := List.all_eq_true.mp (List.all_eq_true.mp (List.all_eq_true.mp chkE_all _ (pair_mem h0)) _ (pair_mem h1)) _ (pair_mem h2)
  unfold chkE at h
  rw [← EF_eq] at h
  simp only [Bool.and_eq_true, decide_eq_true_eq, List.all_eq_true, beq_iff_eq] at h
  exact ⟨h.1.1, h.1.2, h.2⟩
/-! P4 -/
abbrev Z2 := Int × Int
def zadd (a b : Z2) : Z2 := (a.1 + b.1, a.2 + b.2)
def zmul (m v : Z2) : Z2 := (m.1 * v.1 - m.2 * v.2, m.1 * v.2 + m.2 * v.1 - m.2 * v.2)
def unitF (u : Int) : Z2 := if u = 0 then (1, 0) else if u = 1 then (0, 1) else (-1, -1)
/-- one step -/
def vecF (st l s e : Int) : Z2 := (wideI l s * (nearI (st + 16 * e) 0 - nearI (st + 16 * e) 64), wideI l s * (nearI (st + 16 * e) 32 - nearI (st + 16 * e) 64))
def v0F (st l s : Int) : Z2 := (wideI l s * (nearI st 0 - nearI st 64), wideI l s * (nearI st 32 - nearI st 64))
theorem near_eq {n m c d : Int} (h : (n - c) % 96 = (m - d) % 96) : nearI n c = nearI m d := by
  unfold nearI
  have h2 : (c - n) % 96 = (d - m) % 96 := by lia
  rw [h, h2]
theorem vec_rot {st l s e u : Int} (hu0 : 0 ≤ u) (hu1 : u < 3) (he : e % 6 = 2 * u % 6) : vecF st l s e = zmul (unitF u) (v0F st l s) := by
  have hu : u = 0 ∨ u = 1 ∨ u = 2 := by lia
  unfold vecF v0F zmul unitF
  rcases hu with rfl | rfl | rfl
  · rw [near_eq (n := st + 16 * e) (m := st) (c := 0) (d := 0) (by lia), near_eq (n := st + 16 * e) (m := st) (c := 32) (d := 32) (by lia), near_eq (n := st + 16 * e) (m := st) (c := 64) (d := 64) (by lia)]
    simp
  · rw [near_eq (n := st + 16 * e) (m := st) (c := 0) (d := 64) (by lia), near_eq (n := st + 16 * e) (m := st) (c := 32) (d := 0) (by lia), near_eq (n := st + 16 * e) (m := st) (c := 64) (d := 32) (by lia)]
    generalize wideI l s = w; generalize nearI st 0 = a; generalize nearI st 32 = b; generalize nearI st 64 = c
    simp; grind
  · rw [near_eq (n := st + 16 * e) (m := st) (c := 0) (d := 32) (by lia), near_eq (n := st + 16 * e) (m := st) (c := 32) (d := 64) (by lia), near_eq (n := st + 16 * e) (m := st) (c := 64) (d := 0) (by lia)]
    generalize wideI l s = w; generalize nearI st 0 = a; generalize nearI st 32 = b; generalize nearI st 64 = c
    simp; grind
theorem zmul_add (m n v : Z2) : zmul (zadd m n) v = zadd (zmul m v) (zmul n v) := by
  unfold zmul zadd; simp only [Prod.mk.injEq]; constructor <;> grind
theorem ov_mul (m v : Z2) : ovU0 (zmul m v).1 (zmul m v).2 v.1 v.2 = m.1 * ovL v.1 v.2 ∧ ovU1 (zmul m v).1 (zmul m v).2 v.1 v.2 = m.2 * ovL v.1 v.2 := by
  unfold ovU0 ovU1 ovL zmul; constructor <;> grind
theorem zmul_inj {m n v : Z2} (hv : 0 < ovL v.1 v.2) (h : zmul m v = zmul n v) : m = n := by
  have h1 := ov_mul m v
  have h2 := ov_mul n v
  rw [h] at h1
  have e1 : m.1 * ovL v.1 v.2 = n.1 * ovL v.1 v.2 := h1.1.symm.trans h2.1
  have e2 : m.2 * ovL v.1 v.2 = n.2 * ovL v.1 v.2 := h1.2.symm.trans h2.2
  exact Prod.ext (Int.eq_of_mul_eq_mul_right (by lia) e1) (Int.eq_of_mul_eq_mul_right (by lia) e2)
/-- the hue's numbers -/
def chkN (r : Int) : Bool :=
  let x := nearI r 0 - nearI r 64
  let y := nearI r 32 - nearI r 64
  decide (192 ≤ ovL x y) && decide (ovL x y ≤ 256) && decide (-16 ≤ x) && decide (x ≤ 16) && decide (-16 ≤ y) && decide (y ≤ 16)
theorem chkN_all : ((List.range 96).all fun r => chkN (r : Nat)) = true := by decide +kernel
theorem wide_bounds {l s : Int} (hl0 : 1 ≤ l) (hl1 : l ≤ 7) (hs0 : 1 ≤ s) (hs1 : s ≤ 4) : 2 ≤ wideI l s ∧ wideI l s ≤ 32 := by
  unfold wideI
  have hm : 1 ≤ min l (8 - l) ∧ min l (8 - l) ≤ 4 := by lia
  generalize min l (8 - l) = m at *
  have : s = 1 ∨ s = 2 ∨ s = 3 ∨ s = 4 := by lia
  rcases this with rfl | rfl | rfl | rfl <;> lia
theorem v0_facts {st l s : Int} (h0 : 0 ≤ st) (h1 : st < 96) (hl0 : 1 ≤ l) (hl1 : l ≤ 7) (hs0 : 1 ≤ s) (hs1 : s ≤ 4) :
    768 ≤ ovL (v0F st l s).1 (v0F st l s).2 ∧ ovL (v0F st l s).1 (v0F st l s).2 < 2 ^ 20 ∧ (v0F st l s).1.natAbs ≤ 512 ∧ (v0F st l s).2.natAbs ≤ 512 := by
  have h := List.all_eq_true.mp chkN_all st.toNat (List.mem_range.mpr (by lia))
  rw [show ((st.toNat : Nat) : Int) = st by lia] at h
  simp only [chkN, Bool.and_eq_true, decide_eq_true_eq] at h
  obtain ⟨⟨⟨⟨⟨n1, n2⟩, x1⟩, x2⟩, y1⟩, y2⟩ := h
  have hw := wide_bounds hl0 hl1 hs0 hs1
  unfold v0F
  generalize wideI l s = w at *
  generalize nearI st 0 - nearI st 64 = x at *
  generalize nearI st 32 - nearI st 64 = y at *
  have e : ovL (w * x) (w * y) = w * w * ovL x y := by unfold ovL; grind
  simp only [e]
  generalize ovL x y = n at *
  have hww : 4 ≤ w * w := Int.mul_le_mul (a := 2) (b := 2) hw.1 hw.1 (by lia) (by lia)
  have hww2 : w * w ≤ 1024 := Int.mul_le_mul (c := 32) (d := 32) hw.2 hw.2 (by lia) (by lia)
  generalize w * w = q at *
  refine ⟨?_, ?_, ?_, ?_⟩
  · exact Int.mul_le_mul (a := 4) (b := 192) hww n1 (by lia) (by lia)
  · have : q * n ≤ 1024 * 256 := Int.mul_le_mul hww2 n2 (by lia) (by lia)
    lia
  · rw [Int.natAbs_mul]
    exact Nat.mul_le_mul (show w.natAbs ≤ 32 by lia) (show x.natAbs ≤ 16 by lia)
  · rw [Int.natAbs_mul]
    exact Nat.mul_le_mul (show w.natAbs ≤ 32 by lia) (show y.natAbs ≤ 16 by lia)
theorem small_mul {m L : Int} (hm : m.natAbs ≤ 64) (h0 : 768 ≤ L) (h1 : L < 2 ^ 20) : Small (m * L) L := by
  have hb := bits_lt (a := L) (by lia)
  have e : (2 : Int) ^ (Builtin.Int.intBits L * 3) = 2 ^ Builtin.Int.intBits L * 2 ^ Builtin.Int.intBits L * 2 ^ Builtin.Int.intBits L := by
    rw [Nat.mul_succ, Nat.mul_succ, Nat.mul_one, Int.pow_add, Int.pow_add]
  unfold Small
  rw [e]
  generalize (2 : Int) ^ Builtin.Int.intBits L = B at *
  have hBB : 64 * L ≤ B * B := Int.mul_le_mul (c := B) (d := B) (a := 64) (b := L) (by lia) (by lia) (by lia) (by lia)
  have hBBB : B * B * 2 ≤ B * B * B := Int.mul_le_mul_of_nonneg_left (by lia) (Int.mul_nonneg (by lia) (by lia))
  have hmL : (m * L).natAbs ≤ 64 * L.natAbs := by rw [Int.natAbs_mul]; exact Nat.mul_le_mul_right _ hm
  refine ⟨by lia, h1, ?_, ?_⟩ <;> lia
/-- a place divided by the first step -/
theorem over_place {m v : Z2} (hm1 : m.1.natAbs ≤ 64) (hm2 : m.2.natAbs ≤ 64) (h0 : 768 ≤ ovL v.1 v.2) (h1 : ovL v.1 v.2 < 2 ^ 20) :
    overF (zmul m v).1 (zmul m v).2 v.1 v.2 = .lst [.int m.1, .int m.2] ∧ Small (ovU0 (zmul m v).1 (zmul m v).2 v.1 v.2) (ovL v.1 v.2) ∧ Small (ovU1 (zmul m v).1 (zmul m v).2 v.1 v.2) (ovL v.1 v.2) := by
  have o := ov_mul m v
  refine ⟨?_, by rw [o.1]; exact small_mul hm1 h0 h1, by rw [o.2]; exact small_mul hm2 h0 h1⟩
  unfold overF
  rw [o.1, o.2, if_pos ⟨Int.mul_emod_left _ _, Int.mul_emod_left _ _⟩, Int.mul_ediv_cancel _ (by lia), Int.mul_ediv_cancel _ (by lia)]
/-! P5 -/
def endZ (p : Z2) (vs : List Z2) : Z2 := vs.foldl zadd p
def walkZ (p : Z2) : List Z2 → List Z2
  | [] => [p]
  | v :: vs => p :: walkZ (zadd p v) vs
def midsZ (p : Z2) : List Z2 → List Z2
  | [] => []
  | v :: vs => zadd p (zadd p v) :: midsZ (zadd p v) vs
theorem walkZ_len (vs : List Z2) : ∀ p, (walkZ p vs).length = vs.length + 1 := by
  induction vs with
  | nil => intro p; rfl
  | cons v vs ih => intro p; simp [walkZ, ih]
theorem midsZ_len (vs : List Z2) : ∀ p, (midsZ p vs).length = vs.length := by
  induction vs with
  | nil => intro p; rfl
  | cons v vs ih => intro p; simp [midsZ, ih]
theorem walkZ_snoc (vs : List Z2) (v : Z2) : ∀ p, walkZ p (vs ++ [v]) = walkZ p vs ++ [zadd (endZ p vs) v] := by
  induction vs with
  | nil => intro p; rfl
  | cons u vs ih => intro p; simp only [List.cons_append, walkZ, ih]; rfl
theorem midsZ_app (vs ws : List Z2) : ∀ p, midsZ p (vs ++ ws) = midsZ p vs ++ midsZ (endZ p vs) ws := by
  induction vs with
  | nil => intro p; rfl
  | cons u vs ih => intro p; simp only [List.cons_append, midsZ, ih]; rfl
theorem walkZ_last (vs : List Z2) : ∀ p, (walkZ p vs)[vs.length]? = some (endZ p vs) := by
  induction vs with
  | nil => intro p; rfl
  | cons u vs ih => intro p; simp only [walkZ, List.length_cons, List.getElem?_cons_succ, ih]; rfl
theorem walkZ_mul (v : Z2) (us : List Z2) : ∀ m, walkZ (zmul m v) (us.map fun u => zmul u v) = (walkZ m us).map fun u => zmul u v := by
  induction us with
  | nil => intro m; rfl
  | cons u us ih => intro m; simp only [List.map_cons, walkZ, ← zmul_add, ih]
theorem midsZ_mul (v : Z2) (us : List Z2) : ∀ m, midsZ (zmul m v) (us.map fun u => zmul u v) = (midsZ m us).map fun u => zmul u v := by
  induction us with
  | nil => intro m; rfl
  | cons u us ih => intro m; simp only [List.map_cons, midsZ, ← zmul_add, ih]
theorem zmul_zero (v : Z2) : zmul (0, 0) v = (0, 0) := by unfold zmul; simp
theorem vecs_eq {st l s : Int} : ∀ {E U : List Int}, E.map (· % 6) = U.map (fun u => 2 * u % 6) → (∀ u ∈ U, 0 ≤ u ∧ u < 3) → E.map (vecF st l s) = (U.map unitF).map fun u => zmul u (v0F st l s)
  | [], [], _, _ => rfl
  | [], _ :: _, h, _ => nomatch h
  | _ :: _, [], h, _ => nomatch h
  | e :: E, u :: U, h, hu => by
    simp only [List.map_cons, List.cons.injEq] at h
    simp only [List.map_cons]
    rw [vec_rot (hu u (.head _)).1 (hu u (.head _)).2 h.1, vecs_eq h.2 fun x hx => hu x (.tail _ hx)]
def PF (U : List Int) : List Z2 := walkZ (0, 0) (U.map unitF)
/-- one level of the reading -/
structure Zt where
  a : Int
  b : Int
  w : Int
  r : Int
def figF (z : Zt) : Int := (z.a + z.b) % 3
def wayF (s : Int) (z : Zt) : Int := if figF z = 1 then (z.w - s) % 3 else z.w
def goneF (s : Int) (z : Zt) : Z2 := if figF z = 0 then (0, 0) else if figF z = 1 then unitF (wayF s z) else zadd (unitF (wayF s z)) (unitF ((wayF s z + s) % 3))
def divF (s : Int) : Z2 := if s = 1 then (2, 1) else (1, -1)
def lessF (s : Int) (z : Zt) : Z2 := (z.a - (goneF s z).1, z.b - (goneF s z).2)
def decF (s : Int) (k : Nat) (z : Zt) : Zt :=
  let a := lessF s z
  let b := divF s
  ⟨ovU0 a.1 a.2 b.1 b.2 / ovL b.1 b.2, ovU1 a.1 a.2 b.1 b.2 / ovL b.1 b.2, wayF s z, z.r + figF z * 3 ^ k⟩
def smallB (a b : Int) : Bool := decide (0 < b) && (decide (b < 2 ^ 20) && (decide (-2 ^ (Builtin.Int.intBits b * 3) ≤ a) && decide (a < 2 ^ (Builtin.Int.intBits b * 3))))
theorem smallB_of {a b : Int} (h : smallB a b = true) : Small a b := by
  unfold smallB at h
  simp only [Bool.and_eq_true, decide_eq_true_eq] at h
  exact h
def zeqB (z : Zt) (k : Int) : Bool := decide (z.a = 0) && (decide (z.b = 0) && (decide (z.w = 0) && decide (z.r = k)))
theorem zeqB_of {z : Zt} {k : Int} (h : zeqB z k = true) : z = ⟨0, 0, 0, k⟩ := by
  unfold zeqB at h
  simp only [Bool.and_eq_true, decide_eq_true_eq] at h
  obtain ⟨a, b, w, r⟩ := z
  simp only at h
  obtain ⟨rfl, rfl, rfl, rfl⟩ := h
  rfl
def decOk (s : Int) (z : Zt) : Bool :=
  let a := lessF s z
  let b := divF s
  decide (0 ≤ z.w) && decide (z.w < 3) && smallB (z.a + z.b) 3 && smallB (ovU0 a.1 a.2 b.1 b.2) (ovL b.1 b.2) && smallB (ovU1 a.1 a.2 b.1 b.2) (ovL b.1 b.2) && decide (ovU0 a.1 a.2 b.1 b.2 % ovL b.1 b.2 = 0) && decide (ovU1 a.1 a.2 b.1 b.2 % ovL b.1 b.2 = 0) && decide (z.a.natAbs ≤ 64) && decide (z.b.natAbs ≤ 64)
def z0F (U : List Int) (k : Nat) : Zt := ⟨((PF U).getD k (0, 0)).1, ((PF U).getD k (0, 0)).2, U.getD k 0, 0⟩
def chkS (s0 s1 s2 : Int) : Bool :=
  let U := UF s0 s1 s2
  decide ((midsZ (0, 0) (U.map unitF)).Nodup) && (U.all fun u => decide (0 ≤ u) && decide (u < 3)) && ((List.range 27).all fun k =>
    let z := z0F U k
    let z1 := decF s2 0 z
    let z2 := decF s1 1 z1
    decOk s2 z && decOk s1 z1 && decOk s0 z2 && zeqB (decF s0 2 z2) (k : Int))
set_option maxRecDepth 100000 in
theorem chkS_ppp : chkS 1 1 1 = true := by decide +kernel
set_option maxRecDepth 100000 in
theorem chkS_ppm : chkS 1 1 (-1) = true := by decide +kernel
set_option maxRecDepth 100000 in
theorem chkS_pmp : chkS 1 (-1) 1 = true := by decide +kernel
set_option maxRecDepth 100000 in
theorem chkS_pmm : chkS 1 (-1) (-1) = true := by decide +kernel
set_option maxRecDepth 100000 in
theorem chkS_mpp : chkS (-1) 1 1 = true := by decide +kernel
set_option maxRecDepth 100000 in
theorem chkS_mpm : chkS (-1) 1 (-1) = true := by decide +kernel
set_option maxRecDepth 100000 in
theorem chkS_mmp : chkS (-1) (-1) 1 = true := by decide +kernel
set_option maxRecDepth 100000 in
theorem chkS_mmm : chkS (-1) (-1) (-1) = true := by decide +kernel
theorem chkS_all : ([(1 : Int), -1].all fun a => [(1 : Int), -1].all fun b => [(1 : Int), -1].all fun c => chkS a b c) = true := by
  simp only [List.all_cons, List.all_nil, Bool.and_true, chkS_ppp, chkS_ppm, chkS_pmp, chkS_pmm, chkS_mpp, chkS_mpm, chkS_mmp, chkS_mmm]
theorem side_mem (h : Int) : sideF h ∈ [(1 : Int), -1] := by
  unfold sideF
  have : h % 2 = 0 ∨ h % 2 = 1 := by lia
  rcases this with e | e <;> rw [e] <;> decide
structure SFacts (s0 s1 s2 : Int) : Prop where
  nd : (midsZ (0, 0) ((UF s0 s1 s2).map unitF)).Nodup
  u : ∀ u ∈ UF s0 s1 s2, 0 ≤ u ∧ u < 3
  d : ∀ k : Nat, k < 27 → decOk s2 (z0F (UF s0 s1 s2) k) = true ∧ decOk s1 (decF s2 0 (z0F (UF s0 s1 s2) k)) = true ∧ decOk s0 (decF s1 1 (decF s2 0 (z0F (UF s0 s1 s2) k))) = true ∧ decF s0 2 (decF s1 1 (decF s2 0 (z0F (UF s0 s1 s2) k))) = ⟨0, 0, 0, (k : Int)⟩
theorem s_facts (h0 h1 h2 : Int) : SFacts (sideF h0) (sideF h1) (sideF h2) := by
  have h := List.all_eq_true.mp (List.all_eq_true.mp (List.all_eq_true.mp chkS_all _ (side_mem h0)) _ (side_mem h1)) _ (side_mem h2)
  unfold chkS at h
  simp only [Bool.and_eq_true, decide_eq_true_eq, List.all_eq_true] at h
  refine ⟨h.1.1, h.1.2, fun k hk => ?_⟩
  have q := h.2 k (List.mem_range.mpr hk)
  exact ⟨q.1.1.1, q.1.1.2, q.1.2, zeqB_of q.2⟩
/-- a script's curve -/
structure Curve (h0 h1 h2 st l s : Int) : Prop where
  len : (EF h0 h1 h2).length = 27
  bd : ∀ e ∈ EF h0 h1 h2, -78 ≤ e ∧ e ≤ 78
  nd : (midsZ (0, 0) ((EF h0 h1 h2).map (vecF st l s))).Nodup
  pl : ∀ k : Nat, k < 27 → (walkZ (0, 0) ((EF h0 h1 h2).map (vecF st l s)))[k]? = some (zmul ((PF (UF (sideF h0) (sideF h1) (sideF h2))).getD k (0, 0)) (v0F st l s))
  dir : ∀ k : Nat, k < 27 → (EF h0 h1 h2).getD k 0 % 6 = 2 * (UF (sideF h0) (sideF h1) (sideF h2)).getD k 0 % 6
  sf : SFacts (sideF h0) (sideF h1) (sideF h2)
theorem nodup_map {α β : Type} {f : α → β} (hf : ∀ a b, f a = f b → a = b) : ∀ {l : List α}, l.Nodup → (l.map f).Nodup
  | [], _ => List.nodup_nil
  | a :: l, h => by
    rw [List.map_cons, List.nodup_cons]
    obtain ⟨h1, h2⟩ := List.nodup_cons.mp h
    refine ⟨fun hm => ?_, nodup_map hf h2⟩
    obtain ⟨b, hb, e⟩ := List.mem_map.mp hm
    exact h1 (hf _ _ e ▸ hb)
theorem UF_len (s0 s1 s2 : Int) : (UF s0 s1 s2).length = 27 := by simp [UF]
theorem curve (h0 h1 h2 : Int) {st l s : Int} (hs0 : 0 ≤ st) (hs1 : st < 96) (hl0 : 1 ≤ l) (hl1 : l ≤ 7) (hh0 : 1 ≤ s) (hh1 : s ≤ 4) : Curve h0 h1 h2 st l s := by
  obtain ⟨e1, e2, e3⟩ := E_facts h0 h1 h2
  have sf := s_facts h0 h1 h2
  have v := v0_facts hs0 hs1 hl0 hl1 hh0 hh1
  have hv := vecs_eq (st := st) (l := l) (s := s) e3 sf.u
  have inj : ∀ a b : Z2, zmul a (v0F st l s) = zmul b (v0F st l s) → a = b := fun a b h => zmul_inj (by lia) h
  refine ⟨e1, e2, ?_, fun k hk => ?_, fun k hk => ?_, sf⟩
  · rw [hv]
    have := midsZ_mul (v0F st l s) ((UF (sideF h0) (sideF h1) (sideF h2)).map unitF) (0, 0)
    rw [zmul_zero] at this
    rw [this]
    exact nodup_map inj sf.nd
  · rw [hv]
    have := walkZ_mul (v0F st l s) ((UF (sideF h0) (sideF h1) (sideF h2)).map unitF) (0, 0)
    rw [zmul_zero] at this
    rw [this, List.getElem?_map]
    have hl : (PF (UF (sideF h0) (sideF h1) (sideF h2))).length = 28 := by unfold PF; rw [walkZ_len, List.length_map, UF_len]
    unfold PF at *
    rw [List.getD_eq_getElem?_getD, List.getElem?_eq_getElem (by lia)]
    rfl
  · have q1 := congrArg (fun xs => xs.getD k 0) e3
    simp only [List.getD_eq_getElem?_getD, List.getElem?_map] at q1
    have l1 : k < (EF h0 h1 h2).length := by lia
    have l2 : k < (UF (sideF h0) (sideF h1) (sideF h2)).length := by rw [UF_len]; exact hk
    rw [List.getElem?_eq_getElem l1, List.getElem?_eq_getElem l2] at q1
    rw [List.getD_eq_getElem?_getD, List.getD_eq_getElem?_getD, List.getElem?_eq_getElem l1, List.getElem?_eq_getElem l2]
    exact q1
/-- no edge is gone twice -/
theorem Curve.fresh {h0 h1 h2 st l s : Int} (c : Curve h0 h1 h2 st l s) {xs ys : List Int} {e : Int} (h : EF h0 h1 h2 = xs ++ e :: ys) :
    zadd (endZ (0, 0) (xs.map (vecF st l s))) (zadd (endZ (0, 0) (xs.map (vecF st l s))) (vecF st l s e)) ∉ midsZ (0, 0) (xs.map (vecF st l s)) := by
  have n := c.nd
  rw [h, List.map_append, List.map_cons, midsZ_app, midsZ] at n
  intro hm
  exact (List.nodup_append.mp n).2.2 _ hm _ (.head _) rfl
def toL (z : Z2) : List Int := [z.1, z.2]
theorem toL_inj (a b : Z2) (h : toL a = toL b) : a = b := by
  unfold toL at h
  simp only [List.cons.injEq, and_true] at h
  exact Prod.ext h.1 h.2
/-! F11 -/
/-- the operators' table -/
def cnum (x : Str) : Int := ((List.range 80).findSome? fun i => match stAt i with
  | .Assign [.Name y _] (.Constant (.int n) _ _) _ => if y == x then some n else none
  | _ => none).getD 0
def opTab : List (Str × Int) := match stAt 66 with
  | .Assign _ (.Dict keys values _) _ => (keys.zip values).map fun p => match p with
    | (some (.Constant (.str k) _ _), .Name y _) => (k, cnum y)
    | _ => ("", 0)
  | _ => []
def opT : List (PyData × PyData) := opTab.map fun p => (.str p.1, .int p.2)
def turnsL : List Str := ["<<", ">=", "=>", ">>>>", ">>", "<=", "=<", "<<<<"]
def turnAt (a : Int) : Str := turnsL.getD a.toNat ""
def textF (a b : Int) : Str := ((("*" ++ turnAt a) ++ "*") ++ turnAt b) ++ "*"
def pairOk (a b : Int) : Prop := (0 ≤ a ∧ a < 4 ∧ 4 ≤ b ∧ b < 8) ∨ (4 ≤ a ∧ a < 8 ∧ 0 ≤ b ∧ b < 4)
def chkR (i j : Nat) : Bool :=
  (readF opT (textF i ((j + 4 : Nat) : Int)) 20 0 == some (dueAt i ++ dueAt ((j + 4 : Nat) : Int) ++ [16])) && (readF opT (textF ((j + 4 : Nat) : Int) i) 20 0 == some (dueAt ((j + 4 : Nat) : Int) ++ dueAt i ++ [16]))
set_option maxRecDepth 100000 in
theorem chkR_aa : chkR 0 0 = true := by decide +kernel
set_option maxRecDepth 100000 in
theorem chkR_ab : chkR 0 1 = true := by decide +kernel
set_option maxRecDepth 100000 in
theorem chkR_ac : chkR 0 2 = true := by decide +kernel
set_option maxRecDepth 100000 in
theorem chkR_ad : chkR 0 3 = true := by decide +kernel
set_option maxRecDepth 100000 in
theorem chkR_ba : chkR 1 0 = true := by decide +kernel
set_option maxRecDepth 100000 in
theorem chkR_bb : chkR 1 1 = true := by decide +kernel
set_option maxRecDepth 100000 in
theorem chkR_bc : chkR 1 2 = true := by decide +kernel
set_option maxRecDepth 100000 in
theorem chkR_bd : chkR 1 3 = true := by decide +kernel
set_option maxRecDepth 100000 in
theorem chkR_ca : chkR 2 0 = true := by decide +kernel
set_option maxRecDepth 100000 in
theorem chkR_cb : chkR 2 1 = true := by decide +kernel
set_option maxRecDepth 100000 in
theorem chkR_cc : chkR 2 2 = true := by decide +kernel
set_option maxRecDepth 100000 in
theorem chkR_cd : chkR 2 3 = true := by decide +kernel
set_option maxRecDepth 100000 in
theorem chkR_da : chkR 3 0 = true := by decide +kernel
set_option maxRecDepth 100000 in
theorem chkR_db : chkR 3 1 = true := by decide +kernel
set_option maxRecDepth 100000 in
theorem chkR_dc : chkR 3 2 = true := by decide +kernel
set_option maxRecDepth 100000 in
theorem chkR_dd : chkR 3 3 = true := by decide +kernel
theorem chkR_any {i j : Nat} (hi : i < 4) (hj : j < 4) : chkR i j = true := by
  have h1 : i = 0 ∨ i = 1 ∨ i = 2 ∨ i = 3 := by lia
  have h2 : j = 0 ∨ j = 1 ∨ j = 2 ∨ j = 3 := by lia
  rcases h1 with rfl | rfl | rfl | rfl <;> rcases h2 with rfl | rfl | rfl | rfl
  · exact chkR_aa
  · exact chkR_ab
  · exact chkR_ac
  · exact chkR_ad
  · exact chkR_ba
  · exact chkR_bb
  · exact chkR_bc
  · exact chkR_bd
  · exact chkR_ca
  · exact chkR_cb
  · exact chkR_cc
  · exact chkR_cd
  · exact chkR_da
  · exact chkR_db
  · exact chkR_dc
  · exact chkR_dd
theorem chkR_at {i j : Nat} (hi : i < 4) (hj : j < 4) : readF opT (textF i ((j + 4 : Nat) : Int)) 20 0 = some (dueAt i ++ dueAt ((j + 4 : Nat) : Int) ++ [16]) ∧ readF opT (textF ((j + 4 : Nat) : Int) i) 20 0 = some (dueAt ((j + 4 : Nat) : Int) ++ dueAt i ++ [16]) := by
  have h := chkR_any hi hj
  unfold chkR at h
  simp only [Bool.and_eq_true, beq_iff_eq] at h
  exact h
theorem pa_pb (h : Int) : readF opT (textF (pa h) (pb h)) 20 0 = some (numsF h) := by
  unfold numsF pa pb
  have h0 : 0 ≤ pa0 h ∧ pa0 h < 4 := by unfold pa0; lia
  have h1 : 4 ≤ pa1 h ∧ pa1 h < 8 := by unfold pa1; lia
  have c := chkR_at (i := (pa0 h).toNat) (j := (pa1 h - 4).toNat) (by lia) (by lia)
  rw [show (((pa0 h).toNat : Nat) : Int) = pa0 h by lia, show (((pa1 h - 4).toNat + 4 : Nat) : Int) = pa1 h by lia] at c
  split
  · exact c.2
  · exact c.1
theorem turn_item {a : Int} (h0 : 0 ≤ a) (h1 : a < 8) : (turnsL.map D.str)[a.toNat]? = some (.str (turnAt a)) ∧ (turnAt a).length ≤ 4 := by
  rcases eight h0 h1 with rfl | rfl | rfl | rfl | rfl | rfl | rfl | rfl <;> exact ⟨rfl, by decide⟩
theorem due_item {a : Int} (h0 : 0 ≤ a) (h1 : a < 8) : (intsLs dueL)[a.toNat]? = some (.lst (intsD (dueAt a))) ∧ (dueAt a).length ≤ 3 := by
  rcases eight h0 h1 with rfl | rfl | rfl | rfl | rfl | rfl | rfl | rfl <;> exact ⟨rfl, by decide⟩
def deedK : List Int := [16, 20, 21, 29, 30, 33, 34, 38]
def deedD : List D := deedK.map fun n => D.lst (intsD (deedF n))
theorem nums_key (h : Int) : ∀ n ∈ numsF h, n ∈ deedK := by
  have key : ∀ a : Int, 0 ≤ a → a < 8 → ∀ n ∈ dueAt a, n ∈ deedK := by
    intro a h0 h1
    rcases eight h0 h1 with rfl | rfl | rfl | rfl | rfl | rfl | rfl | rfl <;> decide
  intro n hn
  unfold numsF at hn
  simp only [List.mem_append, List.mem_singleton] at hn
  rcases hn with (hn | hn) | rfl
  · exact key _ (pa_lt h).1 (pa_lt h).2 n hn
  · exact key _ (pb_lt h).1 (pb_lt h).2 n hn
  · decide
theorem deed_item {n : Int} (h : n ∈ deedK) : ∃ i : Nat, deedK[i]? = some n ∧ deedD[i]? = some (D.lst (intsD (deedF n))) := by
  obtain ⟨i, hi⟩ := List.getElem?_of_mem h
  exact ⟨i, hi, by unfold deedD; rw [List.getElem?_map, hi]; rfl⟩
/-! F12 -/
abbrev lawN : List Str := ("script" : Str) :: ("heaps" : Str) :: ("k" : Str) :: ("turns" : Str) :: ("due" : Str) :: ("deeds" : Str) :: ("sides" : Str) :: ("row" : Str) :: ("heap" : Str) :: ("pair" : Str) :: ("numbers" : Str) :: ("rule" : Str) :: ("number" : Str) :: ("longer" : Str) :: ("symbol" : Str) :: ("start" : Str) :: ("light" : Str) :: ("share" : Str) :: ("paints" : Str) :: ("places" : Str) :: ("middles" : Str) :: ("turned" : Str) :: ("at" : Str) :: ("paint" : Str) :: ("parts" : Str) :: ("here" : Str) :: ("there" : Str) :: ("middle" : Str) :: ("near" : Str) :: ("wide" : Str) :: ("step" : Str) :: ("told" : Str) :: ("way" : Str) :: ("units" : Str) :: ("read" : Str) :: ("level" : Str) :: ("side" : Str) :: ("figure" : Str) :: ("on" : Str) :: ("beside" : Str) :: ("gone" : Str) :: []
abbrev lawG : List Str := ["range", "len", "NT_OFFSET", "_law_read", "ISNONTERMINAL", "ISEOF", "ISTERMINAL", "hls_to_rgb", "min", "_law_over", "rgb_to_hls", "int", "int_divmod"]
abbrev LS (n_script : Sl := .no) (n_heaps : Sl := .no) (n_k : Sl := .no) (n_turns : Sl := .no) (n_due : Sl := .no) (n_deeds : Sl := .no) (n_sides : Sl := .no) (n_row : Sl := .no) (n_heap : Sl := .no) (n_pair : Sl := .no) (n_numbers : Sl := .no) (n_rule : Sl := .no) (n_number : Sl := .no) (n_longer : Sl := .no) (n_symbol : Sl := .no) (n_start : Sl := .no) (n_light : Sl := .no) (n_share : Sl := .no) (n_paints : Sl := .no) (n_places : Sl := .no) (n_middles : Sl := .no) (n_turned : Sl := .no) (n_at : Sl := .no) (n_paint : Sl := .no) (n_parts : Sl := .no) (n_here : Sl := .no) (n_there : Sl := .no) (n_middle : Sl := .no) (n_near : Sl := .no) (n_wide : Sl := .no) (n_step : Sl := .no) (n_told : Sl := .no) (n_way : Sl := .no) (n_units : Sl := .no) (n_read : Sl := .no) (n_level : Sl := .no) (n_side : Sl := .no) (n_figure : Sl := .no) (n_on : Sl := .no) (n_beside : Sl := .no) (n_gone : Sl := .no) : Sig := n_script :: n_heaps :: n_k :: n_turns :: n_due :: n_deeds :: n_sides :: n_row :: n_heap :: n_pair :: n_numbers :: n_rule :: n_number :: n_longer :: n_symbol :: n_start :: n_light :: n_share :: n_paints :: n_places :: n_middles :: n_turned :: n_at :: n_paint :: n_parts :: n_here :: n_there :: n_middle :: n_near :: n_wide :: n_step :: n_told :: n_way :: n_units :: n_read :: n_level :: n_side :: n_figure :: n_on :: n_beside :: n_gone :: []
abbrev LC (G : Glo) (A : Around) (env : Env) (h₀ : Heap) (av : Addr → Prop) : Cx := ⟨G, A, env, h₀, lawN, lawG, av, 12⟩
/-- what the law wants of the top besides -/
structure LOK (G : Glo) : Prop where
  g : GOK G
  dn : G.dnm = "EXACT_TOKEN_TYPES"
  dt : G.dtab = opTab
  bn : ∀ p ∈ G.bns, G.mg p.1 = none ∧ p.1 ≠ "__name__" ∧ bootBuiltins p.1 = some p.2
structure EnvOK (env : Env) (ca : Addr) : Prop where
  sc : env.scope = (dfn 73).scope
  c : env.cells.lookup ("start" : Str) = some ca
theorem EnvOK.kd {env : Env} {ca : Addr} (h : EnvOK env ca) (x : Str) : env.kindOf x = (dfn 73).scope.names.lookup x := by unfold Env.kindOf; rw [h.sc]
theorem EnvOK.k {env : Env} {ca : Addr} (h : EnvOK env ca) : env.scope.kind = .function := by rw [h.sc]; rfl
theorem EnvOK.s {env : Env} {ca : Addr} (h : EnvOK env ca) : env.kindOf "start" = some .cell := (h.kd _).trans (by decide +kernel)
theorem sw_comp {env : Env} {t : Str} {e : Expr} {gs : List Comprehension} {scope : Scope} {cp pos : Pos} {ln : Nat} (hk : env.scope.kind = .function) (ht : env.kindOf t = some .local) (hl : (pos.line == cp.line) = true) (hn : (scope.names.any fun (n, k) => n == t && (k == .local || k == .cell)) = false) :
    swapsWith (.ListComp e gs scope cp) (some (.Name t pos)) ln env = pure true := by
  have hb : env.blockKind = .function := by unfold Env.blockKind; rw [hk]; rfl
  show (pure (env.blockKind == .function && env.kindOf t == some .local && pos.line == cp.line && !(scope.names.any fun (n, k) => n == t && (k == .local || k == .cell))) : Sem Bool) = pure true
  rw [hb, ht, hl, hn]
  rfl
def lawB (i : Nat) : List Stmt := (dfn 73).body.drop i
def lawS (i : Nat) : Stmt := (dfn 73).body.getD i (.Pass default)
theorem law_len : (dfn 73).body.length = 28 := by decide +kernel
theorem lawB_cons {i : Nat} (h : i < 28) : lawB i = lawS i :: lawB (i + 1) := by
  have hl := law_len
  unfold lawB lawS
  rw [List.drop_eq_getElem_cons (by lia : i < (dfn 73).body.length), List.getD_eq_getElem?_getD, List.getElem?_eq_getElem (by lia : i < (dfn 73).body.length)]
  rfl
theorem law_step {c : Cx} {σ : Sig} {N : Sig → Prop} {Rt : Sig → D → Prop} {i : Nat} (j : Nat) (h : i < 28 ∧ j = i + 1) (x : X c σ (lawS i) (fun σ' => XS c σ' (lawB j) N Rt) Rt) : XS c σ (lawB i) N Rt := by
  obtain ⟨h, rfl⟩ := h
  rw [lawB_cons h]; exact XS.cons x
section
variable {G : Glo} {A : Around} {env : Env} {h₀ : Heap} {av : Addr → Prop} {N : Sig → Prop} {Rt : Sig → D → Prop}
set_option maxHeartbeats 4000000 in
theorem law_0 (hG : GOK G) {ns : List Int} (hl : ns.length ≤ 63) {ca : Addr}
    (rest : ∀ hs ha hv hn, hs.length = 6 → XS (LC G A env h₀ av) (LS (n_script := .val (.lst (intsD ns))) (n_heaps := .own ha hv hn (intsD hs)) (n_start := .ucell ca)) (lawB 2) N Rt) :
    XS (LC G A env h₀ av) (LS (n_script := .val (.lst (intsD ns))) (n_start := .ucell ca)) (lawB 0) N Rt := by
  have hG' := hG
  obtain ⟨⟩ := hG'
  with_reducible refine law_step 1 (by decide) ?_
  conv => enter [3]; whnf
  refine (X.assignOwn (ds := intsD [20, 9, 3, 75, 11, 16]) (by show EvL _ _ _ _ [D.int 20, D.int 9, D.int 3, D.int 75, D.int 11, D.int 16]; walk_at "h_evl") (by simp [sizeLine_eq, intsD]) (by walk_at "h_look") rfl fun la vs ln => ⟨_, by walk_at "h_put", ?_⟩)
  with_reducible refine law_step 2 (by decide) ?_
  conv => enter [3]; whnf
  refine (X.for_ (It.range (n := ns.length) (by walk_at "h_mem") (by assumption) (Ev.conv (Ev.callB (by walk_at "h_mem") (by assumption) (by walk_at "h_evl") (lenL (by simp [intsD]; lia))) (by simp [intsD])) (by lia))
    (fun i σ => ∃ hs vs n, hs.length = 6 ∧ σ = LS (n_script := .val (.lst (intsD ns))) (n_heaps := .own la vs n (intsD hs)) (n_start := .ucell ca)) ⟨_, vs, ln, by rfl, rfl⟩ (fun i σ₁ hi hJ => ?_) fun σ₁ hJ => ?_)
  · obtain ⟨hs, vs, n, h6, rfl⟩ := hJ
    refine ⟨_, _, by walk_at "h_put", rfl, ?_⟩
    have hm : 0 ≤ (i : Int).fmod 6 ∧ (i : Int).fmod 6 < 6 := by rw [Int.fmod_eq_emod_of_nonneg _ (by decide)]; lia
    have hj : ((i : Int).fmod 6).toNat < hs.length := by lia
    refine XS.cons (X.augOwn (i := (i : Int).fmod 6) (d0 := .int hs[((i : Int).fmod 6).toNat]) (d1 := .int ns[i]) (by walk_at "h_look") (by walk_at "h_ev") hm.1 (by simp [intsD]; lia) (by simp [intsD]; lia) ?_ (Ev.sub (Ev.name (by walk_at "h_look")) (Ev.name (by walk_at "h_look")) (by constructor) (itemL (by lia) (by lia) ?_)) iaddII fun vs' n' => ⟨_, by walk_at "h_put", ?_⟩)
    · simp only [intsD, List.getElem?_map, List.getElem?_eq_getElem hj, Option.map_some]
    · simp only [intsD, Int.toNat_natCast, List.getElem?_map, List.getElem?_eq_getElem hi, Option.map_some]
    · refine XS.forget (x := "k") (by walk_at "h_put") rfl (XS.nil ⟨hs.set ((i : Int).fmod 6).toNat (hs[((i : Int).fmod 6).toNat] + ns[i]), vs', n', by simp [h6], ?_⟩)
      simp only [intsD, List.map_set]
  · obtain ⟨hs, vs, n, h6, rfl⟩ := hJ
    with_reducible exact rest hs la vs n h6
end
/-! F13 -/
theorem XS.step {c : Cx} {σ : Sig} {N : Sig → Prop} {Rt : Sig → D → Prop} {body : List Stmt} {n i : Nat} (hl : body.length = n) (j : Nat) (h : i < n ∧ j = i + 1) (x : X c σ (body.getD i (.Pass default)) (fun σ' => XS c σ' (body.drop j) N Rt) Rt) : XS c σ (body.drop i) N Rt := by
  obtain ⟨h, rfl⟩ := h
  rw [List.drop_eq_getElem_cons (by lia : i < body.length)]
  rw [List.getD_eq_getElem?_getD, List.getElem?_eq_getElem (by lia : i < body.length)] at x
  exact XS.cons x
theorem XS.stop {c : Cx} {σ : Sig} {N : Sig → Prop} {Rt : Sig → D → Prop} {body : List Stmt} {n : Nat} (hl : body.length = n) (h : N σ) : XS c σ (body.drop n) N Rt := by
  rw [← hl, List.drop_length]; exact XS.nil h
theorem It.conv {c : Cx} {σ : Sig} {iter : Expr} {n : Nat} {item item' : Nat → D} (h : It c σ iter n item) (e : ∀ i, i < n → item i = item' i) : It c σ iter n item' := by
  intro s Z Q E r k
  refine h s Z Q E r fun h' tk' Z' I fp P St r' z' W st iso hfp hap hIf hP => ?_
  exact k h' tk' Z' I fp P St r' z' W st iso hfp hap hIf fun i v hi hv => e i hi ▸ hP i v hi hv
theorem It.ints {c : Cx} {σ : Sig} {iter : Expr} {ns : List Int} (h : Ev c σ iter (.lst (intsD ns))) : It c σ iter ns.length (fun i => .int (ns.getD i 0)) := by
  have q := It.list h
  rw [show (intsD ns).length = ns.length by simp [intsD]] at q
  refine q.conv fun i hi => ?_
  simp [intsD, List.getD_eq_getElem?_getD, List.getElem?_eq_getElem hi]
theorem getD_mem {α : Type} {l : List α} {i : Nat} {d : α} (h : i < l.length) : l.getD i d ∈ l := by
  rw [List.getD_eq_getElem?_getD, List.getElem?_eq_getElem h]; exact List.getElem_mem _
theorem take_getD {α : Type} {l : List α} {i : Nat} (h : i < l.length) (d : α) : l.take (i + 1) = l.take i ++ [l.getD i d] := by
  rw [List.take_add_one, List.getD_eq_getElem?_getD, List.getElem?_eq_getElem h]; rfl
theorem deed_len (n : Int) : (deedF n).length ≤ 2 := by
  unfold deedF
  repeat' split
  all_goals decide
theorem flat_len (xs : List Int) : (xs.flatMap deedF).length ≤ 2 * xs.length := by
  induction xs with
  | nil => exact Nat.le_refl _
  | cons x xs ih => rw [List.flatMap_cons, List.length_append, List.length_cons]; have := deed_len x; lia
theorem nums_len (h : Int) : (numsF h).length ≤ 7 := by
  have h1 := (due_item (pa_lt h).1 (pa_lt h).2).2
  have h2 := (due_item (pb_lt h).1 (pb_lt h).2).2
  unfold numsF
  simp only [List.length_append, List.length_singleton]
  lia
def forB : Stmt → List Stmt
  | .For _ _ b _ _ => b
  | .While _ b _ _ => b
  | _ => []
def heapB : List Stmt := forB (lawS 7)
theorem heap_len : heapB.length = 10 := by decide +kernel
section
variable {G : Glo} {A : Around} {env : Env} {h₀ : Heap} {av : Addr → Prop} {N : Sig → Prop} {Rt : Sig → D → Prop}
set_option maxHeartbeats 4000000 in
/-- one rule is made and set in -/
theorem heap_turn (hG : LOK G) {hp st : Sl} {h : Int} {sa ra da : Addr} {sv rv dv : List Value} {sn rn : Nat} {sd row : List Int} (hsd : sd.length ≤ 3) (hrow : row.length ≤ 100)
    (hN : ∀ sv' sn' ra' rv' rn', N (LS (n_heaps := hp) (n_start := st) (n_turns := .val (.lst (turnsL.map D.str))) (n_due := .val (.lst (intsLs dueL))) (n_deeds := .idict da deedK dv deedD) (n_sides := .own sa sv' sn' (intsD (sd ++ [sideF h]))) (n_row := .own ra' rv' rn' (intsD (expand (ruleF h) row))))) :
    XS (LC G A env h₀ av) (LS (n_heaps := hp) (n_start := st) (n_turns := .val (.lst (turnsL.map D.str))) (n_due := .val (.lst (intsLs dueL))) (n_deeds := .idict da deedK dv deedD) (n_sides := .own sa sv sn (intsD sd)) (n_row := .own ra rv rn (intsD row)) (n_heap := .val (.int h))) (heapB.drop 0) N Rt := by
  have hG' := hG.g
  have hGg := hG.g
  obtain ⟨⟩ := hG'
  have e2 : ∀ x : Int, x.fmod 2 = x % 2 := fun x => Int.fmod_eq_emod_of_nonneg _ (by decide)
  have e4 : ∀ x : Int, x.fmod 4 = x % 4 := fun x => Int.fmod_eq_emod_of_nonneg _ (by decide)
  have d2 : ∀ x : Int, x.fdiv 2 = x / 2 := fun x => Int.fdiv_eq_ediv_of_nonneg _ (by decide)
  have d8 : ∀ x : Int, x.fdiv 8 = x / 8 := fun x => Int.fdiv_eq_ediv_of_nonneg _ (by decide)
  have ha := pa_lt h
  have hb := pb_lt h
  have tia := turn_item ha.1 ha.2
  have tib := turn_item hb.1 hb.2
  have dia := due_item ha.1 ha.2
  have dib := due_item hb.1 hb.2
  have q1 : (Str.ofString "*").length = 1 := by decide
  -- behind the pair
  have key : ∀ pra prv prn, XS (LC G A env h₀ av) (LS (n_heaps := hp) (n_start := st) (n_turns := .val (.lst (turnsL.map D.str))) (n_due := .val (.lst (intsLs dueL))) (n_deeds := .idict da deedK dv deedD) (n_sides := .own sa sv sn (intsD sd)) (n_row := .own ra rv rn (intsD row)) (n_heap := .val (.int h)) (n_pair := .own pra prv prn [.int (pa h), .int (pb h)])) (heapB.drop 2) N Rt := by
    intro pra prv prn
    refine XS.freeze (x := "pair") (by walk_at "h_put") ?_
    with_reducible refine XS.step heap_len 3 (by decide) ?_
    conv => enter [3]; whnf
    refine X.append (d := .int (sideF h)) (by walk_at "h_look") (Ev.conv (by walk_at "h_ev") (by rw [e2]; rfl)) (by simp [intsD, sizeLine_eq]; lia) fun sv' sn' => ⟨_, by walk_at "h_put", ?_⟩
    rw [show intsD sd ++ [D.int (sideF h)] = intsD (sd ++ [sideF h]) by simp [intsD]]
    with_reducible refine XS.step heap_len 4 (by decide) ?_
    conv => enter [3]; whnf
    refine X.assign (o := .no) (d := .lst (intsD (numsF h))) (Ev.call_read (x := textF (pa h) (pb h)) (f := 20) (by walk_at "h_mem") hGg (EvL.cons (Ev.bin (Ev.bin (Ev.bin (Ev.bin Ev.constS (Ev.sub (Ev.name (by walk_at "h_look")) (Ev.sub (Ev.name (by walk_at "h_look")) Ev.constI (by constructor) (itemL (by decide) (by decide) rfl)) (by constructor) (itemL ha.1 (by lia) tia.1)) (addSS ?_)) Ev.constS (addSS ?_)) (Ev.sub (Ev.name (by walk_at "h_look")) (Ev.sub (Ev.name (by walk_at "h_look")) Ev.constI (by constructor) (itemL (by decide) (by decide) rfl)) (by constructor) (itemL hb.1 (by lia) tib.1)) (addSS ?_)) Ev.constS (addSS ?_)) EvL.nil) (by simp only []; lia) ?_ (by decide) hG.dn ?_) (by walk_at "h_put") rfl ?_
    · simp only [PySem.Str.length_append, q1]; rw [sizeLine_eq]; have := tia.2; lia
    · simp only [PySem.Str.length_append, q1]; rw [sizeLine_eq]; have := tia.2; lia
    · simp only [PySem.Str.length_append, q1]; rw [sizeLine_eq]; have := tia.2; have := tib.2; lia
    · simp only [PySem.Str.length_append, q1]; rw [sizeLine_eq]; have := tia.2; have := tib.2; lia
    · unfold textF; simp only [PySem.Str.length_append, q1]; have := tia.2; have := tib.2; lia
    · show readF G.tab _ _ _ = _
      unfold Glo.tab; rw [hG.dt]; exact pa_pb h
    with_reducible refine XS.step heap_len 5 (by decide) ?_
    conv => enter [3]; whnf
    refine X.if_ (b := !decide (numsF h = numsF h)) (Tst.cmp (d1 := .lst (intsD (numsF h))) (d2 := .lst (intsD (numsF h))) (Ev.name (by walk_at "h_look")) (Ev.conv (Ev.bin (Ev.bin (Ev.sub (Ev.name (by walk_at "h_look")) (Ev.sub (Ev.name (by walk_at "h_look")) Ev.constI (by constructor) (itemL (by decide) (by decide) rfl)) (by constructor) (itemL ha.1 (by lia) dia.1)) (Ev.sub (Ev.name (by walk_at "h_look")) (Ev.sub (Ev.name (by walk_at "h_look")) Ev.constI (by constructor) (itemL (by decide) (by decide) rfl)) (by constructor) (itemL hb.1 (by lia) dib.1)) (addLL ?_)) (d2 := .lst [.int 16]) (by walk_at "h_ev") (addLL ?_)) (by simp [numsF, intsD])) neLI (Tr.bool _)) (fun hh => absurd hh (by simp)) (fun hh => ?_)
    · simp only [intsD, List.length_map]; rw [sizeLine_eq]; have := dia.2; have := dib.2; lia
    · simp only [intsD, List.length_map, List.length_append, List.length_singleton]; rw [sizeLine_eq]; have := dia.2; have := dib.2; lia
    refine XS.nil ?_
    with_reducible refine XS.step heap_len 6 (by decide) ?_
    conv => enter [3]; whnf
    refine X.assignOwn (ds := []) EvL.nil (by simp) (by walk_at "h_look") rfl fun la lv ln => ⟨_, by walk_at "h_put", ?_⟩
    with_reducible refine XS.step heap_len 7 (by decide) ?_
    conv => enter [3]; whnf
    refine X.for_ (It.ints (ns := numsF h) (Ev.name (by walk_at "h_look")))
      (fun i σ => ∃ lv ln, σ = LS (n_heaps := hp) (n_start := st) (n_turns := .val (.lst (turnsL.map D.str))) (n_due := .val (.lst (intsLs dueL))) (n_deeds := .idict da deedK dv deedD) (n_sides := .own sa sv' sn' (intsD (sd ++ [sideF h]))) (n_row := .own ra rv rn (intsD row)) (n_heap := .val (.int h)) (n_pair := .val (.lst [.int (pa h), .int (pb h)])) (n_numbers := .val (.lst (intsD (numsF h)))) (n_rule := .own la lv ln (intsD (((numsF h).take i).flatMap deedF)))) ⟨_, _, rfl⟩ (fun i σ₁ hi hJ => ?_) fun σ₁ hJ => ?_
    · obtain ⟨lv, ln, rfl⟩ := hJ
      refine ⟨_, _, by walk_at "h_put", rfl, ?_⟩
      have hm : (numsF h).getD i 0 ∈ numsF h := getD_mem hi
      obtain ⟨j, j1, j2⟩ := deed_item (nums_key h _ hm)
      refine XS.cons (X.extend (es := intsD (deedF ((numsF h).getD i 0))) (by walk_at "h_look") (Ev.subDict (by walk_at "h_look") (Ev.name (by walk_at "h_look")) j1 j2) ?_ fun vs' n' => ⟨_, by walk_at "h_put", ?_⟩)
      · simp only [intsD, List.length_map]
        have h1 := flat_len ((numsF h).take i)
        have h2 := deed_len ((numsF h).getD i 0)
        have h3 := List.length_take_le i (numsF h)
        have h4 := nums_len h
        rw [sizeLine_eq]; lia
      · refine XS.forget (x := "number") (by walk_at "h_put") rfl (XS.nil ⟨vs', n', ?_⟩)
        rw [take_getD hi 0, List.flatMap_append]
        simp [intsD]
    obtain ⟨lv, ln, rfl⟩ := hJ
    rw [List.take_length]
    change XS _ (LS (n_heaps := hp) (n_start := st) (n_turns := .val (.lst (turnsL.map D.str))) (n_due := .val (.lst (intsLs dueL))) (n_deeds := .idict da deedK dv deedD) (n_sides := .own sa sv' sn' (intsD (sd ++ [sideF h]))) (n_row := .own ra rv rn (intsD row)) (n_heap := .val (.int h)) (n_pair := .val (.lst [.int (pa h), .int (pb h)])) (n_numbers := .val (.lst (intsD (numsF h)))) (n_rule := .own la lv ln (intsD (ruleF h)))) _ _ _
    refine XS.freeze (x := "rule") (by walk_at "h_put") ?_
    with_reducible refine XS.step heap_len 8 (by decide) ?_
    conv => enter [3]; whnf
    refine X.assignOwn (ds := []) EvL.nil (by simp) (by walk_at "h_look") rfl fun ma mv mn => ⟨_, by walk_at "h_put", ?_⟩
    refine XS.freeze (x := "row") (by walk_at "h_put") ?_
    with_reducible refine XS.step heap_len 9 (by decide) ?_
    conv => enter [3]; whnf
    refine X.for_ (It.ints (ns := row) (Ev.name (by walk_at "h_look")))
      (fun i σ => ∃ mv mn, σ = LS (n_heaps := hp) (n_start := st) (n_turns := .val (.lst (turnsL.map D.str))) (n_due := .val (.lst (intsLs dueL))) (n_deeds := .idict da deedK dv deedD) (n_sides := .own sa sv' sn' (intsD (sd ++ [sideF h]))) (n_row := .val (.lst (intsD row))) (n_heap := .val (.int h)) (n_pair := .val (.lst [.int (pa h), .int (pb h)])) (n_numbers := .val (.lst (intsD (numsF h)))) (n_rule := .val (.lst (intsD (ruleF h)))) (n_longer := .own ma mv mn (intsD (expand (ruleF h) (row.take i))))) ⟨_, _, rfl⟩ (fun i σ₁ hi hJ => ?_) fun σ₁ hJ => ?_
    · obtain ⟨mv, mn, rfl⟩ := hJ
      refine ⟨_, _, by walk_at "h_put", rfl, ?_⟩
      generalize hs : row.getD i 0 = sy
      refine XS.cons (X.extend (es := intsD (if sy ≥ 256 then ruleF h else [sy])) (by walk_at "h_look") (Ev.ifExp (b := decide (sy ≥ 256)) (Tst.plain (Ev.call_nonterm (by walk_at "h_mem") (by assumption) (by assumption) (by walk_at "h_evl") (by simp only []; lia)) (Tr.bool _)) (fun hb => ?_) fun hb => ?_) ?_ fun vs' n' => ⟨_, by walk_at "h_put", ?_⟩)
      · rw [if_pos (of_decide_eq_true hb)]
        exact Ev.name (by walk_at "h_look")
      · rw [if_neg (of_decide_eq_false hb)]
        show Ev _ _ _ (.lst [.int sy])
        walk_at "h_ev"
      · simp only [intsD, List.length_map]
        have h1 := expand_len (rule_len h) (row.take i)
        have h2 : (if sy ≥ 256 then ruleF h else [sy]).length ≤ 7 := by
          split
          · exact rule_len h
          · exact Nat.le_of_ble_eq_true rfl
        have h3 := List.length_take_le i row
        rw [sizeLine_eq]; lia
      · refine XS.forget (x := "symbol") (by walk_at "h_put") rfl (XS.nil ⟨vs', n', ?_⟩)
        rw [take_getD hi 0, expand_app, hs]
        simp [intsD, expand]
    obtain ⟨mv, mn, rfl⟩ := hJ
    rw [List.take_length]
    with_reducible refine XS.step heap_len 10 (by decide) ?_
    conv => enter [3]; whnf
    refine X.move (x := "longer") (y := "row") (by walk_at "h_put") (by walk_at "h_put") rfl ?_
    refine XS.forget (x := "heap") (by walk_at "h_put") rfl ?_
    refine XS.forget (x := "pair") (by walk_at "h_put") rfl ?_
    refine XS.forget (x := "numbers") (by walk_at "h_put") rfl ?_
    refine XS.forget (x := "rule") (by walk_at "h_put") rfl ?_
    with_reducible refine XS.stop heap_len ?_
    with_reducible exact hN _ _ _ _ _
  with_reducible refine XS.step heap_len 1 (by decide) ?_
  conv => enter [3]; whnf
  refine X.assignOwn (ds := [.int (pa0 h), .int (pa1 h)]) (EvL.cons (Ev.conv (by walk_at "h_ev") (by rw [d2, e4]; rfl)) (EvL.cons (Ev.conv (by walk_at "h_ev") (by rw [d8, e4]; rfl)) EvL.nil)) (by simp [sizeLine_eq]) (by walk_at "h_look") rfl fun la lv ln => ⟨_, by walk_at "h_put", ?_⟩
  with_reducible refine XS.step heap_len 2 (by decide) ?_
  conv => enter [3]; whnf
  refine X.if_ (b := decide (h % 2 = 1)) ?_ (fun hh => ?_) (fun hh => ?_)
  · refine Tst.cmp (by walk_at "h_ev") (by walk_at "h_ev") eqII ?_
    rw [e2]
    exact (show (h % 2 == 1) = decide (h % 2 = 1) from rfl) ▸ Tr.bool _
  · have hh := of_decide_eq_true hh
    refine XS.cons (X.reverse (by walk_at "h_look") (by simp [sizeLine_eq]) fun vs' n' => ⟨_, by walk_at "h_put", XS.nil ?_⟩)
    have k := key la vs' n'
    rw [show pa h = pa1 h by unfold pa; rw [if_pos hh], show pb h = pa0 h by unfold pb; rw [if_pos hh]] at k
    rw [show [D.int (pa0 h), D.int (pa1 h)].reverse = [D.int (pa1 h), D.int (pa0 h)] from rfl]
    with_reducible exact k
  · have hh := of_decide_eq_false hh
    have k := key la lv ln
    rw [show pa h = pa0 h by unfold pa; rw [if_neg hh], show pb h = pa1 h by unfold pb; rw [if_neg hh]] at k
    refine XS.nil ?_
    with_reducible exact k
end
/-! F14 -/
section
variable {G : Glo} {A : Around} {env : Env} {h₀ : Heap} {av : Addr → Prop} {N : Sig → Prop} {Rt : Sig → D → Prop}
set_option maxHeartbeats 1000000 in
/-- the heaps are read -/
theorem law_2 (hG : LOK G) {h0 h1 h2 h3 h4 h5 : Int} {sc : D} {ca ha : Addr} {hv : List Value} {hn : Nat}
    (rest : ∀ sa sv sn ra rv rn, XS (LC G A env h₀ av) (LS (n_heaps := .own ha hv hn [.int h0, .int h1, .int h2, .int h3, .int h4, .int h5]) (n_sides := .own sa sv sn (intsD [sideF h0, sideF h1, sideF h2])) (n_row := .own ra rv rn (intsD (row3 h0 h1 h2 ++ [0]))) (n_start := .ucell ca)) (lawB 9) N Rt) :
    XS (LC G A env h₀ av) (LS (n_script := .val sc) (n_heaps := .own ha hv hn [.int h0, .int h1, .int h2, .int h3, .int h4, .int h5]) (n_start := .ucell ca)) (lawB 2) N Rt := by
  have hG' := hG.g
  obtain ⟨⟩ := hG'
  ((with_reducible refine' XS.forget (x := "script") ?zp1 ?zq1 ?_); (case zp1 => walk_at "h_put"); (case zq1 => rfl))
  with_reducible refine law_step 3 (by decide) ?_
  conv => enter [3]; whnf
  ((with_reducible refine' X.assign (d := .lst (turnsL.map D.str)) (o := .no) ?za2 ?zb2 ?zc2 ?_ (hs := ?zs2)); (case za2 => show Ev _ _ _ (D.lst [.str "<<", .str ">=", .str "=>", .str ">>>>", .str ">>", .str "<=", .str "=<", .str "<<<<"]); walk_at "h_ev"); (case zb2 => walk_at "h_put"); (case zc2 => rfl); (case zs2 => rfl))
  with_reducible refine law_step 4 (by decide) ?_
  conv => enter [3]; whnf
  ((with_reducible refine' X.assign (d := .lst (intsLs dueL)) (o := .no) ?za3 ?zb3 ?zc3 ?_ (hs := ?zs3)); (case za3 => show Ev _ _ _ (D.lst [.lst [.int 16, .int 33], .lst [.int 16, .int 30], .lst [.int 38, .int 21], .lst [.int 16, .int 34, .int 34], .lst [.int 16, .int 34], .lst [.int 16, .int 29], .lst [.int 38, .int 20], .lst [.int 16, .int 33, .int 33]]); walk_at "h_ev"); (case zb3 => walk_at "h_put"); (case zc3 => rfl); (case zs3 => rfl))
  with_reducible refine law_step 5 (by decide) ?_
  conv => enter [3]; whnf
  ((with_reducible refine' X.assignDict (ks := deedK) (ds := deedD) ?ep ?ya ?yb ?yc ?yd ?ye ?yf ?yg ?yh ?_ (hs := ?ys)); (case ya => rfl); (case yb => rfl); (case yc => simp); (case yd => decide); (case ye => rfl); (case yf => decide); (case yg => walk_at "h_look"); (case yh => rfl); (case ys => rfl))
  case ep =>
    show EvP _ _ _ _ _ [16, 20, 21, 29, 30, 33, 34, 38] [.lst [.int 256], .lst [.int 1], .lst [.int (-1)], .lst [.int 4], .lst [.int 2], .lst [.int 2], .lst [.int (-2)], .lst [.int 256, .int 3]]
    with_reducible refine EvP.cons Ev.constI ?_ (EvP.cons Ev.constI ?_ (EvP.cons Ev.constI ?_ (EvP.cons Ev.constI ?_ (EvP.cons Ev.constI ?_ (EvP.cons Ev.constI ?_ (EvP.cons Ev.constI ?_ (EvP.cons Ev.constI ?_ EvP.nil)))))))
    all_goals walk_at "h_ev"
  intro da dv
  refine ⟨_, by walk_at "h_put", ?_⟩
  with_reducible refine law_step 6 (by decide) ?_
  conv => enter [3]; whnf
  ((with_reducible refine' X.assignOwn (ds := []) ?za4 ?zb4 ?zc4 ?zd4 ?_ (hs := ?zs4)); (case za4 => exact EvL.nil); (case zb4 => simp [sizeLine_eq]); (case zc4 => walk_at "h_look"); (case zd4 => rfl); (case zs4 => rfl)); intro sa sv sn; refine ⟨_, by walk_at "h_put", ?_⟩
  with_reducible refine law_step 7 (by decide) ?_
  conv => enter [3]; whnf
  ((with_reducible refine' X.assignOwn (ds := [.int 256]) ?za5 ?zb5 ?zc5 ?zd5 ?_ (hs := ?zs5)); (case za5 => walk_at "h_evl"); (case zb5 => simp [sizeLine_eq]); (case zc5 => walk_at "h_look"); (case zd5 => rfl); (case zs5 => rfl)); intro ra rv rn; refine ⟨_, by walk_at "h_put", ?_⟩
  with_reducible refine law_step 8 (by decide) ?_
  conv => enter [3]; whnf
  refine X.for_ (It.ints (ns := [h0, h1, h2]) (Ev.take3 (by walk_at "h_look")))
    (fun i σ => ∃ sv sn ra rv rn, σ = LS (n_heaps := .own ha hv hn [.int h0, .int h1, .int h2, .int h3, .int h4, .int h5]) (n_start := .ucell ca) (n_turns := .val (.lst (turnsL.map D.str))) (n_due := .val (.lst (intsLs dueL))) (n_deeds := .idict da deedK dv deedD) (n_sides := .own sa sv sn (intsD (([h0, h1, h2].take i).map sideF))) (n_row := .own ra rv rn (intsD (rowF ([h0, h1, h2].take i)))))
    ⟨_, _, _, _, _, rfl⟩ (fun i σ₁ hi hJ => ?_) fun σ₁ hJ => ?_
  · obtain ⟨sv, sn, ra, rv, rn, rfl⟩ := hJ
    refine ⟨_, _, by walk_at "h_put", rfl, ?_⟩
    have hi3 : i < 3 := hi
    have hrl := row_len ([h0, h1, h2].take i) [256]
    have hl : ([h0, h1, h2].take i).length = i := by rw [List.length_take]; simp; lia
    rw [hl] at hrl
    have hp : 7 ^ i ≤ 49 := by
      have : i = 0 ∨ i = 1 ∨ i = 2 := by lia
      rcases this with rfl | rfl | rfl <;> decide
    have hrow : (rowF ([h0, h1, h2].take i)).length ≤ 100 := by
      have : (rowF ([h0, h1, h2].take i)).length ≤ 7 ^ i * 1 := hrl
      lia
    change XS _ _ (heapB.drop 0) _ _
    with_reducible refine heap_turn hG ?_ hrow ?_
    · rw [List.length_map, hl]; lia
    · intro sv' sn' ra' rv' rn'
      refine ⟨sv', sn', ra', rv', rn', ?_⟩
      rw [take_getD hi 0]; simp [rowF, List.foldl_append]
  obtain ⟨sv, sn, ra, rv, rn, rfl⟩ := hJ
  rw [show List.take [h0, h1, h2].length [h0, h1, h2] = [h0, h1, h2] from rfl]
  with_reducible refine law_step 9 (by decide) ?_
  conv => enter [3]; whnf
  have hrl : (rowF [h0, h1, h2]).length ≤ 343 := Nat.le_trans (row_len [h0, h1, h2] [256]) (show 7 ^ 3 * 1 ≤ 343 by decide)
  ((with_reducible refine' X.append (d := .int 0) ?za6 ?zb6 ?zc6 ?_ (he := ?ze6) (hline := ?zf6) (hs := ?zg6) (hd := ?zh6)); (case za6 => walk_at "h_look"); (case zb6 => with_reducible exact Ev.constI); (case zc6 => simp only [intsD, List.length_map]; rw [sizeLine_eq]; lia); (case ze6 => intro _; rfl); (case zf6 => rfl); (case zg6 => rfl); (case zh6 => decide)); intro rv' rn'; refine ⟨_, by walk_at "h_put", ?_⟩
  ((with_reducible refine' XS.forget (x := "turns") ?zp7 ?zq7 ?_); (case zp7 => walk_at "h_put"); (case zq7 => rfl))
  ((with_reducible refine' XS.forget (x := "due") ?zp8 ?zq8 ?_); (case zp8 => walk_at "h_put"); (case zq8 => rfl))
  ((with_reducible refine' XS.forget (x := "deeds") ?zp9 ?zq9 ?_); (case zp9 => walk_at "h_put"); (case zq9 => rfl))
  with_reducible have k := rest sa sv sn ra rv' rn'
  rw [show intsD (row3 h0 h1 h2 ++ [0]) = intsD (rowF [h0, h1, h2]) ++ [.int 0] by simp [intsD, row3], show [sideF h0, sideF h1, sideF h2] = List.map sideF [h0, h1, h2] from rfl] at k
  with_reducible exact k
end
/-! F15 -/
local macro_rules | `(tactic| walk_at "h_ev") => `(tactic| (with_reducible refine' Ev.subOwn ?a ?b ?d ?e ?g (hs := ?f) (hb := ?k)); (case a => walk_at "h_look"); (case b => walk_at "h_ev"); (case d => first | decide | lia); (case e => first | decide | lia); (case g => first | with_reducible assumption | rfl); (case f => intro _ _; rfl); (case k => decide))
theorem sw_first {env : Env} {x y z : Str} {px py pz tp p2 q1 q2 q3 : Pos} {kk k2 : Nat} {a1 a2 a3 b1 b2 b3 : Expr} {o1 o2 o3 : Operator} (h : env.kindOf x = some .cell) :
    swappedStores [.Tuple [.Name x px, .Name y py, .Name z pz] kk tp] (.Tuple [.BinOp a1 o1 b1 q1, .BinOp a2 o2 b2 q2, .BinOp a3 o3 b3 q3] k2 p2) env = pure none := by
  unfold swappedStores
  simp only [List.length_cons, List.length_nil, List.filterMap_cons, h, List.filterMap_nil]
  have e : ((some NameKind.cell == some NameKind.local) : Bool) = false := by decide
  simp only [e, Bool.false_and, Bool.false_eq_true, if_false, bind_pure_comp]
  by_cases hb : (env.blockKind != ScopeKind.function) = true
  · simp [hb]
  · simp only [Bool.not_eq_true] at hb
    generalize (if (env.kindOf y == some NameKind.local && py.line == _) = true then some y else none) = f
    generalize (if (env.kindOf z == some NameKind.local && pz.line == _) = true then some z else none) = g
    cases f <;> cases g <;> simp [hb]
section
variable {G : Glo} {A : Around} {env : Env} {h₀ : Heap} {av : Addr → Prop} {N : Sig → Prop} {Rt : Sig → D → Prop}
def paintD (st l s e : Int) : D := hlsF (frD (st + 16 * e) 96) (frD l 8) (frD s 4)
/-- between two steps -/
structure Mid where
  hp : Sl
  sd : Sl
  ra : Addr
  rv : List Value
  rn : Nat
abbrev MS (hp sd : Sl) (R : List Int) (ra : Addr) (rv : List Value) (rn : Nat) (ca : Addr) (st l s : Int) (E : List Int) (pa : Addr) (pv : List Value) (pn : Nat) (qa : Addr) (qv : List Value) (qn : Nat) (ma : Addr) (mv : List Value) (mn : Nat) (tu at' : Int) : Sig :=
  LS (n_heaps := hp) (n_sides := sd) (n_row := .own ra rv rn (intsD (R ++ [0]))) (n_start := .cell ca (.int st)) (n_light := .val (.int l)) (n_share := .val (.int s)) (n_paints := .own pa pv pn (E.map (paintD st l s))) (n_places := .own qa qv qn (intsLs ((walkZ (0, 0) (E.map (vecF st l s))).map toL))) (n_middles := .own ma mv mn (intsLs ((midsZ (0, 0) (E.map (vecF st l s))).map toL))) (n_turned := .val (.int tu)) (n_at := .val (.int at'))
set_option maxHeartbeats 1000000 in
theorem law_9 (hG : LOK G) {ca : Addr} (hE : EnvOK env ca) {h0 h1 h2 h3 h4 h5 : Int} {R : List Int} {sd : Sl} {ha ra : Addr} {hv rv : List Value} {hn rn : Nat}
    (rest : ∀ pa pv pn qa qv qn ma mv mn, XS (LC G A env h₀ av) (MS (.own ha hv hn [.int h0, .int h1, .int h2, .int h3, .int h4, .int h5]) sd R ra rv rn ca (h3 % 96) (1 + h4 % 7) (1 + h4 / 7 % 4) [] pa pv pn qa qv qn ma mv mn 0 0) (lawB 15) N Rt) :
    XS (LC G A env h₀ av) (LS (n_heaps := .own ha hv hn [.int h0, .int h1, .int h2, .int h3, .int h4, .int h5]) (n_sides := sd) (n_row := .own ra rv rn (intsD (R ++ [0]))) (n_start := .ucell ca)) (lawB 9) N Rt := by
  have hG' := hG.g
  obtain ⟨⟩ := hG'
  have e96 : ∀ x : Int, x.fmod 96 = x % 96 := fun x => Int.fmod_eq_emod_of_nonneg _ (by decide)
  have e7 : ∀ x : Int, x.fmod 7 = x % 7 := fun x => Int.fmod_eq_emod_of_nonneg _ (by decide)
  have e4 : ∀ x : Int, x.fmod 4 = x % 4 := fun x => Int.fmod_eq_emod_of_nonneg _ (by decide)
  have d7 : ∀ x : Int, x.fdiv 7 = x / 7 := fun x => Int.fdiv_eq_ediv_of_nonneg _ (by decide)
  with_reducible refine law_step 10 (by decide) ?_
  conv => enter [3]; whnf
  ((with_reducible refine' X.assign3c (d1 := .int (h3.fmod 96)) (d2 := .int (1 + h4.fmod 7)) (d3 := .int (1 + (h4.fdiv 7).fmod 4)) ?ya ?yb ?yc ?yd ?ye ?yf ?_ ?yg (hs := ?yh)); (case ya => walk_at "h_ev"); (case yb => walk_at "h_put"); (case yc => walk_at "h_put"); (case yd => walk_at "h_put"); (case ye => rfl); (case yf => rfl); (case yg => exact sw_first hE.s); (case yh => rfl))
  rw [e96, e7, d7, e4]
  with_reducible refine law_step 11 (by decide) ?_
  conv => enter [3]; whnf
  ((with_reducible refine' X.assignOwn (ds := []) ?za1 ?zb1 ?zc1 ?zd1 ?_ (hs := ?zs1)); (case za1 => exact EvL.nil); (case zb1 => simp [sizeLine_eq]); (case zc1 => walk_at "h_look"); (case zd1 => rfl); (case zs1 => rfl)); intro pa pv pn; refine ⟨_, by walk_at "h_put", ?_⟩
  with_reducible refine law_step 12 (by decide) ?_
  conv => enter [3]; whnf
  ((with_reducible refine' X.assignOwn (ds := [.lst [.int 0, .int 0]]) ?za2 ?zb2 ?zc2 ?zd2 ?_ (hs := ?zs2)); (case za2 => walk_at "h_evl"); (case zb2 => simp [sizeLine_eq]); (case zc2 => walk_at "h_look"); (case zd2 => rfl); (case zs2 => rfl)); intro qa qv qn; refine ⟨_, by walk_at "h_put", ?_⟩
  with_reducible refine law_step 13 (by decide) ?_
  conv => enter [3]; whnf
  ((with_reducible refine' X.assignOwn (ds := []) ?za3 ?zb3 ?zc3 ?zd3 ?_ (hs := ?zs3)); (case za3 => exact EvL.nil); (case zb3 => simp [sizeLine_eq]); (case zc3 => walk_at "h_look"); (case zd3 => rfl); (case zs3 => rfl)); intro ma mv mn; refine ⟨_, by walk_at "h_put", ?_⟩
  with_reducible refine law_step 14 (by decide) ?_
  conv => enter [3]; whnf
  ((with_reducible refine' X.assign (d := .int 0) (o := .no) ?za4 ?zb4 ?zc4 ?_ (hs := ?zs4)); (case za4 => walk_at "h_ev"); (case zb4 => walk_at "h_put"); (case zc4 => rfl); (case zs4 => rfl))
  with_reducible refine law_step 15 (by decide) ?_
  conv => enter [3]; whnf
  ((with_reducible refine' X.assign (d := .int 0) (o := .no) ?za5 ?zb5 ?zc5 ?_ (hs := ?zs5)); (case za5 => walk_at "h_ev"); (case zb5 => walk_at "h_put"); (case zc5 => rfl); (case zs5 => rfl))
  with_reducible have k := rest pa pv pn qa qv qn ma mv mn
  exact k
end
/-! F16 -/
theorem divD {c : Cx} {a b : Int} (h0 : b ≠ 0) (h : Float64.isInf (frD a b) = false) : Op2 c (binaryOp .Div) (.int a) (.int b) (.flt (frD a b)) := divII h0 h
local macro_rules | `(tactic| walk_at "h_op") => `(tactic| (with_reducible refine' divD ?a ?b); (case a => decide); (case b => assumption))
theorem fin_inf {x : UInt64} (h : Float64.isFinite x = true) : Float64.isInf x = false := by
  unfold Float64.isFinite at h
  unfold Float64.isInf
  cases hd : Float64.decode x <;> rw [hd] at h <;> first | rfl | cases h
theorem frl_inf : ((List.range 8).all fun l => !Float64.isInf (frD (l : Nat) 8)) = true := by decide +kernel
theorem frs_inf : ((List.range 8).all fun l => !Float64.isInf (frD (l : Nat) 4)) = true := by decide +kernel
theorem frl {l : Int} (h0 : 0 ≤ l) (h1 : l < 8) : Float64.isInf (frD l 8) = false := by
  have h := List.all_eq_true.mp frl_inf l.toNat (List.mem_range.mpr (by lia))
  rw [show ((l.toNat : Nat) : Int) = l by lia] at h
  simpa using h
theorem frs {l : Int} (h0 : 0 ≤ l) (h1 : l < 8) : Float64.isInf (frD l 4) = false := by
  have h := List.all_eq_true.mp frs_inf l.toNat (List.mem_range.mpr (by lia))
  rw [show ((l.toNat : Nat) : Int) = l by lia] at h
  simpa using h
def elseB : List Stmt := match (forB (lawS 15)).getD 0 (.Pass default) with
  | .If _ _ o _ => o
  | _ => []
theorem else_len : elseB.length = 9 := by decide +kernel
def partF : D → D
  | .flt x => .int (toI (Float64.add (Float64.mul x (Float64.ofInt 512)) 0x3fe0000000000000))
  | d => d
theorem Tst.notInOwn {c : Cx} {σ : Sig} {e : Expr} {x : Str} {p pos : Pos} {a : Addr} {vs : List Value} {n : Nat} {xss : List (List Int)} {ns : List Int} (h : Ev c σ e (.lst (intsD ns))) (hl : Look c.names σ x (.own a vs n (intsLs xss))) (hn : ns ∉ xss)
    (hb : (x == ("__debug__" : Str)) = false := by decide) : Tst c σ (.Compare e [.In] [.Name x p] pos) false := by
  have q := Tst.inOwn (p := p) (pos := pos) h hl hb
  rw [decide_eq_false hn] at q
  exact q
theorem last_item (vs : List Z2) : (intsLs ((walkZ (0, 0) vs).map toL))[(-1 + ((intsLs ((walkZ (0, 0) vs).map toL)).length : Int)).toNat]? = some (.lst [.int (endZ (0, 0) vs).1, .int (endZ (0, 0) vs).2]) := by
  have e : (-1 + ((intsLs ((walkZ (0, 0) vs).map toL)).length : Int)).toNat = vs.length := by simp [intsLs, walkZ_len]; lia
  rw [e]
  unfold intsLs
  rw [List.getElem?_map, List.getElem?_map, walkZ_last]
  rfl
section
variable {G : Glo} {A : Around} {env : Env} {h₀ : Heap} {av : Addr → Prop} {N : Sig → Prop} {Rt : Sig → D → Prop}
set_option maxHeartbeats 1000000 in
/-- one step -/
theorem loop_nt (hG : LOK G) {ca : Addr} (hE : EnvOK env ca) {R E : List Int} {hp sd : Sl} {ra pa qa ma : Addr} {rv pv qv mv : List Value} {rn pn qn mn : Nat} {st l s e at' : Int}
    (hst0 : 0 ≤ st) (hst1 : st < 96) (hl0 : 1 ≤ l) (hl1 : l ≤ 7) (hs0 : 1 ≤ s) (hs1 : s ≤ 4) (he0 : -78 ≤ e) (he1 : e ≤ 78) (hEl : E.length ≤ 100)
    (hfr : zadd (endZ (0, 0) (E.map (vecF st l s))) (zadd (endZ (0, 0) (E.map (vecF st l s))) (vecF st l s e)) ∉ midsZ (0, 0) (E.map (vecF st l s)))
    (hN : ∀ pv pn qv qn mv mn, N (MS hp sd R ra rv rn ca st l s (E ++ [e]) pa pv pn qa qv qn ma mv mn e at')) :
    XS (LC G A env h₀ av) (MS hp sd R ra rv rn ca st l s E pa pv pn qa qv qn ma mv mn e at') (elseB.drop 0) N Rt := by
  have hG' := hG.g
  have hGg := hG.g
  obtain ⟨⟩ := hG'
  obtain ⟨r, g, b, P⟩ := paint_at (n := st + 16 * e) (l := l) (s := s) (by lia) (by lia) hl0 hl1 hs0 hs1
  have i1 := fin_inf (hue_in (n := st + 16 * e) (by lia) (by lia)).1
  have i2 := frl (l := l) (by lia) (by lia)
  have i3 := frs (l := s) (by lia) (by lia)
  with_reducible refine XS.step else_len 1 (by decide) ?_
  conv => enter [3]; whnf
  ((with_reducible refine' X.assign (d := .tup [.flt r, .flt g, .flt b]) (o := .no) ?za1 ?zb1 ?zc1 ?_ (hs := ?zs1)); (case za1 => (with_reducible refine' Ev.conv ?_ P.hls); walk_at "h_ev"); (case zb1 => walk_at "h_put"); (case zc1 => rfl); (case zs1 => rfl))
  with_reducible refine XS.step else_len 2 (by decide) ?_
  conv => enter [3]; whnf
  ((with_reducible refine' X.comp (ds := [.flt r, .flt g, .flt b]) (g := partF) (o := .no) (fs := []) (cl := []) ?ya ?yb ?yc ?yd ?ye ?_ ?yg ?yh ?yi ?yj ?yk ?yl ?ym (hsw := ?yn) (hfold := ?yo)))
  case ya => with_reducible refine ItS.tuple (Ev.name ?_); walk_at "h_look"
  case yb => simp [sizeLine_eq]
  case yc => intro d hd; simp at hd; rcases hd with rfl | rfl | rfl <;> rfl
  case yd => walk_at "h_put"
  case ye => rfl
  case yg => rfl
  case yh => decide
  case yi => rfl
  case yj => decide
  case yk => rfl
  case yl => intro p hp; cases hp
  case ym =>
    intro C d hd
    have hx : ∃ x, d = .flt x ∧ Float64.isFinite (Float64.add (Float64.mul x (Float64.ofInt 512)) 0x3fe0000000000000) = true := by
      simp at hd; rcases hd with rfl | rfl | rfl
      · exact ⟨_, rfl, P.fr⟩
      · exact ⟨_, rfl, P.fg⟩
      · exact ⟨_, rfl, P.fb⟩
    obtain ⟨x, rfl, hf⟩ := hx
    obtain ⟨q1, q2, q3⟩ := hG.bn ("int", .type "int") (by assumption)
    exact ES.toInt rfl rfl q1 q2 q3 (ES.bin (ES.bin (ES.name rfl rfl) ES.constI (SOp.mulFI (by decide))) ES.constF SOp.addFF) hf
  case yn => exact sw_comp hE.k ((hE.kd _).trans (by decide +kernel)) rfl (by decide)
  case yo => intro _; rfl
  rw [show List.map partF [D.flt r, D.flt g, D.flt b] = [.int (toI (Float64.add (Float64.mul r (Float64.ofInt 512)) 0x3fe0000000000000)), .int (toI (Float64.add (Float64.mul g (Float64.ofInt 512)) 0x3fe0000000000000)), .int (toI (Float64.add (Float64.mul b (Float64.ofInt 512)) 0x3fe0000000000000))] from rfl]
  have e0 := P.d0
  have e1 := P.d1
  generalize toI (Float64.add (Float64.mul r (Float64.ofInt 512)) 0x3fe0000000000000) = p0 at e0 e1 ⊢
  generalize toI (Float64.add (Float64.mul g (Float64.ofInt 512)) 0x3fe0000000000000) = p1 at e0 e1 ⊢
  generalize toI (Float64.add (Float64.mul b (Float64.ofInt 512)) 0x3fe0000000000000) = p2 at e0 e1 ⊢
  have hv : vecF st l s e = (p0 - p2, p1 - p2) := by unfold vecF; rw [e0, e1]
  have l1 := last_item (E.map (vecF st l s))
  have l2 : -((intsLs ((walkZ (0, 0) (E.map (vecF st l s))).map toL)).length : Int) ≤ -1 := by simp [intsLs, walkZ_len]; lia
  have hE1 : (E ++ [e]).map (paintD st l s) = E.map (paintD st l s) ++ [.tup [.flt r, .flt g, .flt b]] := by rw [List.map_append]; congr 1; show [paintD st l s e] = _; unfold paintD; rw [P.hls]
  have hE2 : intsLs ((walkZ (0, 0) ((E ++ [e]).map (vecF st l s))).map toL) = intsLs ((walkZ (0, 0) (E.map (vecF st l s))).map toL) ++ [.lst [.int (zadd (endZ (0, 0) (E.map (vecF st l s))) (vecF st l s e)).1, .int (zadd (endZ (0, 0) (E.map (vecF st l s))) (vecF st l s e)).2]] := by
    rw [List.map_append, List.map_singleton, walkZ_snoc, List.map_append]; unfold intsLs; rw [List.map_append]; rfl
  have hE3 : intsLs ((midsZ (0, 0) ((E ++ [e]).map (vecF st l s))).map toL) = intsLs ((midsZ (0, 0) (E.map (vecF st l s))).map toL) ++ [.lst (intsD (toL (zadd (endZ (0, 0) (E.map (vecF st l s))) (zadd (endZ (0, 0) (E.map (vecF st l s))) (vecF st l s e)))))] := by
    rw [List.map_append, List.map_singleton, midsZ_app, List.map_append]; unfold intsLs; rw [List.map_append]; rfl
  have hnm : toL (zadd (endZ (0, 0) (E.map (vecF st l s))) (zadd (endZ (0, 0) (E.map (vecF st l s))) (vecF st l s e))) ∉ (midsZ (0, 0) (E.map (vecF st l s))).map toL := fun hm => by
    obtain ⟨w, hw, hw2⟩ := List.mem_map.mp hm
    exact hfr (toL_inj _ _ hw2 ▸ hw)
  have z1 : (intsLs ((midsZ (0, 0) (E.map (vecF st l s))).map toL)).length ≤ sizeLine := by simp only [intsLs, List.length_map, midsZ_len]; rw [sizeLine_eq]; lia
  have z2 : (intsLs ((walkZ (0, 0) (E.map (vecF st l s))).map toL)).length ≤ sizeLine := by simp only [intsLs, List.length_map, walkZ_len]; rw [sizeLine_eq]; lia
  have z3 : (E.map (paintD st l s)).length ≤ sizeLine := by simp only [List.length_map]; rw [sizeLine_eq]; lia
  have hN' := hN
  unfold MS at hN'
  rw [hE1, hE2, hE3] at hN'
  clear hN hfr hE1 hE2 hE3
  generalize intsLs ((walkZ (0, 0) (E.map (vecF st l s))).map toL) = WL at *
  generalize endZ (0, 0) (E.map (vecF st l s)) = z at *
  generalize vecF st l s e = v at *
  have q0 : z.1 + p0 - p2 = (zadd z v).1 := by rw [hv]; show _ = z.1 + (p0 - p2); lia
  have q1 : z.2 + p1 - p2 = (zadd z v).2 := by rw [hv]; show _ = z.2 + (p1 - p2); lia
  generalize hy : zadd z v = y at *
  with_reducible refine XS.step else_len 3 (by decide) ?_
  conv => enter [3]; whnf
  ((with_reducible refine' X.assign (d := .lst [.int z.1, .int z.2]) (o := .no) ?za2 ?zb2 ?zc2 ?_ (hs := ?zs2)); (case za2 => (with_reducible refine' Ev.subOwnNeg (i := -1) ?ua ?ub ?uc l2 ?ud l1 (hs := ?ue) (hb := ?uf)); (case ua => walk_at "h_look"); (case ub => walk_at "h_ev"); (case uc => decide); (case ud => decide); (case ue => intro _ _; rfl); (case uf => decide)); (case zb2 => walk_at "h_put"); (case zc2 => rfl); (case zs2 => rfl))
  with_reducible refine XS.step else_len 4 (by decide) ?_
  conv => enter [3]; whnf
  ((with_reducible refine' X.assign (d := .lst [.int y.1, .int y.2]) (o := .no) ?za3 ?zb3 ?zc3 ?_ (hs := ?zs3)); (case za3 => (with_reducible refine' Ev.conv (d := .lst [.int (z.1 + p0 - p2), .int (z.2 + p1 - p2)]) ?_ (by rw [q0, q1])); walk_at "h_ev" ); (case zb3 => walk_at "h_put"); (case zc3 => rfl); (case zs3 => rfl))
  with_reducible refine XS.step else_len 5 (by decide) ?_
  conv => enter [3]; whnf
  ((with_reducible refine' X.assign (d := .lst (intsD (toL (zadd z y)))) (o := .no) ?za4 ?zb4 ?zc4 ?_ (hs := ?zs4)); (case za4 => show Ev _ _ _ (.lst [.int (z.1 + y.1), .int (z.2 + y.2)]); walk_at "h_ev" ); (case zb4 => walk_at "h_put"); (case zc4 => rfl); (case zs4 => rfl))
  with_reducible refine XS.step else_len 6 (by decide) ?_
  conv => enter [3]; whnf
  ((with_reducible refine' X.if_ (b := false) ?wa ?wb ?_))
  case wa =>
    with_reducible refine' Tst.notInOwn ?wc ?wd hnm (hb := ?we)
    case wc => with_reducible refine Ev.name ?_; walk_at "h_look"
    case wd => walk_at "h_look"
    case we => decide
  case wb => intro h; cases h
  intro _
  refine XS.nil ?_
  with_reducible refine XS.step else_len 7 (by decide) ?_
  conv => enter [3]; whnf
  ((with_reducible refine' X.append (d := .lst (intsD (toL (zadd z y)))) ?za5 ?zb5 ?zc5 ?_ (he := ?ze5) (hline := ?zf5) (hs := ?zg5) (hd := ?zh5)); (case za5 => walk_at "h_look"); (case zb5 => walk_at "h_ev"); (case zc5 => exact z1); (case ze5 => intro _; rfl); (case zf5 => rfl); (case zg5 => rfl); (case zh5 => decide)); intro mv' mn'; refine ⟨_, by walk_at "h_put", ?_⟩
  with_reducible refine XS.step else_len 8 (by decide) ?_
  conv => enter [3]; whnf
  ((with_reducible refine' X.append (d := .lst [.int y.1, .int y.2]) ?za6 ?zb6 ?zc6 ?_ (he := ?ze6) (hline := ?zf6) (hs := ?zg6) (hd := ?zh6)); (case za6 => walk_at "h_look"); (case zb6 => walk_at "h_ev"); (case zc6 => exact z2); (case ze6 => intro _; rfl); (case zf6 => rfl); (case zg6 => rfl); (case zh6 => decide)); intro qv' qn'; refine ⟨_, by walk_at "h_put", ?_⟩
  with_reducible refine XS.step else_len 9 (by decide) ?_
  conv => enter [3]; whnf
  ((with_reducible refine' X.append (d := .tup [.flt r, .flt g, .flt b]) ?za7 ?zb7 ?zc7 ?_ (he := ?ze7) (hline := ?zf7) (hs := ?zg7) (hd := ?zh7)); (case za7 => walk_at "h_look"); (case zb7 => walk_at "h_ev"); (case zc7 => exact z3); (case ze7 => intro _; rfl); (case zf7 => rfl); (case zg7 => rfl); (case zh7 => decide)); intro pv' pn'; refine ⟨_, by walk_at "h_put", ?_⟩
  ((with_reducible refine' XS.forget (x := "paint") ?zp8 ?zq8 ?_); (case zp8 => walk_at "h_put"); (case zq8 => rfl))
  ((with_reducible refine' XS.forget (x := "parts") ?zp9 ?zq9 ?_); (case zp9 => walk_at "h_put"); (case zq9 => rfl))
  ((with_reducible refine' XS.forget (x := "here") ?zp10 ?zq10 ?_); (case zp10 => walk_at "h_put"); (case zq10 => rfl))
  ((with_reducible refine' XS.forget (x := "there") ?zp11 ?zq11 ?_); (case zp11 => walk_at "h_put"); (case zq11 => rfl))
  ((with_reducible refine' XS.forget (x := "middle") ?zp12 ?zq12 ?_); (case zp12 => walk_at "h_put"); (case zq12 => rfl))
  with_reducible refine XS.stop else_len ?_
  with_reducible exact hN' _ _ _ _ _ _
end
/-! F17 -/
local macro_rules | `(tactic| walk_at "h_tst") => `(tactic| first
  | (with_reducible refine' Tst.not ?a); (case a => walk_at "h_tst")
  | (with_reducible refine' Tst.cmp ?a ?b ?d ?e (hm := ?f)); (case a => walk_at "h_ev"); (case b => walk_at "h_ev"); (case d => walk_at "h_op"); (case e => with_reducible exact Tr.bool _); (case f => with_unfolding_all rfl)
  | (with_reducible refine' Tst.plain ?a ?b (he := ?d)); (case a => walk_at "h_ev"); (case b => with_reducible exact Tr.bool _); (case d => intro _; rfl))
def loopB : List Stmt := forB (lawS 15)
theorem loop_len : loopB.length = 2 := by decide +kernel
theorem scan_one (x t : Int) : scan [x] t = if x < 256 then [] else [t] := by unfold scan; split <;> rfl
theorem tot_one (x : Int) : tot [x] = if x < 256 then x else 0 := by simp [tot]
section
variable {G : Glo} {A : Around} {env : Env} {h₀ : Heap} {av : Addr → Prop} {N : Sig → Prop} {Rt : Sig → D → Prop}
set_option maxHeartbeats 1000000 in
theorem law_15 (hG : LOK G) {ca : Addr} (hE : EnvOK env ca) {h0 h1 h2 st l s : Int} {hp sd : Sl} {ra pa qa ma : Addr} {rv pv qv mv : List Value} {rn pn qn mn : Nat}
    (hst0 : 0 ≤ st) (hst1 : st < 96) (hl0 : 1 ≤ l) (hl1 : l ≤ 7) (hs0 : 1 ≤ s) (hs1 : s ≤ 4) (C : Curve h0 h1 h2 st l s)
    (rest : ∀ pv pn qv qn, XS (LC G A env h₀ av) (LS (n_heaps := hp) (n_sides := sd) (n_start := .cell ca (.int st)) (n_light := .val (.int l)) (n_share := .val (.int s)) (n_paints := .own pa pv pn ((EF h0 h1 h2).map (paintD st l s))) (n_places := .own qa qv qn (intsLs ((walkZ (0, 0) ((EF h0 h1 h2).map (vecF st l s))).map toL)))) (lawB 16) N Rt) :
    XS (LC G A env h₀ av) (MS hp sd (row3 h0 h1 h2) ra rv rn ca st l s [] pa pv pn qa qv qn ma mv mn 0 0) (lawB 15) N Rt := by
  have hG' := hG.g
  obtain ⟨⟩ := hG'
  have hEF : EF h0 h1 h2 = scan (row3 h0 h1 h2) 0 := rfl
  have hgood := row3_good h0 h1 h2
  have hRl : (row3 h0 h1 h2).length ≤ 343 := Nat.le_trans (row_len [h0, h1, h2] [256]) (show 7 ^ 3 * 1 ≤ 343 by decide)
  generalize hR : row3 h0 h1 h2 = R at *
  with_reducible refine law_step 16 (by decide) ?_
  conv => enter [3]; whnf
  ((with_reducible refine' X.while_ (fun m σ => ∃ (i : Nat) (pv : List Value) (pn : Nat) (qv : List Value) (qn : Nat) (mv : List Value) (mn : Nat), i ≤ R.length ∧ m = R.length - i ∧ σ = MS hp sd R ra rv rn ca st l s (scan (R.take i) 0) pa pv pn qa qv qn ma mv mn (tot (R.take i)) (i : Nat)) R.length ?wa ?wb))
  case wa => exact ⟨0, pv, pn, qv, qn, mv, mn, Nat.zero_le _, rfl, rfl⟩
  case wb =>
    rintro m σ₁ ⟨i, pv, pn, qv, qn, mv, mn, hi, rfl, rfl⟩
    generalize hx : (R ++ [0]).getD i 0 = x
    have hxi : (intsD (R ++ [0]))[((i : Nat) : Int).toNat]? = some (.int x) := by
      have hlt : i < (R ++ [0]).length := by simp; lia
      rw [Int.toNat_natCast]
      unfold intsD
      rw [List.getElem?_map, List.getElem?_eq_getElem hlt, ← hx, List.getD_eq_getElem?_getD, List.getElem?_eq_getElem hlt]
      rfl
    refine ⟨!(x == 0), ?_, ?_, ?_⟩
    · walk_at "h_tst"
    · intro hb
      have hx0 : x ≠ 0 := by simpa using hb
      have hlt : i < R.length := by
        apply Nat.lt_of_le_of_ne hi
        intro e
        subst e
        apply hx0
        rw [← hx, List.getD_eq_getElem?_getD]
        simp
      have hxR : R.getD i 0 = x := by
        rw [← hx, List.getD_eq_getElem?_getD, List.getD_eq_getElem?_getD, List.getElem?_append_left hlt]
      have htk := take_getD hlt 0
      rw [hxR] at htk
      have hsc : scan (R.take (i + 1)) 0 = scan (R.take i) 0 ++ (if x < 256 then [] else [tot (R.take i)]) := by
        rw [htk, scan_app, scan_one, Int.zero_add]
      have htt : tot (R.take (i + 1)) = tot (R.take i) + (if x < 256 then x else 0) := by rw [htk, tot_app, tot_one]
      have tail : ∀ pv pn qv qn mv mn, XS (LC G A env h₀ av) (MS hp sd R ra rv rn ca st l s (scan (R.take (i + 1)) 0) pa pv pn qa qv qn ma mv mn (tot (R.take (i + 1))) (i : Nat)) (loopB.drop 1)
          (fun σ₂ => ∃ m', m' < R.length - i ∧ ∃ (j : Nat) (pv : List Value) (pn : Nat) (qv : List Value) (qn : Nat) (mv : List Value) (mn : Nat), j ≤ R.length ∧ m' = R.length - j ∧ σ₂ = MS hp sd R ra rv rn ca st l s (scan (R.take j) 0) pa pv pn qa qv qn ma mv mn (tot (R.take j)) (j : Nat)) Rt := by
        intro pv pn qv qn mv mn
        with_reducible refine XS.step loop_len 2 (by decide) ?_
        conv => enter [3]; whnf
        ((with_reducible refine' X.aug (d := _) ?za1 ?zb1 ?zc1 ?zd1 ?_); (case za1 => walk_at "h_look"); (case zb1 => walk_at "h_ev"); (case zc1 => with_reducible exact iaddII); (case zd1 => walk_at "h_put"))
        with_reducible refine XS.stop loop_len ?_
        exact ⟨R.length - (i + 1), by lia, i + 1, pv, pn, qv, qn, mv, mn, hlt, rfl, rfl⟩
      change XS _ _ (loopB.drop 0) _ _
      with_reducible refine XS.step loop_len 1 (by decide) ?_
      conv => enter [3]; whnf
      ((with_reducible refine' X.if_ (b := decide (x < 256)) ?va ?vb ?vc))
      case va => walk_at "h_tst"
      case vb =>
        intro h
        have h := of_decide_eq_true h
        rw [if_pos h, List.append_nil] at hsc
        rw [if_pos h] at htt
        rw [hsc, htt] at tail
        refine XS.cons ?_
        ((with_reducible refine' X.aug (d := _) ?za2 ?zb2 ?zc2 ?zd2 ?_); (case za2 => walk_at "h_look"); (case zb2 => walk_at "h_ev"); (case zc2 => with_reducible exact iaddII); (case zd2 => walk_at "h_put"))
        refine XS.nil ?_
        with_reducible exact tail _ _ _ _ _ _
      case vc =>
        intro h
        have h := of_decide_eq_false h
        rw [if_neg h] at hsc
        rw [if_neg h, Int.add_zero] at htt
        have hsplit : EF h0 h1 h2 = scan (R.take i) 0 ++ tot (R.take i) :: scan (R.drop (i + 1)) (tot (R.take i)) := by
          rw [hEF]
          conv => lhs; rw [← List.take_append_drop i R, scan_app, Int.zero_add]
          rw [List.drop_eq_getElem_cons hlt]
          have : R[i] = x := by rw [← hxR, List.getD_eq_getElem?_getD, List.getElem?_eq_getElem hlt]; rfl
          rw [this]
          show _ ++ (if x < 256 then _ else _) = _
          rw [if_neg h]
        have hbd := C.bd (tot (R.take i)) (by rw [hsplit]; simp)
        have hle : (scan (R.take i) 0).length ≤ 100 := by
          have := C.len
          rw [hsplit] at this
          simp at this
          lia
        rw [hsc, htt] at tail
        change XS _ _ (elseB.drop 0) _ _
        with_reducible refine loop_nt hG hE hst0 hst1 hl0 hl1 hs0 hs1 hbd.1 hbd.2 hle (C.fresh hsplit) ?_
        intro pv pn qv qn mv mn
        with_reducible exact tail _ _ _ _ _ _
    · intro hb
      have hx0 : x = 0 := by simpa using hb
      have hie : i = R.length := by
        apply Nat.le_antisymm hi
        apply Nat.not_lt.mp
        intro hlt
        refine hgood x ?_ hx0
        rw [← hx, List.getD_eq_getElem?_getD, List.getElem?_append_left hlt, List.getElem?_eq_getElem hlt]
        exact List.getElem_mem _
      subst hie
      rw [List.take_length, ← hEF]
      ((with_reducible refine' XS.forget (x := "row") ?zp3 ?zq3 ?_); (case zp3 => walk_at "h_put"); (case zq3 => rfl))
      ((with_reducible refine' XS.forget (x := "middles") ?zp4 ?zq4 ?_); (case zp4 => walk_at "h_put"); (case zq4 => rfl))
      ((with_reducible refine' XS.forget (x := "turned") ?zp5 ?zq5 ?_); (case zp5 => walk_at "h_put"); (case zq5 => rfl))
      ((with_reducible refine' XS.forget (x := "at") ?zp6 ?zq6 ?_); (case zp6 => walk_at "h_put"); (case zq6 => rfl))
      with_reducible exact rest _ _ _ _
end
/-! F18 -/
local macro_rules | `(tactic| walk_at "h_op") => `(tactic| (with_reducible refine' itemL ?a ?b ?d); (case d => with_reducible assumption); (case a => first | decide | lia); (case b => first | decide | lia))
theorem sw_two {env : Env} {px py tp p2 pa pb q1 q2 : Pos} {kk k2 : Nat} {i1 i2 : Expr} (hb : env.blockKind = .function) (hx : env.kindOf "on" = some .local) (hy : env.kindOf "beside" = some .local) (hl : (py.line == px.line) = true) :
    swappedStores [.Tuple [.Name "on" px, .Name "beside" py] kk tp] (.Tuple [.Subscript (.Name "units" pa) i1 q1, .Subscript (.Name "units" pb) i2 q2] k2 p2) env = pure (some [("on" : Str), ("beside" : Str)]) := by
  have hc1 : constantsAlone 8 (.Subscript (.Name "units" pa) i1 q1) = false := by
    show (constantsAlone 7 (.Name "units" pa) && _) = false
    rw [show constantsAlone 7 (.Name "units" pa) = false by show (("units" : Str) == ("__debug__" : Str)) = false; decide]
    rfl
  have hf1 : foldedForSure 8 (.Subscript (.Name "units" pa) i1 q1) = false := rfl
  unfold swappedStores
  simp only [List.length_cons, List.length_nil, List.filterMap_cons, hx, hy, List.filterMap_nil, hb]
  have e1 : (Expr.Name (Str.ofString "on") px).pos.line = px.line := rfl
  have e2 : py.line = px.line := by simpa using hl
  simp only [List.head?_cons, Option.map_some, Option.getD_some, e1, e2, List.all_cons, hc1, hf1, Bool.false_and]
  simp only [beq_self_eq_true, Bool.and_self, if_true]
  rfl
def levelB : List Stmt := forB (lawS 26)
theorem level_len : levelB.length = 8 := by decide +kernel
def unitsD : List D := [.lst [.int 1, .int 0], .lst [.int 0, .int 1], .lst [.int (-1), .int (-1)]]
theorem unit_item {w : Int} (h0 : 0 ≤ w) (h1 : w < 3) : unitsD[w.toNat]? = some (.lst [.int (unitF w).1, .int (unitF w).2]) := by
  have : w = 0 ∨ w = 1 ∨ w = 2 := by lia
  rcases this with rfl | rfl | rfl <;> rfl
theorem unit_le (w : Int) : (unitF w).1.natAbs ≤ 1 ∧ (unitF w).2.natAbs ≤ 1 := by
  unfold unitF
  repeat' split
  all_goals decide
theorem gone_item {s : Int} {z : Zt} : ([D.lst [.int 0, .int 0], .lst [.int (unitF (wayF s z)).1, .int (unitF (wayF s z)).2], .lst [.int ((unitF (wayF s z)).1 + (unitF ((wayF s z + s) % 3)).1), .int ((unitF (wayF s z)).2 + (unitF ((wayF s z + s) % 3)).2)]] : List D)[(figF z).toNat]? = some (.lst [.int (goneF s z).1, .int (goneF s z).2]) := by
  have h : figF z = 0 ∨ figF z = 1 ∨ figF z = 2 := by unfold figF; lia
  unfold goneF
  rcases h with h | h | h <;> rw [h] <;> rfl
theorem gone_le (s : Int) (z : Zt) : (goneF s z).1.natAbs ≤ 2 ∧ (goneF s z).2.natAbs ≤ 2 := by
  unfold goneF
  have u1 := unit_le (wayF s z)
  have u2 := unit_le ((wayF s z + s) % 3)
  repeat' split
  · exact ⟨by decide, by decide⟩
  · lia
  · unfold zadd; simp only; lia
theorem div_item {s : Int} (h : s = 1 ∨ s = -1) : ([D.lst [.int 1, .int (-1)], .lst [.int 2, .int 1]] : List D)[((s + 1).fdiv 2).toNat]? = some (.lst [.int (divF s).1, .int (divF s).2]) := by
  rcases h with rfl | rfl <;> rfl
theorem div_le {s : Int} (h : s = 1 ∨ s = -1) : (divF s).1.natAbs ≤ 2 ∧ (divF s).2.natAbs ≤ 2 := by
  rcases h with rfl | rfl <;> exact ⟨by decide, by decide⟩
theorem pow3 {c : Cx} {k : Nat} (hk : k ≤ 2) : Op2 c (binaryOp .Pow) (.int 3) (.int (k : Nat)) (.int (3 ^ k)) := by
  have := powII (c := c) (a := 3) (b := (k : Nat)) (by lia) (by
    have : k = 0 ∨ k = 1 ∨ k = 2 := by lia
    rcases this with rfl | rfl | rfl <;> decide)
  rw [Int.toNat_natCast] at this
  exact this
local macro_rules | `(tactic| walk_at "h_op") => `(tactic| with_reducible exact pow3 (by assumption))
abbrev ZS (sd : Sl) (ca : Addr) (st k : Int) (z : Zt) (lv : Sl) : Sig := LS (n_sides := sd) (n_start := .cell ca (.int st)) (n_step := .val (.int k)) (n_here := .val (.lst [.int z.a, .int z.b])) (n_way := .val (.int z.w)) (n_units := .val (.lst unitsD)) (n_read := .val (.int z.r)) (n_level := lv)
section
variable {G : Glo} {A : Around} {env : Env} {h₀ : Heap} {av : Addr → Prop} {N : Sig → Prop} {Rt : Sig → D → Prop}
set_option maxHeartbeats 1000000 in
theorem level_turn (hG : LOK G) {ca : Addr} (hE : EnvOK env ca) {sa : Addr} {sv : List Value} {sn : Nat} {sds : List D} {st k s : Int} {z : Zt} {lv : Nat} (hlv : lv ≤ 2) (hs : s = 1 ∨ s = -1) (hsd : sds[(2 - (lv : Int)).toNat]? = some (.int s)) (ok : decOk s z = true)
    (hN : N (ZS (.own sa sv sn sds) ca st k (decF s lv z) .no)) :
    XS (LC G A env h₀ av) (ZS (.own sa sv sn sds) ca st k z (.val (.int (lv : Nat)))) (levelB.drop 0) N Rt := by
  have hG' := hG.g
  have hGg := hG.g
  obtain ⟨⟩ := hG'
  unfold decOk at ok
  simp only [Bool.and_eq_true, decide_eq_true_eq] at ok
  obtain ⟨⟨⟨⟨⟨⟨⟨⟨w0, w1⟩, S3⟩, Su0⟩, Su1⟩, r0⟩, r1⟩, a1⟩, b1⟩ := ok
  have S3 := smallB_of S3
  have Su0 := smallB_of Su0
  have Su1 := smallB_of Su1
  have gl := gone_le s z
  have dl := div_le hs
  have hlast : decF s lv z = ⟨ovU0 (lessF s z).1 (lessF s z).2 (divF s).1 (divF s).2 / ovL (divF s).1 (divF s).2, ovU1 (lessF s z).1 (lessF s z).2 (divF s).1 (divF s).2 / ovL (divF s).1 (divF s).2, wayF s z, z.r + figF z * 3 ^ lv⟩ := rfl
  have hov : overF (lessF s z).1 (lessF s z).2 (divF s).1 (divF s).2 = .lst [.int (ovU0 (lessF s z).1 (lessF s z).2 (divF s).1 (divF s).2 / ovL (divF s).1 (divF s).2), .int (ovU1 (lessF s z).1 (lessF s z).2 (divF s).1 (divF s).2 / ovL (divF s).1 (divF s).2)] := by unfold overF; rw [if_pos ⟨r0, r1⟩]
  rw [hlast] at hN
  clear hlast
  have e3 : ∀ x : Int, x.fmod 3 = x % 3 := fun x => Int.fmod_eq_emod_of_nonneg _ (by decide)
  have f0 : 0 ≤ figF z ∧ figF z < 3 := by unfold figF; lia
  have wy : 0 ≤ wayF s z ∧ wayF s z < 3 := by unfold wayF; split <;> lia
  have gi := gone_item (s := s) (z := z)
  have di := div_item hs
  have u1 := unit_item wy.1 wy.2
  have u2 := unit_item (w := (wayF s z + s) % 3) (by lia) (by lia)
  have x1 : 0 ≤ (s + 1).fdiv 2 ∧ (s + 1).fdiv 2 < 2 := by rcases hs with rfl | rfl <;> decide
  have x2 : (wayF s z + s).fmod 3 = (wayF s z + s) % 3 := e3 _
  have x4 : 0 ≤ (wayF s z + s).fmod 3 ∧ (wayF s z + s).fmod 3 < 3 := by rw [e3]; lia
  have x3 : (z.w - s).fmod 3 = (z.w - s) % 3 := e3 _
  with_reducible refine XS.step level_len 1 (by decide) ?_
  conv => enter [3]; whnf
  ((with_reducible refine' X.if_ (b := false) ?va ?vb ?_))
  case va => (with_reducible refine' Tst.cmp (d1 := .lst [.int z.a, .int z.b]) (d := .bool false) ?wa ?wb ?wd ?we (hm := ?wf)); (case wa => walk_at "h_ev"); (case wb => walk_at "h_ev"); (case wd => exact isNone); (case we => exact Tr.bool _); (case wf => with_unfolding_all rfl)
  case vb => intro h; cases h
  intro _
  refine XS.nil ?_
  with_reducible refine XS.step level_len 2 (by decide) ?_
  conv => enter [3]; whnf
  ((with_reducible refine' X.assign (d := .int s) (o := .no) ?za1 ?zb1 ?zc1 ?_ (hs := ?zs1)); (case za1 => walk_at "h_ev"); (case zb1 => walk_at "h_put"); (case zc1 => rfl); (case zs1 => rfl))
  with_reducible refine XS.step level_len 3 (by decide) ?_
  conv => enter [3]; whnf
  ((with_reducible refine' X.assign (d := .int (figF z)) (o := .no) ?za2 ?zb2 ?zc2 ?_ (hs := ?zs2)); (case za2 => (with_reducible refine' Ev.sub (d1 := .tup [.int ((z.a + z.b) / 3), .int ((z.a + z.b) % 3)]) (d2 := .int 1) ?ra ?rb ?rd ?re (hs := ?rf)); (case ra => (with_reducible refine' Ev.call_id ?sa hGg ?sb ?sc S3 (he := ?sd)); (case sa => walk_at "h_mem"); (case sb => walk_at "h_evl"); (case sc => simp only []; lia); (case sd => intro _; rfl)); (case rb => walk_at "h_ev"); (case rd => constructor); (case re => exact itemT (by decide) (by decide) rfl); (case rf => intro _ _; rfl)); (case zb2 => walk_at "h_put"); (case zc2 => rfl); (case zs2 => rfl))
  have key : XS (LC G A env h₀ av) (LS (n_sides := .own sa sv sn sds) (n_start := .cell ca (.int st)) (n_step := .val (.int k)) (n_here := .val (.lst [.int z.a, .int z.b])) (n_way := .val (.int (wayF s z))) (n_units := .val (.lst unitsD)) (n_read := .val (.int z.r)) (n_level := .val (.int (lv : Nat))) (n_side := .val (.int s)) (n_figure := .val (.int (figF z)))) (levelB.drop 4) N Rt := by
    with_reducible refine XS.step level_len 5 (by decide) ?_
    conv => enter [3]; whnf
    ((with_reducible refine' X.assign2s (d1 := .lst [.int (unitF (wayF s z)).1, .int (unitF (wayF s z)).2]) (d2 := .lst [.int (unitF ((wayF s z + s) % 3)).1, .int (unitF ((wayF s z + s) % 3)).2]) ?ma ?mb ?mc ?md ?me ?mf ?_ (hs := ?mg)); (case ma => rw [← x2] at u2 ⊢; walk_at "h_ev"); (case mb => walk_at "h_put"); (case mc => walk_at "h_put"); (case md => rfl); (case me => rfl); (case mf => exact sw_two (by unfold Env.blockKind; rw [hE.k]; rfl) ((hE.kd _).trans (by decide +kernel)) ((hE.kd _).trans (by decide +kernel)) rfl); (case mg => rfl))
    with_reducible refine XS.step level_len 6 (by decide) ?_
    conv => enter [3]; whnf
    ((with_reducible refine' X.assign (d := .lst [.int (goneF s z).1, .int (goneF s z).2]) (o := .no) ?za3 ?zb3 ?zc3 ?_ (hs := ?zs3)); (case za3 => walk_at "h_ev"); (case zb3 => walk_at "h_put"); (case zc3 => rfl); (case zs3 => rfl))
    with_reducible refine XS.step level_len 7 (by decide) ?_
    conv => enter [3]; whnf
    ((with_reducible refine' X.assign (d := .lst [.int (ovU0 (lessF s z).1 (lessF s z).2 (divF s).1 (divF s).2 / ovL (divF s).1 (divF s).2), .int (ovU1 (lessF s z).1 (lessF s z).2 (divF s).1 (divF s).2 / ovL (divF s).1 (divF s).2)]) (o := _) ?za4 ?zb4 ?zc4 ?_ (hs := ?zs4)); (case za4 => (with_reducible refine' Ev.conv ?ka hov); (with_reducible refine' Ev.call_over (a0 := (lessF s z).1) (a1 := (lessF s z).2) (b0 := (divF s).1) (b1 := (divF s).2) ?ta hGg ?tb ?tc ?td ?te ?tf ?tg Su0 Su1 (he := ?th)); (case ta => walk_at "h_mem"); (case tb => show EvL _ _ _ _ [.lst [.int (z.a - (goneF s z).1), .int (z.b - (goneF s z).2)], .lst [.int (divF s).1, .int (divF s).2]]; walk_at "h_evl"); (case tc => simp only []; lia); (case td => show (z.a - (goneF s z).1).natAbs < _; lia); (case te => show (z.b - (goneF s z).2).natAbs < _; lia); (case tf => lia); (case tg => lia); (case th => intro _; rfl)); (case zb4 => walk_at "h_put"); (case zc4 => rfl); (case zs4 => rfl))
    with_reducible refine XS.step level_len 8 (by decide) ?_
    conv => enter [3]; whnf
    ((with_reducible refine' X.aug (d := .int (z.r + figF z * 3 ^ lv)) ?za5 ?zb5 ?zc5 ?zd5 ?_); (case za5 => walk_at "h_look"); (case zb5 => walk_at "h_ev"); (case zc5 => with_reducible exact iaddII); (case zd5 => walk_at "h_put"))
    ((with_reducible refine' XS.forget (x := "side") ?zp6 ?zq6 ?_); (case zp6 => walk_at "h_put"); (case zq6 => rfl))
    ((with_reducible refine' XS.forget (x := "figure") ?zp7 ?zq7 ?_); (case zp7 => walk_at "h_put"); (case zq7 => rfl))
    ((with_reducible refine' XS.forget (x := "on") ?zp8 ?zq8 ?_); (case zp8 => walk_at "h_put"); (case zq8 => rfl))
    ((with_reducible refine' XS.forget (x := "beside") ?zp9 ?zq9 ?_); (case zp9 => walk_at "h_put"); (case zq9 => rfl))
    ((with_reducible refine' XS.forget (x := "gone") ?zp10 ?zq10 ?_); (case zp10 => walk_at "h_put"); (case zq10 => rfl))
    ((with_reducible refine' XS.forget (x := "level") ?zp11 ?zq11 ?_); (case zp11 => walk_at "h_put"); (case zq11 => rfl))
    with_reducible refine XS.stop level_len ?_
    exact hN
  with_reducible refine XS.step level_len 4 (by decide) ?_
  conv => enter [3]; whnf
  ((with_reducible refine' X.if_ (b := decide (figF z = 1)) ?na ?nb ?nc))
  case na => (with_reducible refine' Tst.cmp (d1 := .int (figF z)) (d2 := .int 1) (d := .bool (figF z == 1)) ?wa1 ?wb1 ?wd1 ?we1 (hm := ?wf1)); (case wa1 => walk_at "h_ev"); (case wb1 => walk_at "h_ev"); (case wd1 => exact eqII); (case we1 => exact (show (figF z == 1) = decide (figF z = 1) from rfl) ▸ Tr.bool _); (case wf1 => with_unfolding_all rfl)
  case nb =>
    intro h
    have h := of_decide_eq_true h
    have ew : wayF s z = (z.w - s).fmod 3 := by unfold wayF; rw [if_pos h, x3]
    rw [ew] at key
    refine XS.cons ?_
    ((with_reducible refine' X.assign (d := .int ((z.w - s).fmod 3)) (o := .val (.int z.w)) ?za12 ?zb12 ?zc12 ?_ (hs := ?zs12)); (case za12 => walk_at "h_ev"); (case zb12 => walk_at "h_put"); (case zc12 => rfl); (case zs12 => rfl))
    refine XS.nil ?_
    with_reducible exact key
  case nc =>
    intro h
    have h := of_decide_eq_false h
    have ew : wayF s z = z.w := by unfold wayF; rw [if_neg h]
    rw [ew] at key
    refine XS.nil ?_
    with_reducible exact key
end
/-! F19 -/
local macro_rules | `(tactic| walk_at "h_op") => `(tactic| (with_reducible refine' mulFI ?a); (case a => first | decide | lia))
theorem pow20 {c : Cx} : Op2 c (binaryOp .Pow) (.int 2) (.int 20) (.int 1048576) := powII (c := c) (a := 2) (b := 20) (by decide) (by decide)
theorem pow17 {c : Cx} : Op2 c (binaryOp .Pow) (.int 2) (.int 17) (.int 131072) := powII (c := c) (a := 2) (b := 17) (by decide) (by decide)
theorem pow18 {c : Cx} : Op2 c (binaryOp .Pow) (.int 2) (.int 18) (.int 262144) := powII (c := c) (a := 2) (b := 18) (by decide) (by decide)
local macro_rules | `(tactic| walk_at "h_op") => `(tactic| first | with_reducible exact pow20 | with_reducible exact pow17 | with_reducible exact pow18)
local macro_rules | `(tactic| walk_at "h_cb") => `(tactic| (with_reducible refine' intF ?a); (case a => assumption))
def nearC (st c : Int) : Int :=
  let a := (st - c).fmod 96
  let b := (c - st).fmod 96
  let m := if b < a then b else a
  let q := if 32 - m < 16 then 32 - m else 16
  if q > 0 then q else 0
theorem nearC_eq (st c : Int) : nearC st c = nearI st c := by
  unfold nearC nearI
  rw [Int.fmod_eq_emod_of_nonneg _ (by decide), Int.fmod_eq_emod_of_nonneg _ (by decide)]
  simp only
  generalize (st - c) % 96 = a
  generalize (c - st) % 96 = b
  lia
def nearD (st : Int) : D → D
  | .int c => .int (nearC st c)
  | d => d
def nearSc : Scope := match lawS 16 with
  | .Assign _ (.ListComp _ _ sc _) _ => sc
  | _ => default
theorem clos_one {env : Env} {ca : Addr} {sc : Scope} (hc : env.cells.lookup ("start" : Str) = some ca) (hs : sc.names = [((".0" : Str), NameKind.local), ("corner", .local), ("max", .globalImplicit), ("min", .globalImplicit), ("start", .free)]) : closureFor sc env = pure [(("start" : Str), ca)] := by
  have h : cellOf env "start" = pure ca := by unfold cellOf; rw [hc]
  unfold closureFor
  rw [hs]
  have e1 : (NameKind.local == NameKind.free) = false := rfl
  have e2 : (NameKind.globalImplicit == NameKind.free) = false := rfl
  have e3 : (NameKind.free == NameKind.free) = true := rfl
  simp only [List.forIn_cons, List.forIn_nil, e1, e2, e3, h, Bool.false_eq_true, if_false, if_true]
  rfl
theorem clos_near {env : Env} {ca : Addr} (hE : EnvOK env ca) : closureFor nearSc env = pure [(("start" : Str), ca)] := clos_one hE.c rfl
theorem Tst.conv {c : Cx} {σ : Sig} {e : Expr} {b b' : Bool} (h : Tst c σ e b) (k : b = b') : Tst c σ e b' := k ▸ h
theorem zmul_le {p v : Z2} (h1 : p.1.natAbs ≤ 64) (h2 : p.2.natAbs ≤ 64) (h3 : v.1.natAbs ≤ 512) (h4 : v.2.natAbs ≤ 512) : (zmul p v).1.natAbs < 2 ^ 64 ∧ (zmul p v).2.natAbs < 2 ^ 64 := by
  have a1 : (p.1 * v.1).natAbs ≤ 64 * 512 := by rw [Int.natAbs_mul]; exact Nat.mul_le_mul h1 h3
  have a2 : (p.2 * v.2).natAbs ≤ 64 * 512 := by rw [Int.natAbs_mul]; exact Nat.mul_le_mul h2 h4
  have a3 : (p.1 * v.2).natAbs ≤ 64 * 512 := by rw [Int.natAbs_mul]; exact Nat.mul_le_mul h1 h4
  have a4 : (p.2 * v.1).natAbs ≤ 64 * 512 := by rw [Int.natAbs_mul]; exact Nat.mul_le_mul h2 h3
  unfold zmul
  simp only
  lia
theorem side_or (h : Int) : sideF h = 1 ∨ sideF h = -1 := by unfold sideF; lia
def traceF (s0 s1 s2 : Int) (z : Zt) : Nat → Zt
  | 0 => z
  | 1 => decF s2 0 z
  | 2 => decF s1 1 (decF s2 0 z)
  | _ => decF s0 2 (decF s1 1 (decF s2 0 z))
section
variable {G : Glo} {A : Around} {env : Env} {h₀ : Heap} {av : Addr → Prop}
set_option maxHeartbeats 1000000 in
theorem law_16 (hG : LOK G) (hA : A.handled = none) {ca : Addr} (hE : EnvOK env ca) {h0 h1 h2 h3 h4 h5 st l s : Int} {ha sa pa qa : Addr} {hv sv pv qv : List Value} {hn sn pn qn : Nat}
    (hst0 : 0 ≤ st) (hst1 : st < 96) (hl0 : 1 ≤ l) (hl1 : l ≤ 7) (hs0 : 1 ≤ s) (hs1 : s ≤ 4) (C : Curve h0 h1 h2 st l s) :
    XS (LC G A env h₀ av) (LS (n_heaps := .own ha hv hn [.int h0, .int h1, .int h2, .int h3, .int h4, .int h5]) (n_sides := .own sa sv sn (intsD [sideF h0, sideF h1, sideF h2])) (n_start := .cell ca (.int st)) (n_light := .val (.int l)) (n_share := .val (.int s)) (n_paints := .own pa pv pn ((EF h0 h1 h2).map (paintD st l s))) (n_places := .own qa qv qn (intsLs ((walkZ (0, 0) ((EF h0 h1 h2).map (vecF st l s))).map toL)))) (lawB 16) (fun _ => False) (fun _ d => d = .bool true) := by
  have hG' := hG.g
  have hGg := hG.g
  obtain ⟨⟩ := hG'
  with_reducible refine law_step 17 (by decide) ?_
  conv => enter [3]; whnf
  ((with_reducible refine' X.comp (ds := [.int 0, .int 32, .int 64]) (g := nearD st) (o := .no) (fs := [(ca, .int st)]) (cl := [("start", ca)]) ?ya ?yb ?yc ?yd ?ye ?_ ?yg ?yh ?yi ?yj ?yk ?yl ?ym (hsw := ?yn) (hfold := ?yo)))
  case ya => (with_reducible refine ItS.list ?_); walk_at "h_ev"
  case yb => simp [sizeLine_eq]
  case yc => intro d hd; simp at hd; rcases hd with rfl | rfl | rfl <;> rfl
  case yd => walk_at "h_put"
  case ye => rfl
  case yg => exact clos_near hE
  case yh => decide
  case yi => rfl
  case yj => decide
  case yk => rfl
  case yl =>
    intro p hp
    rw [List.mem_singleton.mp hp]
    exact ⟨⟨"start", by walk_at "h_look"⟩, rfl⟩
  case ym =>
    intro C' d hd
    have hx : ∃ x, d = .int x := by
      simp at hd; rcases hd with rfl | rfl | rfl <;> exact ⟨_, rfl⟩
    obtain ⟨x, rfl⟩ := hx
    obtain ⟨q1, q2, q3⟩ := hG.bn ("max", .builtin "max") (by assumption)
    obtain ⟨r1, r2, r3⟩ := hG.bn ("min", .builtin "min") (by assumption)
    have hks : (compEnvC nearSc [(("start" : Str), ca)] C' env).kindOf "start" = some .cell := by
      show ((nearSc.names.map fun (n, k) => if (k == .free && env.scope.kind == .function && env.kindOf n == some .cell) then (n, NameKind.cell) else (n, k)).lookup ("start" : Str)) = some .cell
      have e : (env.scope.kind == .function && env.kindOf "start" == some .cell) = true := by rw [hE.k, hE.s]; rfl
      show List.lookup ("start" : Str) [((".0" : Str), NameKind.local), ("corner", .local), ("max", .globalImplicit), ("min", .globalImplicit), (if (NameKind.free == .free && env.scope.kind == .function && env.kindOf "start" == some .cell) then (("start" : Str), NameKind.cell) else ("start", .free))] = some .cell
      rw [show (NameKind.free == NameKind.free && env.scope.kind == .function && env.kindOf "start" == some .cell) = true from e]
      rfl
    have hsub : ∀ p q r s' t, ES (LC G A env h₀ av) (compEnvC nearSc [(("start" : Str), ca)] C' env) "corner" (.int x) [(ca, .int st)] (.BinOp (.BinOp (.Name "start" p) .Sub (.Name "corner" q) r) .Mod (.Constant (.int 96) 0 s') t) (.int ((st - x).fmod 96)) := fun p q r s' t => ES.bin (ES.bin (ES.cell rfl hks rfl (.head _)) (ES.name rfl rfl) SOp.subII) ES.constI (SOp.modII (by decide))
    have hsub2 : ∀ p q r s' t, ES (LC G A env h₀ av) (compEnvC nearSc [(("start" : Str), ca)] C' env) "corner" (.int x) [(ca, .int st)] (.BinOp (.BinOp (.Name "corner" p) .Sub (.Name "start" q) r) .Mod (.Constant (.int 96) 0 s') t) (.int ((x - st).fmod 96)) := fun p q r s' t => ES.bin (ES.bin (ES.name rfl rfl) (ES.cell rfl hks rfl (.head _)) SOp.subII) ES.constI (SOp.modII (by decide))
    show ES _ _ _ _ _ _ (.int (nearC st x))
    exact ES.two rfl rfl q1 q2 q3 ES.constI (ES.two rfl rfl r1 r2 r3 ES.constI (ES.bin ES.constI (ES.two rfl rfl r1 r2 r3 (hsub _ _ _ _ _) (hsub2 _ _ _ _ _) (fun s E t u => min_s hA s E t u)) SOp.subII) (fun s E t u => min_s hA s E t u)) (fun s E t u => max_s hA s E t u)
  case yn => exact sw_comp hE.k ((hE.kd _).trans (by decide +kernel)) rfl (by decide)
  case yo => intro _; rfl
  rw [show List.map (nearD st) [D.int 0, D.int 32, D.int 64] = [.int (nearC st 0), .int (nearC st 32), .int (nearC st 64)] from rfl, nearC_eq, nearC_eq, nearC_eq]
  have hw := wide_bounds hl0 hl1 hs0 hs1
  have hmin : (if 8 - l < l then 8 - l else l) = min l (8 - l) := by lia
  have hwd : 2 * s * (if 8 - l < l then 8 - l else l) = wideI l s := by rw [hmin]; rfl
  have hK : 0 ≤ h5 % 27 ∧ h5 % 27 < 27 := by lia
  have e27 : h5.fmod 27 = h5 % 27 := Int.fmod_eq_emod_of_nonneg _ (by decide)
  have cK : (((h5 % 27).toNat : Nat) : Int) = h5 % 27 := by lia
  generalize h5 % 27 = K at *
  have hkn : K.toNat < 27 := by lia
  obtain ⟨d0, d1, d2, d3⟩ := C.sf.d K.toNat hkn
  have hdir := C.dir K.toNat hkn
  have hpl := C.pl K.toNat hkn
  have d0' := d0
  unfold decOk z0F at d0'
  simp only [Bool.and_eq_true, decide_eq_true_eq] at d0'
  obtain ⟨⟨⟨⟨⟨⟨⟨⟨w0, w1⟩, _⟩, _⟩, _⟩, _⟩, _⟩, pa1⟩, pb1⟩ := d0'
  have ez : z0F (UF (sideF h0) (sideF h1) (sideF h2)) K.toNat = ⟨((PF (UF (sideF h0) (sideF h1) (sideF h2))).getD K.toNat (0, 0)).1, ((PF (UF (sideF h0) (sideF h1) (sideF h2))).getD K.toNat (0, 0)).2, (UF (sideF h0) (sideF h1) (sideF h2)).getD K.toNat 0, 0⟩ := rfl
  rw [ez] at d0 d1 d2 d3
  clear ez
  generalize (PF (UF (sideF h0) (sideF h1) (sideF h2))).getD K.toNat (0, 0) = p at *
  generalize (UF (sideF h0) (sideF h1) (sideF h2)).getD K.toNat 0 = u at *
  have hp : (intsLs ((walkZ (0, 0) ((EF h0 h1 h2).map (vecF st l s))).map toL))[K.toNat]? = some (.lst [.int (zmul p (v0F st l s)).1, .int (zmul p (v0F st l s)).2]) := by
    unfold intsLs
    rw [List.getElem?_map, List.getElem?_map, hpl]
    rfl
  have ke : K.toNat < (EF h0 h1 h2).length := by rw [C.len]; exact hkn
  have hbd := C.bd ((EF h0 h1 h2).getD K.toNat 0) (getD_mem ke)
  obtain ⟨r, g, b, P⟩ := paint_at (n := st + 16 * (EF h0 h1 h2).getD K.toNat 0) (l := l) (s := s) (by lia) (by lia) hl0 hl1 hs0 hs1
  have hq : ((EF h0 h1 h2).map (paintD st l s))[K.toNat]? = some (.tup [.flt r, .flt g, .flt b]) := by
    rw [List.getElem?_map, List.getElem?_eq_getElem ke]
    have e0 : (EF h0 h1 h2).getD K.toNat 0 = (EF h0 h1 h2)[K.toNat] := by rw [List.getD_eq_getElem?_getD, List.getElem?_eq_getElem ke]; rfl
    rw [← e0]
    show some (paintD st l s _) = _
    unfold paintD
    rw [P.hls]
  generalize (EF h0 h1 h2).getD K.toNat 0 = e at *
  have vf := v0_facts hst0 hst1 hl0 hl1 hs0 hs1
  obtain ⟨hov, Su0, Su1⟩ := over_place (m := p) (v := v0F st l s) pa1 pb1 vf.1 vf.2.1
  have zl := zmul_le pa1 pb1 vf.2.2.1 vf.2.2.2
  have p1 := P.ne
  have p2 := P.z1
  have p3 := P.z2
  with_reducible refine law_step 18 (by decide) ?_
  conv => enter [3]; whnf
  ((with_reducible refine' X.assign (d := .int (wideI l s)) (o := .no) ?za1 ?zb1 ?zc1 ?_ (hs := ?zs1)); (case za1 => (with_reducible refine' Ev.conv ?ja (congrArg D.int hwd)); (case ja => walk_at "h_ev")); (case zb1 => walk_at "h_put"); (case zc1 => rfl); (case zs1 => rfl))
  with_reducible refine law_step 19 (by decide) ?_
  conv => enter [3]; whnf
  ((with_reducible refine' X.assign (d := .int K) (o := .no) ?za2 ?zb2 ?zc2 ?_ (hs := ?zs2)); (case za2 => (with_reducible refine' Ev.conv ?jb (congrArg D.int e27)); (case jb => walk_at "h_ev")); (case zb2 => walk_at "h_put"); (case zc2 => rfl); (case zs2 => rfl))
  with_reducible refine law_step 20 (by decide) ?_
  conv => enter [3]; whnf
  ((with_reducible refine' X.assign (d := .lst [.int p.1, .int p.2]) (o := .no) ?za3 ?zb3 ?zc3 ?_ (hs := ?zs3)); (case za3 => (with_reducible refine' Ev.conv ?jc hov); (with_reducible refine' Ev.call_over (a0 := (zmul p (v0F st l s)).1) (a1 := (zmul p (v0F st l s)).2) (b0 := (v0F st l s).1) (b1 := (v0F st l s).2) ?ta hGg ?tb ?tc zl.1 zl.2 ?td ?te Su0 Su1 (he := ?th)); (case ta => walk_at "h_mem"); (case tb => show EvL _ _ _ _ [.lst [.int (zmul p (v0F st l s)).1, .int (zmul p (v0F st l s)).2], .lst [.int (wideI l s * (nearI st 0 - nearI st 64)), .int (wideI l s * (nearI st 32 - nearI st 64))]]; walk_at "h_evl"); (case tc => simp only []; lia); (case td => lia); (case te => lia); (case th => intro _; rfl)); (case zb3 => walk_at "h_put"); (case zc3 => rfl); (case zs3 => rfl))
  with_reducible refine law_step 21 (by decide) ?_
  conv => enter [3]; whnf
  ((with_reducible refine' X.assign (d := .tup [.flt (rgbH r g b (fmax3 r g b) (fmin3 r g b)), .flt (rgbL (fmax3 r g b) (fmin3 r g b)), .flt (rgbS (fmax3 r g b) (fmin3 r g b))]) (o := .no) ?za4 ?zb4 ?zc4 ?_ (hs := ?zs4)); (case za4 => show Ev _ _ _ (rgbF r g b); walk_at "h_ev"); (case zb4 => walk_at "h_put"); (case zc4 => rfl); (case zs4 => rfl))
  have f1 := P.h2
  have f2 := P.l2
  have f3 := P.s2
  have x1 := P.h1
  have x2 := P.l1
  have x3 := P.s1
  generalize rgbH r g b (fmax3 r g b) (fmin3 r g b) = H at *
  generalize rgbL (fmax3 r g b) (fmin3 r g b) = Lq at *
  generalize rgbS (fmax3 r g b) (fmin3 r g b) = Sq at *
  with_reducible refine law_step 22 (by decide) ?_
  conv => enter [3]; whnf
  ((with_reducible refine' X.assign (d := .int (toI (Float64.add (Float64.mul H (Float64.ofInt 96)) 0x3fe0000000000000) - st)) (o := .no) ?za5 ?zb5 ?zc5 ?_ (hs := ?zs5)); (case za5 => walk_at "h_ev"); (case zb5 => walk_at "h_put"); (case zc5 => rfl); (case zs5 => rfl))
  with_reducible refine law_step 23 (by decide) ?_
  conv => enter [3]; whnf
  have y1 : (toI (Float64.add (Float64.mul H (Float64.ofInt 96)) 0x3fe0000000000000) - st).fmod 32 = 0 := by rw [Int.fmod_eq_emod_of_nonneg _ (by decide)]; lia
  have y2 : ((toI (Float64.add (Float64.mul H (Float64.ofInt 96)) 0x3fe0000000000000) - st).fdiv 32).fmod 3 = u := by rw [Int.fmod_eq_emod_of_nonneg _ (by decide), Int.fdiv_eq_ediv_of_nonneg _ (by decide)]; lia
  have y3 : (!decide ([(toI (Float64.add (Float64.mul H (Float64.ofInt 96)) 0x3fe0000000000000) - st).fmod 32, toI (Float64.add (Float64.mul Lq (Float64.ofInt 1048576)) 0x3fe0000000000000), toI (Float64.add (Float64.mul Sq (Float64.ofInt 1048576)) 0x3fe0000000000000)] = [0, l * 131072, s * 262144])) = false := by rw [y1, x2, x3]; simp
  ((with_reducible refine' X.if_ (b := false) ?va ?vb ?_))
  case va =>
    (with_reducible refine' Tst.conv ?ra y3)
    (with_reducible refine' Tst.cmp (d1 := .lst (intsD [(toI (Float64.add (Float64.mul H (Float64.ofInt 96)) 0x3fe0000000000000) - st).fmod 32, toI (Float64.add (Float64.mul Lq (Float64.ofInt 1048576)) 0x3fe0000000000000), toI (Float64.add (Float64.mul Sq (Float64.ofInt 1048576)) 0x3fe0000000000000)])) (d2 := .lst (intsD [0, l * 131072, s * 262144])) ?wa ?wb ?wd ?we (hm := ?wf))
    case wa => show Ev _ _ _ (.lst [.int _, .int _, .int _]); walk_at "h_ev"
    case wb => show Ev _ _ _ (.lst [.int _, .int _, .int _]); walk_at "h_ev"
    case wd => exact neLI
    case we => exact Tr.bool _
    case wf => with_unfolding_all rfl
  case vb => intro h; cases h
  intro _
  refine XS.nil ?_
  with_reducible refine law_step 24 (by decide) ?_
  conv => enter [3]; whnf
  ((with_reducible refine' X.assign (d := .int u) (o := _) ?za6 ?zb6 ?zc6 ?_ (hs := ?zs6)); (case za6 => (with_reducible refine' Ev.conv ?jd (congrArg D.int y2)); (case jd => walk_at "h_ev")); (case zb6 => walk_at "h_put"); (case zc6 => rfl); (case zs6 => rfl))
  with_reducible refine law_step 25 (by decide) ?_
  conv => enter [3]; whnf
  ((with_reducible refine' X.assign (d := .lst unitsD) (o := .no) ?za7 ?zb7 ?zc7 ?_ (hs := ?zs7)); (case za7 => show Ev _ _ _ (.lst [.lst [.int 1, .int 0], .lst [.int 0, .int 1], .lst [.int (-1), .int (-1)]]); walk_at "h_ev"); (case zb7 => walk_at "h_put"); (case zc7 => rfl); (case zs7 => rfl))
  with_reducible refine law_step 26 (by decide) ?_
  conv => enter [3]; whnf
  ((with_reducible refine' X.assign (d := .int 0) (o := .no) ?za8 ?zb8 ?zc8 ?_ (hs := ?zs8)); (case za8 => walk_at "h_ev"); (case zb8 => walk_at "h_put"); (case zc8 => rfl); (case zs8 => rfl))
  ((with_reducible refine' XS.forget (x := "heaps") ?zp9 ?zq9 ?_); (case zp9 => walk_at "h_put"); (case zq9 => rfl))
  ((with_reducible refine' XS.forget (x := "light") ?zp10 ?zq10 ?_); (case zp10 => walk_at "h_put"); (case zq10 => rfl))
  ((with_reducible refine' XS.forget (x := "share") ?zp11 ?zq11 ?_); (case zp11 => walk_at "h_put"); (case zq11 => rfl))
  ((with_reducible refine' XS.forget (x := "paints") ?zp12 ?zq12 ?_); (case zp12 => walk_at "h_put"); (case zq12 => rfl))
  ((with_reducible refine' XS.forget (x := "places") ?zp13 ?zq13 ?_); (case zp13 => walk_at "h_put"); (case zq13 => rfl))
  ((with_reducible refine' XS.forget (x := "near") ?zp14 ?zq14 ?_); (case zp14 => walk_at "h_put"); (case zq14 => rfl))
  ((with_reducible refine' XS.forget (x := "wide") ?zp15 ?zq15 ?_); (case zp15 => walk_at "h_put"); (case zq15 => rfl))
  ((with_reducible refine' XS.forget (x := "told") ?zp16 ?zq16 ?_); (case zp16 => walk_at "h_put"); (case zq16 => rfl))
  with_reducible refine law_step 27 (by decide) ?_
  conv => enter [3]; whnf
  ((with_reducible refine' X.for_ (n := 3) (item := fun i => .int (i : Nat)) ?ha (fun i σ => σ = ZS (.own sa sv sn (intsD [sideF h0, sideF h1, sideF h2])) ca st K (traceF (sideF h0) (sideF h1) (sideF h2) ⟨p.1, p.2, u, 0⟩ i) .no) ?hb ?hc ?hd (hs := ?he)))
  case ha => (with_reducible refine' It.range ?ia ?ib ?ic ?id (hd := ?ie) (he := ?ig)); (case ia => walk_at "h_mem"); (case ib => assumption); (case ic => show Ev _ _ _ (.int 3); walk_at "h_ev"); (case id => decide); (case ie => decide); (case ig => intro _; rfl)
  case hb => rfl
  case hc =>
    rintro i σ₁ hi rfl
    have hi3 : i = 0 ∨ i = 1 ∨ i = 2 := by lia
    refine ⟨_, _, by walk_at "h_put", rfl, ?_⟩
    change XS _ _ (levelB.drop 0) _ _
    rcases hi3 with rfl | rfl | rfl
    · (with_reducible refine level_turn hG hE (by decide) (side_or h2) ?_ ?_ ?_)
      · rfl
      · exact d0
      · rfl
    · (with_reducible refine level_turn hG hE (by decide) (side_or h1) ?_ ?_ ?_)
      · rfl
      · exact d1
      · rfl
    · (with_reducible refine level_turn hG hE (by decide) (side_or h0) ?_ ?_ ?_)
      · rfl
      · exact d2
      · rfl
  case he => intro _; rfl
  case hd =>
    rintro σ₁ rfl
    rw [show traceF (sideF h0) (sideF h1) (sideF h2) ⟨p.1, p.2, u, 0⟩ 3 = ⟨0, 0, 0, ((K.toNat : Nat) : Int)⟩ from d3]
    change XS _ (LS (n_sides := _) (n_start := _) (n_step := _) (n_here := .val (.lst (intsD [0, 0]))) (n_way := .val (.int 0)) (n_units := _) (n_read := .val (.int ((K.toNat : Nat) : Int)))) _ _ _
    with_reducible refine law_step 28 (by decide) ?_
    conv => enter [3]; whnf
    ((with_reducible refine' X.ret (d := .bool true) ?ka ?kb))
    case kb => rfl
    case ka =>
      (with_reducible refine' Ev.andT (d1 := .bool true) ?la (Tr.bool true) ?lb)
      case la => (with_reducible refine' Ev.cmp (d1 := .lst (intsD [0, 0])) (d2 := .lst (intsD [0, 0])) ?ma ?mb ?mc (hm := ?md)); (case ma => with_reducible refine Ev.name ?_; walk_at "h_look"); (case mb => show Ev _ _ _ (.lst [.int 0, .int 0]); walk_at "h_ev"); (case mc => exact eqLI); (case md => with_unfolding_all rfl)
      (with_reducible refine' Ev.andT (d1 := .bool true) ?na (Tr.bool true) ?nb)
      case na => (with_reducible refine' Ev.cmp (d1 := .int 0) (d2 := .int 0) ?ma1 ?mb1 ?mc1 (hm := ?md1)); (case ma1 => walk_at "h_ev"); (case mb1 => walk_at "h_ev"); (case mc1 => exact eqII); (case md1 => with_unfolding_all rfl)
      (with_reducible refine' Ev.and1 ?oa)
      have hkk : (((K.toNat : Nat) : Int) == K) = true := by rw [cK]; simp
      (with_reducible refine' Ev.conv (d := .bool (((K.toNat : Nat) : Int) == K)) ?pa (congrArg D.bool hkk))
      walk_at "h_ev"
end
/-! F20 -/
section
variable {G : Glo} {A : Around} {env : Env} {h₀ : Heap} {av : Addr → Prop}
theorem six {hs : List Int} (h : hs.length = 6) : ∃ a b c d e f, hs = [a, b, c, d, e, f] := by
  match hs, h with
  | [a, b, c, d, e, f], _ => exact ⟨a, b, c, d, e, f, rfl⟩
/-- the law's body is True -/
theorem law_body (hG : LOK G) (hA : A.handled = none) {ca : Addr} (hE : EnvOK env ca) {ns : List Int} (hl : ns.length ≤ 63) :
    XS (LC G A env h₀ av) (LS (n_script := .val (.lst (intsD ns))) (n_start := .ucell ca)) (lawB 0) (fun _ => False) (fun _ d => d = .bool true) := by
  with_reducible refine law_0 hG.g hl ?_
  intro hs ha hv hn h6
  obtain ⟨h0, h1, h2, h3, h4, h5, rfl⟩ := six h6
  rw [show intsD [h0, h1, h2, h3, h4, h5] = [.int h0, .int h1, .int h2, .int h3, .int h4, .int h5] from rfl]
  with_reducible refine law_2 hG ?_
  intro sa sv sn ra rv rn
  with_reducible refine law_9 hG hE ?_
  intro pa pv pn qa qv qn ma mv mn
  have b1 : 0 ≤ h3 % 96 ∧ h3 % 96 < 96 := by lia
  have b2 : 1 ≤ 1 + h4 % 7 ∧ 1 + h4 % 7 ≤ 7 := by lia
  have b3 : 1 ≤ 1 + h4 / 7 % 4 ∧ 1 + h4 / 7 % 4 ≤ 4 := by lia
  have C := curve h0 h1 h2 b1.1 b1.2 b2.1 b2.2 b3.1 b3.2
  with_reducible refine law_15 hG hE b1.1 b1.2 b2.1 b2.2 b3.1 b3.2 C ?_
  intro pv pn qv qn
  with_reducible exact law_16 hG hA hE b1.1 b1.2 b2.1 b2.2 b3.1 b3.2 C
end
/-! J2 -/
def vI : Value → Option Int
  | .int i _ => some i
  | _ => none
def vFl : Value → Option UInt64
  | .float i _ => some i
  | _ => none
def vR : Value → Option Addr
  | .ref i => some i
  | _ => none
def kI (K : Frag) (x : Str) : Option Int := (nsIn K mainGlobals x).bind fun o => o.bind vI
def kF (K : Frag) (x : Str) : Option UInt64 := (nsIn K mainGlobals x).bind fun o => o.bind vFl
def kR (K : Frag) (x : Str) : Option Addr := (nsIn K mainGlobals x).bind fun o => o.bind vR
section
variable (P : Params)
set_option maxRecDepth 100000
theorem k_nt : kI (K0 P) "NT_OFFSET" = some 256 := by kernel_rfl
theorem k_em : kI (K0 P) "ENDMARKER" = some 0 := by kernel_rfl
theorem k_dl : kI (K0 P) "_DIV_LIMIT" = some 4000 := by kernel_rfl
theorem k_ex : kR (K0 P) "EXACT_TOKEN_TYPES" = some 78 := by kernel_rfl
theorem k_i2d : kR (K0 P) "_int2digits" = some 56 := by kernel_rfl
theorem k_d2i : kR (K0 P) "_digits2int" = some 63 := by kernel_rfl
theorem k_f1 : kF (K0 P) "ONE_THIRD" = some third := by kernel_rfl
theorem k_f2 : kF (K0 P) "ONE_SIXTH" = some sixth := by kernel_rfl
theorem k_f3 : kF (K0 P) "TWO_THIRD" = some twoth := by kernel_rfl
theorem k_max : nsIn (K0 P) mainGlobals "max" = some none := by kernel_rfl
theorem k_min : nsIn (K0 P) mainGlobals "min" = some none := by kernel_rfl
theorem k_len : nsIn (K0 P) mainGlobals "len" = some none := by kernel_rfl
theorem k_dm : nsIn (K0 P) mainGlobals "divmod" = some none := by kernel_rfl
theorem k_int : nsIn (K0 P) mainGlobals "int" = some none := by kernel_rfl
theorem k_range : nsIn (K0 P) mainGlobals "range" = some none := by kernel_rfl
theorem k_rev : nsIn (K0 P) mainGlobals "reversed" = some none := by kernel_rfl
theorem k_78 : (K0 P).lookup 78 = some { cls := .type "dict", data := .dict (mk78 P tab78).toArray 48 } := by kernel_rfl
theorem k_op : tab78.map (fun q => (q.1, q.2.2.1)) = opTab := by kernel_rfl
theorem k_c1 {h : Heap} (X : (K0 P).In h) : CodeHd h 55 51 := codeHd_of_K X (by kernel_rfl)
theorem k_c2 {h : Heap} (X : (K0 P).In h) : CodeHd h 62 58 := codeHd_of_K X (by kernel_rfl)
end
theorem mgI {K : Frag} {h : Heap} {mg : Str → Option Value} {x : Str} {n : Int} (X : K.In h) (G : h.Ns mainGlobals mg) (e : kI K x = some n) : ∃ t, mg x = some (.int n t) := by
  unfold kI at e
  cases q : nsIn K mainGlobals x with
  | none => rw [q] at e; cases e
  | some o =>
    rw [q] at e
    cases o with
    | none => cases e
    | some v =>
      cases v with
      | int i t => cases e; exact ⟨t, mg_of X G q⟩
      | _ => cases e
theorem mgF {K : Frag} {h : Heap} {mg : Str → Option Value} {x : Str} {n : UInt64} (X : K.In h) (G : h.Ns mainGlobals mg) (e : kF K x = some n) : ∃ t, mg x = some (.float n t) := by
  unfold kF at e
  cases q : nsIn K mainGlobals x with
  | none => rw [q] at e; cases e
  | some o =>
    rw [q] at e
    cases o with
    | none => cases e
    | some v =>
      cases v with
      | float i t => cases e; exact ⟨t, mg_of X G q⟩
      | _ => cases e
theorem mgR {K : Frag} {h : Heap} {mg : Str → Option Value} {x : Str} {n : Addr} (X : K.In h) (G : h.Ns mainGlobals mg) (e : kR K x = some n) : mg x = some (.ref n) := by
  unfold kR at e
  cases q : nsIn K mainGlobals x with
  | none => rw [q] at e; cases e
  | some o =>
    rw [q] at e
    cases o with
    | none => cases e
    | some v =>
      cases v with
      | ref i => cases e; exact mg_of X G q
      | _ => cases e
theorem mk_pairs {prog : Program} {w : World} : ∀ l : List (Str × Tok × Int × Tok), Pairs (strKind prog w) (mk78 w.params l) (l.map fun q => (q.1, Value.int q.2.2.1 q.2.2.2))
  | [] => .nil
  | x :: r => .cons (strKind_is prog w x.1 x.2.1) rfl (mk_pairs r)
theorem mk_flat : ∀ l : List (Str × Tok × Int × Tok), PyProof.V.FlatPairs PyData.str (l.map fun q => (q.1, Value.int q.2.2.1 q.2.2.2)) (l.map fun q => (PyData.str q.1, PyData.int q.2.2.1))
  | [] => .nil
  | x :: r => .cons (PyProof.V.Flat.int _ _) (mk_flat r)
theorem mk_dict {prog : Program} {w : World} {l : List (Str × Tok × Int × Tok)} {n : Nat} (hn : (l.map (·.1)).Nodup) : ({ cls := .type "dict", data := .dict (mk78 w.params l).toArray n } : Obj).IsDictOf (strKind prog w) (l.map fun q => (q.1, Value.int q.2.2.1 q.2.2.2)) := by
  refine ⟨(mk78 w.params l).toArray, n, ⟨rfl, rfl, rfl⟩, rfl, fun e he => ?_, mk_pairs l, ?_⟩
  · obtain ⟨q, _, rfl⟩ := List.mem_map.mp (List.mem_toArray.mp he)
    exact ⟨q.1, strKind_is prog w q.1 q.2.1, rfl⟩
  · rw [List.map_map]; exact hn
theorem op_nodup : (opTab.map (·.1)).Nodup := by decide +kernel
theorem k_tab {prog : Program} {w : World} {h : Heap} (X : (K0 w.params).In h) : StrTab prog w h 78 (opTab.map fun p => (.str p.1, .int p.2)) := by
  have hn : ((tab78).map (·.1)).Nodup := by
    have := op_nodup
    rw [← k_op, List.map_map] at this
    exact this
  have := TabAt.ofObj (knd := strKind prog w) (enc := PyData.str) (D := (tab78).map fun q => (PyData.str q.1, PyData.int q.2.2.1)) (by decide) (X _ _ (k_78 w.params)) (mk_dict hn) (mk_flat _)
  rw [← k_op, List.map_map]
  exact this
/-! J3 -/
/-- this text's facts -/
def GG (prog : Program) (w : World) (mg mb : Str → Option Value) (tl : List Str) (mean : ExcName → Option Value) : Glo where
  prog := prog
  w := w
  mg := mg
  mb := mb
  tp := topProg
  tl := tl
  mean := mean
  t1 := ⟨dfn 11, 55, 51, (inn 11 1).pos, "_int2digits.<locals>.inner"⟩
  t2 := ⟨dfn 12, 62, 58, (inn 12 0).pos, "_digits2int.<locals>.inner"⟩
  fns := [dfn 4, dfn 5, dfn 6, dfn 9, dfn 11, dfn 12, dfn 13, dfn 14, dfn 67, dfn 68, dfn 69, dfn 71, dfn 72]
  consts := [("ONE_THIRD", .flt third), ("ONE_SIXTH", .flt sixth), ("TWO_THIRD", .flt twoth), ("NT_OFFSET", .int 256), ("ENDMARKER", .int 0), ("_DIV_LIMIT", .int 4000)]
  bns := [("max", .builtin "max"), ("min", .builtin "min"), ("len", .builtin "len"), ("divmod", .builtin "divmod"), ("int", .type "int"), ("range", .type "range"), ("reversed", .type "reversed")]
  dnm := "EXACT_TOKEN_TYPES"
  dtab := opTab
abbrev tabsL : List (Addr × Addr) := [(62, 58), (55, 51)]
section
variable {prog : Program} {w : World} {mg mb : Str → Option Value} {tl tl0 : List Str} {mean : ExcName → Option Value} {h₁ : Heap}
theorem GG_ok : GOK (GG prog w mg mb tl mean) := by
  constructor
  case t1 => exact ⟨55, 51, rfl⟩
  case t2 => exact ⟨62, 58, rfl⟩
  all_goals first
    | exact List.mem_of_getElem? (i := 0) rfl
    | exact List.mem_of_getElem? (i := 1) rfl
    | exact List.mem_of_getElem? (i := 2) rfl
    | exact List.mem_of_getElem? (i := 3) rfl
    | exact List.mem_of_getElem? (i := 4) rfl
    | exact List.mem_of_getElem? (i := 5) rfl
    | exact List.mem_of_getElem? (i := 6) rfl
    | exact List.mem_of_getElem? (i := 7) rfl
    | exact List.mem_of_getElem? (i := 8) rfl
    | exact List.mem_of_getElem? (i := 9) rfl
    | exact List.mem_of_getElem? (i := 10) rfl
    | exact List.mem_of_getElem? (i := 11) rfl
    | exact List.mem_of_getElem? (i := 12) rfl
/-- the view's defs -/
def recsL : List DefRec := [dfn 4, dfn 5, dfn 6, dfn 9, dfn 10, dfn 11, dfn 12, dfn 13, dfn 14, dfn 67, dfn 68, dfn 69, dfn 71, dfn 72, dfn 73]
theorem tabs_at (S : SaysL w h₁) : TabsAt tabsL h₁ := fun p hp => by
  rcases List.mem_cons.mp hp with rfl | hp
  · exact ⟨k_c2 _ S.k, S.t1⟩
  · rw [List.mem_singleton.mp hp]
    exact ⟨k_c1 _ S.k, S.t2⟩
theorem no_tabs (P : Params) : noTabs (K0 P) = true := by kernel_rfl
theorem ghost_in (S : SaysL w h₁) : (K0 w.params).In (ghostOf h₁ tabsL) := ghost_K (tabs_at S) S.k (no_tabs _)
theorem fn_at {q : Program} {d : DefRec} (k : Nat) (S : SaysL w h₁) (T : Top q tl0 mean mg mb h₁) (hr : recsOf q = recsL) (h : recsL[k]? = some d) : FnAt mg (ghostOf h₁ tabsL) d := by
  obtain ⟨a, o, pm, code, doc, e1, e2, e3, c, oc, vs, t, rfl, e5, e6, e7⟩ := T.fn d (hr ▸ List.mem_of_getElem? h)
  exact ⟨a, o, pm, _, doc, e1, PySem.W.ghost_get (tabs_at S) e2 (fun q => by rw [q] at e3; cases e3), e3, c, oc, vs, t, rfl, PySem.W.ghost_get (tabs_at S) e5 (fun q => by rw [q] at e6; cases e6; simp at e7), e6, e7⟩
theorem fn_atC {q : Program} {t : Tab} {fa : Addr} (k : Nat) (S : SaysL w h₁) (T : Top q tl0 mean mg mb h₁) (hr : recsOf q = recsL) (h : recsL[k]? = some t.d) (hm : mg t.d.name = some (.ref fa)) (hf : fnCode (h₁.get? fa) = some (.ref t.c)) : FnAtC mg (ghostOf h₁ tabsL) t := by
  obtain ⟨a, o, pm, code, doc, e1, e2, e3, c, oc, vs, tk, rfl, e5, e6, e7⟩ := T.fn t.d (hr ▸ List.mem_of_getElem? h)
  rw [hm] at e1
  cases e1
  rw [e2] at hf
  obtain ⟨ocl, od, dt, sl⟩ := o
  simp only at e3
  subst e3
  cases hf
  exact ⟨_, _, pm, doc, hm, PySem.W.ghost_get (tabs_at S) e2 (fun q => by cases q), rfl, _, oc, vs, tk, rfl, PySem.W.ghost_get (tabs_at S) e5 (fun q => by rw [q] at e6; cases e6; simp at e7), e6, e7⟩
theorem all_mem {α : Type} {p : α → Prop} : ∀ {l : List α}, (∀ x ∈ l, p x) ↔ l.foldr (fun x r => p x ∧ r) True
  | [] => ⟨fun _ => trivial, fun _ _ h => nomatch h⟩
  | a :: l => ⟨fun h => ⟨h a (.head _), all_mem.mp fun x hx => h x (.tail _ hx)⟩, fun h x hx => by
    rcases List.mem_cons.mp hx with rfl | hx
    · exact h.1
    · exact all_mem.mpr h.2 x hx⟩
theorem GG_facts {q : Program} (S : SaysL w h₁) (T : Top q tl0 mean mg mb h₁) (hr : recsOf q = recsL) (T' : Top topProg tl mean mg mb (ghostOf h₁ tabsL)) : (GG prog w mg mb tl mean).Facts (ghostOf h₁ tabsL) :=
  have X := ghost_in S
  have G := T'.g
  { top := T'
    fn := all_mem.mpr ⟨fn_at 0 S T hr rfl, fn_at 1 S T hr rfl, fn_at 2 S T hr rfl, fn_at 3 S T hr rfl, fn_at 5 S T hr rfl, fn_at 6 S T hr rfl, fn_at 7 S T hr rfl, fn_at 8 S T hr rfl, fn_at 9 S T hr rfl, fn_at 10 S T hr rfl, fn_at 11 S T hr rfl, fn_at 12 S T hr rfl, fn_at 13 S T hr rfl, trivial⟩
    cn := all_mem.mpr ⟨(mgF X G (k_f1 _)).elim fun _ e => ⟨_, e, .flt _ _⟩, (mgF X G (k_f2 _)).elim fun _ e => ⟨_, e, .flt _ _⟩, (mgF X G (k_f3 _)).elim fun _ e => ⟨_, e, .flt _ _⟩, (mgI X G (k_nt _)).elim fun _ e => ⟨_, e, .int _ _⟩, (mgI X G (k_em _)).elim fun _ e => ⟨_, e, .int _ _⟩, (mgI X G (k_dl _)).elim fun _ e => ⟨_, e, .int _ _⟩, trivial⟩
    bn := all_mem.mpr ⟨⟨mg_none_of X G (k_max _), by decide, rfl⟩, ⟨mg_none_of X G (k_min _), by decide, rfl⟩, ⟨mg_none_of X G (k_len _), by decide, rfl⟩, ⟨mg_none_of X G (k_dm _), by decide, rfl⟩, ⟨mg_none_of X G (k_int _), by decide, rfl⟩, ⟨mg_none_of X G (k_range _), by decide, rfl⟩, ⟨mg_none_of X G (k_rev _), by decide, rfl⟩, trivial⟩
    hd1 := k_c1 _ X
    hd2 := k_c2 _ X
    ft1 := fn_atC (t := ⟨dfn 11, 55, 51, (inn 11 1).pos, "_int2digits.<locals>.inner"⟩) 5 S T hr rfl (mgR X G (k_i2d _)) S.f1
    ft2 := fn_atC (t := ⟨dfn 12, 62, 58, (inn 12 0).pos, "_digits2int.<locals>.inner"⟩) 6 S T hr rfl (mgR X G (k_d2i _)) S.f2
    tne := by show (51 : Nat) ≠ 58; decide
    dct := ⟨78, mgR X G (k_ex _), k_tab X⟩ }
end
/-! J4 -/
theorem well_all {P : Params} {h : Heap} {Z : Led} : ∀ {vs : List Value} {ns : List Int}, WellAll P h vs (ofPys (ns.map PyData.int)) → DAll Z vs (intsD ns)
  | _, [], k => by cases k; exact .nil
  | _, n :: ns, k => by
    cases k with
    | cons h1 h2 =>
      cases h1
      exact .cons (.int _ _) (well_all h2)
theorem tab_grown {Z : Led} {h : Heap} {t : Tab} (T : TabSt Z h t) : GrownAt t.P h := by
  rcases T with e | ⟨c', oc, vs, tk, e, _⟩
  · exact ⟨_, e⟩
  · exact ⟨_, e⟩
theorem Look.idx {ns : List Str} {σ : Sig} {x : Str} {sl : Sl} (h : Look ns σ x sl) : ∃ i : Nat, ns[i]? = some x ∧ σ[i]? = some sl := by
  induction h with
  | head => exact ⟨0, rfl, rfl⟩
  | tail _ ih => exact ih.elim fun i e => ⟨i + 1, e⟩
theorem start_at : ((List.range 41).all fun i => i == 15 || lawN[i]? != some ("start" : Str)) = true := by decide +kernel
theorem look_LS {x : Str} {sl : Sl} {d : D} {ca : Addr} (h : Look lawN (LS (n_script := .val d) (n_start := .ucell ca)) x sl) : (x = "script" ∧ sl = .val d) ∨ (x = "start" ∧ sl = .ucell ca) ∨ (sl = .no ∧ x ∈ lawN ∧ x ≠ "start") := by
  obtain ⟨i, h1, h2⟩ := h.idx
  have hm := h.mem
  by_cases h0 : i = 0
  · subst h0; cases h1; cases h2; exact .inl ⟨rfl, rfl⟩
  by_cases h5 : i = 15
  · subst h5; cases h1; cases h2; exact .inr (.inl ⟨rfl, rfl⟩)
  have hlt : i < 41 := (List.getElem?_eq_some_iff.mp h1).1
  refine .inr (.inr ⟨?_, hm, fun e => ?_⟩)
  · have e : LS (n_script := .val d) (n_start := .ucell ca) = .val d :: (List.replicate 14 .no ++ .ucell ca :: List.replicate 25 .no) := rfl
    rw [e] at h2
    obtain ⟨k, rfl⟩ := Nat.exists_eq_succ_of_ne_zero h0
    rw [List.getElem?_cons_succ] at h2
    have hmem := List.mem_of_getElem? h2
    rw [List.getElem?_append] at h2
    split at h2
    · exact (List.mem_replicate.mp (List.mem_of_getElem? h2)).2
    · rename_i hk
      have hk' : k - (List.replicate 14 Sl.no).length ≠ 0 := by rw [List.length_replicate] at *; lia
      obtain ⟨j, hj⟩ := Nat.exists_eq_succ_of_ne_zero hk'
      rw [hj, List.getElem?_cons_succ] at h2
      exact (List.mem_replicate.mp (List.mem_of_getElem? h2)).2
  · have q := List.all_eq_true.mp start_at i (List.mem_range.mpr hlt)
    rw [h1, e] at q
    simp at q
    exact h5 q
section
variable {prog : Program} {w : World} {mg mb : Str → Option Value} {tl tl0 : List Str} {mean : ExcName → Option Value}
abbrev tlG (q : Program) (tl0 : List Str) : List Str := tl0 ++ (recsOf q).map (·.name) ++ (litsOf q).map (·.1) ++ (clssOf q tl0).map (·.name)
theorem LL_ok {h : Heap} (F : (GG prog w mg mb tl mean).Facts h) : LOK (GG prog w mg mb tl mean) := ⟨GG_ok, rfl, rfl, F.bn⟩
theorem law_join {s₁ s : Shared} {m : Str → Option Value} {cd : Value} {fa a : Addr} {ns : List Int} {oc : Obj} {Q : Flow → Shared → Prop} {E : Value → Shared → Prop}
    {vw : Program} (S : SaysL w s₁.heap) (T : Top vw tl0 mean mg mb s₁.heap) (hr : recsOf vw = recsL)
    (w1 : Well w.params s₁.heap (.ref a) (ofPy (.list (ns.map PyData.int)))) (hlen : ns.length ≤ 63)
    (F₀ : Fr s₁.heap s₁.heap.objs.size s.heap m) (hm : m "script" = some (.ref a))
    (N₀ : News s₁.heap s₁.heap.objs.size s.heap [(s₁.heap.objs.size + 1, oc)]) (hoc : oc.data = .cell none)
    (q : ∀ h' tk' m', Fr (ghostOf s₁.heap tabsL) s₁.heap.objs.size h' m' → GrownAt 58 h' → GrownAt 51 h' → Q (.ret (.bool true)) { s with heap := h', toks := tk' }) :
    wpAny (model prog w) (callerA.deeper (envOfC (dfn 73).name (dfn 73).scope s₁.heap.objs.size fa cd)) (execs (dfn 73).body (envOfC (dfn 73).name (dfn 73).scope s₁.heap.objs.size fa cd)) Q E s := by
  have hT := tabs_at S
  have GF := GG_facts (prog := prog) S T hr (ghost_top hT T)
  have F := ghost_fr hT F₀
  have N := ghost_news hT F₀ N₀
  have l1 : 58 < s₁.heap.objs.size := Heap.lt_size S.t1
  have l2 : 51 < s₁.heap.objs.size := Heap.lt_size S.t2
  obtain ⟨vs, hget, hall⟩ : ∃ vs : List Value, s₁.heap.get? a = some (listOf vs.toArray 0) ∧ DAll [] vs (intsD ns) := by
    cases w1 with
    | list h1 h2 => exact ⟨_, h1, well_all h2⟩
  have hn1 := N _ (.head _)
  have hn2 := N _ (.tail _ (.head _))
  have hn3 := N _ (.tail _ (.tail _ (.head _)))
  have hga : (ghostOf s₁.heap tabsL).get? a = some (listOf vs.toArray 0) := PySem.W.ghost_get hT hget (fun q => by cases q)
  have ha : a < s₁.heap.objs.size := Heap.lt_size hget
  have hs : (ghostOf s₁.heap tabsL).objs.size = s₁.heap.objs.size := hideAll_size _ _
  have na : ∀ P : Addr, s.heap.get? P = some (tabObj #[]) → a ≠ P := fun P e q => by
    have := F.keep _ _ hga
    rw [q, e] at this
    cases this
  let env : Env := envOfC (dfn 73).name (dfn 73).scope s₁.heap.objs.size fa cd
  have hE : EnvOK env (s₁.heap.objs.size + 1) := ⟨rfl, rfl⟩
  have hkd : ∀ x, env.kindOf x = (dfn 73).scope.names.lookup x := hE.kd
  have hloc : (lawN.all fun x => (dfn 73).scope.names.lookup x == some .local || x == ("start" : Str)) = true := by decide +kernel
  have hgl : (lawG.all fun x => (dfn 73).scope.names.lookup x == some .globalImplicit) = true := by decide +kernel
  let c : Cx := LC (GG prog w mg mb (tlG vw tl0) mean) (callerA.deeper env) env (ghostOf s₁.heap tabsL) (fun b => b = 58 ∨ b = 51)
  have ok : c.OK := {
    gf := GF
    hh := rfl
    kind := hE.k
    glob := rfl
    blt := rfl
    nd := by show lawN.Nodup; decide
    gn := fun x hx => by rw [show c.env.kindOf x = _ from hkd x]; simpa using List.all_eq_true.mp hgl x hx
    dp := by show callerA.depth + 1 + 12 < recursionLimit; decide
    un := by show callerA.units + 3 + 8 * 12 + 80 < cLine; decide
    av := fun b hb => by show b < (ghostOf s₁.heap tabsL).objs.size; rw [hs]; exact hb.elim (fun e => e ▸ l1) (fun e => e ▸ l2)
    avk := fun b hb => hb.elim (fun e => .inr (.inr e)) (fun e => .inr (.inl e))
    av1 := .inr rfl
    av2 := .inl rfl
    g1 := hideAll_none _ (.tail _ (.head _))
    g2 := hideAll_none _ (.head _) }
  have r : R c (LS (n_script := .val (.lst (intsD ns))) (n_start := .ucell (s₁.heap.objs.size + 1))) [(a, listOf vs.toArray 0)] s.heap := by
    refine ⟨ok, ⟨m, F, fun x sl hl => ?_⟩, fun p hp => ?_, fun x sl b hl hb => ?_, fun x y t u b hx hy hne hb hb' => ?_, .inl hn3.1, .inl hn2.1⟩
    · rcases look_LS hl with ⟨rfl, rfl⟩ | ⟨rfl, rfl⟩ | ⟨rfl, hm', hne⟩
      · exact ⟨(hkd _).trans (by decide +kernel), _, hm, .lst (.head _) (hall.mono fun _ h => absurd h List.not_mem_nil)⟩
      · exact ⟨hE.s, hE.c, oc, hn1.1, hoc⟩
      · show env.kindOf x = some .local
        rw [hkd]
        have := List.all_eq_true.mp hloc x hm'
        simp only [Bool.or_eq_true, beq_iff_eq] at this
        exact this.resolve_right hne
    · rw [List.mem_singleton.mp hp]
      refine ⟨F.keep _ _ hga, Nat.ne_of_lt ha, fun q => ?_⟩
      rcases q with q | q
      · exact na 58 hn2.1 q
      · exact na 51 hn3.1 q
    · rcases look_LS hl with ⟨rfl, rfl⟩ | ⟨rfl, rfl⟩ | ⟨rfl, hm', hne⟩
      · cases hb
      · cases hb
        refine ⟨⟨hn1.2.2, fun q => ?_⟩, hn1.2.1, fun p hp => ?_⟩
        · rcases q with q | q
          · exact absurd l1 (by rw [← show s₁.heap.objs.size + 1 = 58 from q]; omega)
          · exact absurd l2 (by rw [← show s₁.heap.objs.size + 1 = 51 from q]; omega)
        · rw [List.mem_singleton.mp hp]
          exact Nat.ne_of_lt (Nat.lt_succ_of_lt ha)
      · cases hb
    · rcases look_LS hx with ⟨rfl, rfl⟩ | ⟨rfl, rfl⟩ | ⟨rfl, _, _⟩
      · cases hb
      · rcases look_LS hy with ⟨rfl, rfl⟩ | ⟨rfl, rfl⟩ | ⟨rfl, _, _⟩
        · cases hb'
        · exact hne rfl
        · cases hb'
      · cases hb
  have B := law_body (G := GG prog w mg mb (tlG vw tl0) mean) (A := callerA.deeper env) (env := env) (h₀ := ghostOf s₁.heap tabsL) (av := fun b => b = 58 ∨ b = 51) (LL_ok GF) rfl hE hlen
  unfold XS at B
  change wpAny c.M c.A (execs (lawB 0) c.env) Q E s
  with_reducible refine B s _ Q E r ?_ ?_
  · intro σ' h' tk' Z' hf
    exact hf.elim
  · intro σ' h' tk' Z' v d hd r' z i
    subst hd
    cases i
    obtain ⟨m', F', _⟩ := r'.fr
    exact q h' tk' m' F' (tab_grown r'.tb2) (tab_grown r'.tb1)
end
end Td
set_option maxRecDepth 100000 in
set_option maxHeartbeats 8000000 in
theorem PySem.Challenge.cw_rs0196_01_holds : PySem.Challenge.rw_rs0196_01.Holds := by
  w_on
  refine holds_law Td.well fun said => ?_
  refine holds_open (q := Td.view) (loose := Td.loose) (Xt := Td.Xt) (XP := XL Td.view Td.lv) (Yf := Td.hookL.obs) (Ya := Td.hookL.val) (YP := Td.hookL.says) (N := 4148) Td.left Td.hookL.of Td.hookL.keeps (fun s e => xl_of s (Bool.and_eq_true_iff.mp e).1) XL.keeps (by rfl) (by rfl) (by rfl) (fun s e => recFacts_of (Bool.and_eq_true_iff.mp e).2) (by rfl) (by first | assumption | decide +kernel) (by decide +kernel) ⟨rfl, rfl, rfl, rfl, rfl, by decide +kernel⟩ ?hw ?hc
  (case hw => w_witness2)
  intro w s₀ s₁ mg mb G Y fa o pm cd doc dV kV ho hd hcd hD hmg hg args vals as hpre hlay hrd hwl hlo
  have S : Td.SaysL w s₁.heap := Y
  have hT9 := Td.tabs_at S
  refine Ground.open G ?_
  intro T B D TE TW
  clear hmg
  wrow_args hpre hlay hrd hwl hlo
  first | refine callC_kw (enter_call ?_) | refine enter_call ?_
  w_top on
  kn_posts
  w_call any ho hd hcd hD T F
  clear hd
  change wpAny (model _ _) (callerA.deeper (envOfC (Td.dfn 73).name (Td.dfn 73).scope _ _ _)) (execs (Td.dfn 73).body (envOfC (Td.dfn 73).name (Td.dfn 73).scope _ _ _)) _ _ _
  with_reducible refine' Td.law_join S T ?a1 ?a2 ?a3 ?a4 ?a5 ?a6 ?a7 ?a8
  case a1 => kernel_rfl
  case a2 => assumption
  case a3 => lia
  case a4 => assumption
  case a5 => rfl
  case a6 => assumption
  case a7 => assumption
  case a8 =>
    intro h' tk' m' F' g1 g2
    refine ⟨goodW_bool F' ?_ ?_ ?_, g1, g2, trivial⟩
    · assumption
    · intro cls; rfl
    · wrow_post
