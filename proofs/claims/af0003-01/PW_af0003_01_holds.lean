import PyProof.Rows.All
import Wide.All
import OpenK.AllK
import Wide.FinOn
import KE.BytesMulAny
import Wide.BytesRules
import KE.KItem
import KE.BitLaws
import KE.KRevIter
import PyProof.TupleOfSeq
import PyProof.FactsCmp
import KE.KBytesCut
import PyProof.Rows.ListMul
import PyProof.ListOps
import KE.BytesMake
import Lean
import PySem.Challenge.RW_af0003_01
open PySem PySem.W PySem.Calls PyProof.Rows
open PySem.Sem (wp)
set_option Elab.async false
set_option maxRecDepth 100000
set_option linter.unusedVariables false
namespace Mine
set_option maxHeartbeats 1000000
set_option compiler.extract_closed false
local macro_rules | `(tactic| omega) => `(tactic| first | lia | omega (config := {}))
/-- small facts of numbers, each proved once where little stands about -/
theorem sub_pred (n i : Nat) : n - (i + 1) = n - 1 - i := by rw [Nat.sub_sub, Nat.add_comm]
theorem sub_pred1 {n i : Nat} (h : i + 1 ≤ n) : n - 1 - i + 1 = n - i := by
  rw [Nat.sub_sub, Nat.add_comm 1 i, Nat.sub_add_eq]; exact Nat.sub_add_cancel (Nat.sub_pos_of_lt h)
theorem sub_lt1 {n i : Nat} (h : i + 1 ≤ n) : n - 1 - i < n := by
  rw [Nat.sub_sub]; exact Nat.sub_lt (Nat.lt_of_lt_of_le (Nat.succ_pos i) h) (by rw [Nat.add_comm]; exact Nat.succ_pos i)
theorem sub_le1 {n i k : Nat} (h : n - i ≤ k) : n - 1 - i ≤ k := Nat.le_trans (Nat.sub_le_sub_right (Nat.sub_le _ _) _) h
theorem w_le {x j w : Nat} (h : x + j < x ∨ x + w ≤ x + j) : w ≤ j := h.elim (fun c => absurd c (Nat.not_lt.mpr (Nat.le_add_right _ _))) Nat.le_of_add_le_add_left
theorem len_sub {a w b l : Nat} (h : a + w ≤ b) (h2 : b ≤ l) : w + (b - a - w + (l - b)) = l - a := by
  obtain ⟨c, rfl⟩ := Nat.exists_eq_add_of_le h
  obtain ⟨d, rfl⟩ := Nat.exists_eq_add_of_le h2
  simp only [Nat.add_assoc, Nat.add_sub_add_left, Nat.add_sub_cancel_left]
theorem it_sub {c i t : Nat} (h : i + 1 ≤ c) (h1 : c - (i + 1) ≤ t) (e : ¬ t = c - 1 - i) : t - (c - (i + 1)) = t - (c - i) + 1 := by
  rw [← sub_pred1 h, ← sub_pred] at *
  exact (Nat.sub_add_cancel (Nat.sub_pos_of_lt (Nat.lt_of_le_of_ne h1 (Ne.symm e)))).symm.trans (by rw [Nat.sub_sub])
theorem it_le {c i t : Nat} (h : i + 1 ≤ c) (h1 : c - (i + 1) ≤ t) (e : ¬ t = c - 1 - i) : c - i ≤ t := by
  rw [← sub_pred1 h, ← sub_pred] at *
  exact Nat.lt_of_le_of_ne h1 (Ne.symm e)
theorem slb_z {b v l h : Nat} (hv : v ≤ b) (hz : b ≤ 2 ^ 20) : min l b + (v + (b - h)) ≤ 16777216 :=
  Nat.le_trans (Nat.add_le_add (Nat.min_le_right _ _) (Nat.add_le_add hv (Nat.sub_le _ _))) (Nat.le_trans (Nat.add_le_add hz (Nat.add_le_add hz hz)) (by decide))
theorem slb_v {b v : Nat} {lo hi : Int} (h0 : 0 ≤ lo) (h2 : hi ≤ b) (hl : (v : Int) = hi - lo) : v ≤ b := by omega
theorem dig4 {m : Nat} (h : m < 4294967296) : m % 256 + 256 * (m / 256 % 256) + 65536 * (m / 65536 % 256) + 16777216 * (m / 16777216 % 256) = m := by
  have e1 : m / 65536 = m / 256 / 256 := (Nat.div_div_eq_div_mul m 256 256).symm
  have e2 : m / 16777216 = m / 256 / 256 / 256 := by rw [Nat.div_div_eq_div_mul, Nat.div_div_eq_div_mul]
  have h3 : m / 256 / 256 / 256 < 256 := by rw [← e2]; exact Nat.div_lt_of_lt_mul h
  rw [e1, e2, Nat.mod_eq_of_lt h3]
  have d1 := Nat.div_add_mod m 256
  have d2 := Nat.div_add_mod (m / 256) 256
  have d3 := Nat.div_add_mod (m / 256 / 256) 256
  generalize m / 256 / 256 / 256 = a at *
  generalize m / 256 / 256 % 256 = b at *
  generalize m / 256 / 256 = c at *
  generalize m / 256 % 256 = d at *
  generalize m / 256 = e at *
  generalize m % 256 = f at *
  subst d3
  subst d2
  rw [← d1]
  omega
theorem sub_step {n j : Nat} (h : j + 1 ≤ n) : n - (j + 1) + 1 = n - j := by rw [sub_pred, sub_pred1 h]
theorem sub_lt2 {n j : Nat} (h : j + 1 ≤ n) : n - (j + 1) < n := Nat.sub_lt (Nat.lt_of_lt_of_le (Nat.succ_pos j) h) (Nat.succ_pos j)
theorem sub_lt3 {n m i : Nat} (e : m = n) (h : i + 1 ≤ n) : n - 1 - i < m := by rw [e]; exact sub_lt1 h
theorem cut_c {a w b : Nat} (h : a + w ≤ b) : a + w + (b - a - w) = b := by rw [Nat.sub_sub]; exact Nat.add_sub_cancel' h
def impRunG (ax : Thread → Option (List Value)) (st : SharedT → Thread → Option (SharedT × Thread)) : Nat → SharedT → Thread → Option SharedT
  | 0, _, _ => none
  | n + 1, s, t => match ax t with
    | some [] => some s
    | some (_ :: _) => none
    | none => match st s t with
      | some (s', t') => impRunG ax st n s' t'
      | none => none
theorem impRunG_spec {tb : String → Option Builtin} {p : Program} {w : World} : ∀ {n : Nat} {s s' : SharedT} {t : Thread},
    impRunG Thread.atExitBegin (stepT (denote tb) p w) n s t = some s' → importEnds tb p w n s.abs t = some s'.abs
  | 0, _, _, _, h => by cases h
  | n + 1, s, s', t, h => by
    unfold impRunG at h
    unfold importEnds
    cases he : t.atExitBegin with
    | some l =>
      rw [he] at h
      cases l with
      | nil => cases h; rfl
      | cons _ _ => cases h
    | none =>
      rw [he] at h
      cases hs : stepT (denote tb) p w s t with
      | none => rw [hs] at h; cases h
      | some r =>
        obtain ⟨s₂, t₂⟩ := r
        rw [hs] at h
        dsimp only
        rw [stepT_spec hs]
        exact impRunG_spec h
def insAll : List Obj → Nat → BT → Option BT
  | [], _, t => some t
  | o :: r, n, t => match ((t.ins n o).get n).isSome with
    | true => insAll r (n + 1) (t.ins n o)
    | false => none
theorem insAll_spec (life : Life) : ∀ {l : List Obj} {n : Nat} {t t' : BT}, insAll l n t = some t' →
    absHeap t' (n + l.length) life = ⟨(absHeap t n life).objs ++ l.toArray, life⟩
  | [], n, t, t', h => by
    cases h
    show absHeap t n life = _
    simp [absHeap]
  | o :: r, n, t, t', h => by
    unfold insAll at h
    cases hg : ((t.ins n o).get n).isSome with
    | false => rw [hg] at h; cases h
    | true =>
      rw [hg] at h
      have ih := insAll_spec life h
      rw [show n + (o :: r).length = n + 1 + r.length by rw [List.length_cons]; omega, ih, absHeap_ins hg]
      simp [Heap.push]
def toT (s : Shared) : Option SharedT := (insAll s.heap.objs.toList 0 .nil).map fun t => ⟨t, s.heap.objs.toList.length, s.heap.life, s.gens, s.drawn, s.toks, s.os⟩
theorem toT_spec {s : Shared} {s' : SharedT} (h : toT s = some s') : s'.abs = s := by
  unfold toT at h
  obtain ⟨t, ht, rfl⟩ := Option.map_eq_some_iff.mp h
  have := insAll_spec s.heap.life ht
  rw [Nat.zero_add] at this
  show Shared.mk (absHeap t s.heap.objs.toList.length s.heap.life) _ _ _ _ = _
  rw [this]
  obtain ⟨⟨objs, life⟩, g, d, k, os⟩ := s
  simp [absHeap, BT.list]
theorem endAt0_some {t : Thread} {f : Flow} (h : endAt 0 t = some f) : through t = true := by
  obtain ⟨cur, code, pos, st⟩ := t
  cases st with
  | cons a b => simp [endAt] at h
  | nil =>
    unfold endAt at h
    cases cur with
    | pure x => cases x with
      | done f => rfl
      | again c => simp at h
    | _ => simp at h
theorem endAt0_none {t : Thread} (h : endAt 0 t = none) : through t = false := by
  obtain ⟨cur, code, pos, st⟩ := t
  cases st with
  | cons a b => rfl
  | nil =>
    unfold endAt at h
    cases cur with
    | pure x => cases x with
      | done f => simp at h
      | again c => rfl
    | _ => rfl
theorem seg_topRun {tb : String → Option Builtin} {p : Program} {w : World} {n₀ : Nat} {ann : Option Value} : ∀ {n : Nat} {s s' : SharedT} {t : Thread} {f : Flow} {c : PySem.Code} {q : Pos},
    segRunT tb p w n₀ ann 0 n s t = some (f, s', c, q) → topRun tb p w n₀ ann n s.abs t = some s'.abs
  | 0, _, _, _, _, _, _, h => by cases h
  | n + 1, s, s', t, f, c, q, h => by
    unfold segRunT at h
    unfold topRun
    cases he : endAt 0 t with
    | some x => rw [he] at h; cases h; rw [endAt0_some he]
    | none =>
      rw [he] at h
      rw [endAt0_none he]
      cases hk : stepOk n₀ ann t with
      | false => rw [hk] at h; cases h
      | true =>
        rw [hk] at h
        cases hs : stepT (denote tb) p w s t with
        | none => rw [hs] at h; cases h
        | some r =>
          obtain ⟨s₂, t₂⟩ := r
          rw [hs] at h
          dsimp only
          rw [stepT_spec hs]
          exact seg_topRun h
def runOf (p : Program) (w : World) (N : Nat) : Option (SharedT × SharedT) :=
  ((impRunG Thread.atExitBegin (stepT (denote treeTable) (opening p) w) N ⟨.nil, 0, {}, #[], {}, 1, (start (opening p)).1.os⟩ (start (opening p)).2).bind fun s =>
    (fenceModules? p s.abs).bind toT).bind fun s₀ =>
      (segRunT treeTable p w s₀.n (s₀.abs.heap.nsMap mainGlobals "__annotations__") 0 N s₀ (topStub p)).map fun r => (s₀, r.2.1)
theorem left_of_run {p q : Program} {loose : List Str} {Xt : Shared → Bool} {α : Type} {Yf : Shared → α} {Ya : World → α} {N : Nat}
    (h : ∀ w, (runOf p w N).map (fun x => (x.1.abs.heap.isNs mainGlobals && x.1.gens.size == 0,
        staticsOk (importedModules p.main.body) x.1.abs.heap x.2.abs.heap && namesBound p x.2.abs.heap && gensDone x.2.abs && laidKept x.1.abs.heap x.2.abs.heap,
        openSeen q loose (importedModules p.main.body) Xt true x.2.abs, Yf x.2.abs)) = some (true, true, openGood q loose, Ya w)) : LeftO p q loose Xt Yf Ya N := fun w => by
  obtain ⟨⟨s₀, s₁⟩, hr, e⟩ := Option.map_eq_some_iff.mp (h w)
  simp only [Prod.mk.injEq] at e
  obtain ⟨e1, e2, e3, e4⟩ := e
  unfold runOf at hr
  obtain ⟨sA, ha, hb⟩ := Option.bind_eq_some_iff.mp hr
  obtain ⟨r, hc, hd⟩ := Option.map_eq_some_iff.mp hb
  obtain ⟨f, s₁', c, pq⟩ := r
  simp only [Prod.mk.injEq] at hd
  obtain ⟨rfl, rfl⟩ := hd
  obtain ⟨s, h1, h2⟩ := Option.bind_eq_some_iff.mp ha
  obtain ⟨s₀', h3, h4⟩ := Option.bind_eq_some_iff.mp h2
  have hT := toT_spec h4
  have hi := impRunG_spec h1
  have hs := seg_topRun hc
  have hsz : s₀'.heap.objs.size = sA.n := by rw [← hT]; exact absHeap_size _ _ _
  unfold openEnds fencedOpening
  have hst : (start (opening p)).1 = (⟨.nil, 0, {}, #[], {}, 1, (start (opening p)).1.os⟩ : SharedT).abs := rfl
  rw [hst, hi]
  show ((fenceModules? p s.abs).bind _).map _ = _
  rw [h3]
  show (topFrom treeTable p w N s₀').map _ = _
  unfold topFrom
  rw [hT] at e1 e2 hs
  have eg : sA.gens = s₀'.gens := by rw [← hT]; rfl
  rw [eg] at e1
  rw [e1]
  dsimp only
  rw [hsz, hs]
  dsimp only [Option.bind_some]
  rw [e2]
  dsimp only [Option.map_some]
  rw [e3, e4]
noncomputable abbrev pw : Program := PySem.Challenge.pw_af0003_01
noncomputable def topD (i : Nat) : Stmt := (pw.main.body[i]?).getD (.Pass default)
noncomputable def methD (i j : Nat) : Stmt := match topD i with
  | .ClassDef _ _ _ b _ _ _ _ _ _ _ => (b[j]?).getD (.Pass default)
  | _ => .Pass default
noncomputable def dArgs : Stmt → Arguments
  | .FunctionDef _ a _ _ _ _ _ _ _ _ => a
  | _ => default
noncomputable def dBody : Stmt → List Stmt
  | .FunctionDef _ _ b _ _ _ _ _ _ _ => b
  | _ => []
noncomputable def dScope : Stmt → Scope
  | .FunctionDef _ _ _ _ _ _ s _ _ _ => s
  | _ => default
noncomputable def o2 (P : Params) : Obj := ⟨.none, none, (.dict (List.toArray [⟨PyData.keyHash P "\x69mport.loaded._struct", (.str "\x69mport.loaded._struct" 186), (.bool true)⟩, ⟨PyData.keyHash P "class._frozen_importlib_external._LoaderBasics", (.str "class._frozen_importlib_external._LoaderBasics" 191), (.ref 16)⟩, ⟨PyData.keyHash P "watched.\x69mport", (.str "watched.\x69mport" 207), (.ref 20)⟩, ⟨PyData.keyHash P "class._frozen_importlib_external.FileLoader", (.str "class._frozen_importlib_external.FileLoader" 208), (.ref 22)⟩, ⟨PyData.keyHash P "class._frozen_importlib_external.ExtensionFileLoader", (.str "class._frozen_importlib_external.ExtensionFileLoader" 229), (.ref 27)⟩, ⟨PyData.keyHash P "class._frozen_importlib.ModuleSpec", (.str "class._frozen_importlib.ModuleSpec" 257), (.ref 33)⟩, ⟨PyData.keyHash P "sys.modules.booked-epoch", (.str "sys.modules.booked-epoch" 286), (.int 3 0)⟩, ⟨PyData.keyHash P "class.struct.error", (.str "class.struct.error" 303), (.type "struct.error")⟩, ⟨PyData.keyHash P "\x69mport.later-laid._struct", (.str "\x69mport.later-laid._struct" 305), (.bool true)⟩, ⟨PyData.keyHash P "watched.library", (.str "watched.library" 307), (.ref 38)⟩, ⟨PyData.keyHash P "watched.library-objects", (.str "watched.library-objects" 0), (.str ⟨#[13]⟩ 0)⟩]) 11), #[]⟩
noncomputable def o3 (P : Params) : Obj := ⟨(.type "dict"), none, (.dict (List.toArray [⟨PyData.keyHash P "__name__", (.str "__name__" 165), (.str "law_af0003_01" 1524)⟩, ⟨PyData.keyHash P "__doc__", (.str "__doc__" 166), .none⟩, ⟨PyData.keyHash P "__package__", (.str "__package__" 167), .none⟩, ⟨PyData.keyHash P "__loader__", (.str "__loader__" 168), (.builtin "__main__.__loader__#opaque")⟩, ⟨PyData.keyHash P "__spec__", (.str "__spec__" 169), .none⟩, ⟨PyData.keyHash P "__annotations__", (.str "__annotations__" 170), (.ref 6)⟩, ⟨PyData.keyHash P "__builtins__", (.str "__builtins__" 171), (.ref 4)⟩, ⟨PyData.keyHash P "__file__", (.str "__file__" 173), (.str "/claim/cut.py" 172)⟩, ⟨PyData.keyHash P "__cached__", (.str "__cached__" 174), .none⟩, ⟨PyData.keyHash P "Struct", (.str "Struct" 313), (.type "_struct.Struct")⟩, ⟨PyData.keyHash P "unpack", (.str "unpack" 316), (.builtin "_struct.unpack")⟩, ⟨PyData.keyHash P "_wall", (.str "_wall" 329), (.ref 49)⟩, ⟨PyData.keyHash P "string_types", (.str "string_types" 330), (.ref 50)⟩, ⟨PyData.keyHash P "binary_types", (.str "binary_types" 331), (.ref 51)⟩, ⟨PyData.keyHash P "uint8", (.str "uint8" 336), (.ref 52)⟩, ⟨PyData.keyHash P "uint16", (.str "uint16" 339), (.ref 53)⟩, ⟨PyData.keyHash P "uint32", (.str "uint32" 342), (.ref 54)⟩, ⟨PyData.keyHash P "uint64", (.str "uint64" 345), (.ref 55)⟩, ⟨PyData.keyHash P "int8", (.str "int8" 348), (.ref 56)⟩, ⟨PyData.keyHash P "int16", (.str "int16" 351), (.ref 57)⟩, ⟨PyData.keyHash P "int32", (.str "int32" 354), (.ref 58)⟩, ⟨PyData.keyHash P "int64", (.str "int64" 357), (.ref 59)⟩, ⟨PyData.keyHash P "uoffset", (.str "uoffset" 358), (.ref 54)⟩, ⟨PyData.keyHash P "soffset", (.str "soffset" 359), (.ref 58)⟩, ⟨PyData.keyHash P "Uint8Flags", (.str "Uint8Flags" 395), (.ref 69)⟩, ⟨PyData.keyHash P "Uint16Flags", (.str "Uint16Flags" 429), (.ref 83)⟩, ⟨PyData.keyHash P "Uint32Flags", (.str "Uint32Flags" 463), (.ref 97)⟩, ⟨PyData.keyHash P "Uint64Flags", (.str "Uint64Flags" 497), (.ref 111)⟩, ⟨PyData.keyHash P "Int8Flags", (.str "Int8Flags" 534), (.ref 125)⟩, ⟨PyData.keyHash P "Int16Flags", (.str "Int16Flags" 571), (.ref 139)⟩, ⟨PyData.keyHash P "Int32Flags", (.str "Int32Flags" 608), (.ref 153)⟩, ⟨PyData.keyHash P "Int64Flags", (.str "Int64Flags" 645), (.ref 167)⟩, ⟨PyData.keyHash P "SOffsetTFlags", (.str "SOffsetTFlags" 661), (.ref 181)⟩, ⟨PyData.keyHash P "UOffsetTFlags", (.str "UOffsetTFlags" 677), (.ref 193)⟩, ⟨PyData.keyHash P "VOffsetTFlags", (.str "VOffsetTFlags" 693), (.ref 205)⟩, ⟨PyData.keyHash P "enforce_number", (.str "enforce_number" 701), (.ref 214)⟩, ⟨PyData.keyHash P "FILE_IDENTIFIER_LENGTH", (.str "FILE_IDENTIFIER_LENGTH" 705), (.int 4 704)⟩, ⟨PyData.keyHash P "Get", (.str "Get" 714), (.ref 221)⟩, ⟨PyData.keyHash P "Get_encode", (.str "Get_encode" 715), (.ref 221)⟩, ⟨PyData.keyHash P "Write", (.str "Write" 725), (.ref 228)⟩, ⟨PyData.keyHash P "OffsetArithmeticError", (.str "OffsetArithmeticError" 745), (.ref 238)⟩, ⟨PyData.keyHash P "IsNotNestedError", (.str "IsNotNestedError" 763), (.ref 251)⟩, ⟨PyData.keyHash P "IsNestedError", (.str "IsNestedError" 781), (.ref 264)⟩, ⟨PyData.keyHash P "StructIsNotInlineError", (.str "StructIsNotInlineError" 799), (.ref 277)⟩, ⟨PyData.keyHash P "BuilderSizeError", (.str "BuilderSizeError" 817), (.ref 290)⟩, ⟨PyData.keyHash P "BuilderNotFinishedError", (.str "BuilderNotFinishedError" 835), (.ref 303)⟩, ⟨PyData.keyHash P "EndVectorLengthMismatched", (.str "EndVectorLengthMismatched" 853), (.ref 316)⟩, ⟨PyData.keyHash P "VtableMetadataFields", (.str "VtableMetadataFields" 855), (.int 2 854)⟩, ⟨PyData.keyHash P "Builder", (.str "Builder" 1406), (.ref 721)⟩, ⟨PyData.keyHash P "Table", (.str "Table" 1523), (.ref 816)⟩, ⟨PyData.keyHash P "_law_prepend", (.str "_law_prepend" 1534), (.ref 827)⟩, ⟨PyData.keyHash P "_law_got", (.str "_law_got" 1543), (.ref 834)⟩, ⟨PyData.keyHash P "_law_form", (.str "_law_form" 1549), (.ref 839)⟩, ⟨PyData.keyHash P "_law_worths", (.str "_law_worths" 1562), (.ref 846)⟩, ⟨PyData.keyHash P "_law_struct", (.str "_law_struct" 1568), (.ref 851)⟩, ⟨PyData.keyHash P "_law_row", (.str "_law_row" 1578), (.ref 858)⟩, ⟨PyData.keyHash P "_law_read", (.str "_law_read" 1584), (.ref 863)⟩, ⟨PyData.keyHash P "_law_struct_right", (.str "_law_struct_right" 1590), (.ref 868)⟩, ⟨PyData.keyHash P "_law_row_right", (.str "_law_row_right" 1604), (.ref 875)⟩, ⟨PyData.keyHash P "law", (.str "law" 1610), (.ref 880)⟩]) 60), #[]⟩
noncomputable def o721 (P : Params) : Obj := ⟨(.type "type"), none, (.cls { name := "Builder", bases := [(.type "object")], mro := [(.ref 721), (.type "object")], ns := 720, qualname := "Builder", hasDict := false, slotNames := ["Bytes", "current_vtable", "finished", "forceDefaults", "head", "minalign", "nested", "objectEnd", "sharedStrings", "vectorNumElems", "vtables"], subclasses := [], abstract := false, collection := none, hasDel := false }), #[(some (.ref 320)), none, (some (.str "Builder" 856)), (some (.str "Builder" 864)), (some (.builtin "object.__new__")), (some (.bool false))]⟩
noncomputable def o720 (P : Params) : Obj := ⟨(.type "dict"), none, (.dict (List.toArray [⟨PyData.keyHash P "__module__", (.str "__module__" 863), (.str "flatbuffers.builder" 726)⟩, ⟨PyData.keyHash P "__firstlineno__", (.str "__firstlineno__" 867), (.int 109 866)⟩, ⟨PyData.keyHash P "__slots__", (.str "__slots__" 879), (.ref 327)⟩, ⟨PyData.keyHash P "MAX_BUFFER_SIZE", (.str "MAX_BUFFER_SIZE" 884), (.int 2147483648 883)⟩, ⟨PyData.keyHash P "__init__", (.str "__init__" 894), (.ref 335)⟩, ⟨PyData.keyHash P "Clear", (.str "Clear" 901), (.ref 342)⟩, ⟨PyData.keyHash P "Output", (.str "Output" 908), (.ref 349)⟩, ⟨PyData.keyHash P "StartObject", (.str "StartObject" 916), (.ref 356)⟩, ⟨PyData.keyHash P "WriteVtable", (.str "WriteVtable" 934), (.ref 363)⟩, ⟨PyData.keyHash P "EndObject", (.str "EndObject" 941), (.ref 370)⟩, ⟨PyData.keyHash P "GrowByteBuffer", (.str "GrowByteBuffer" 951), (.ref 377)⟩, ⟨PyData.keyHash P "Head", (.str "Head" 958), (.ref 384)⟩, ⟨PyData.keyHash P "Offset", (.str "Offset" 965), (.ref 391)⟩, ⟨PyData.keyHash P "Pad", (.str "Pad" 974), (.ref 398)⟩, ⟨PyData.keyHash P "Prep", (.str "Prep" 988), (.ref 405)⟩, ⟨PyData.keyHash P "PrependSOffsetTRelative", (.str "PrependSOffsetTRelative" 998), (.ref 412)⟩, ⟨PyData.keyHash P "PrependUOffsetTRelative", (.str "PrependUOffsetTRelative" 1008), (.ref 419)⟩, ⟨PyData.keyHash P "StartVector", (.str "StartVector" 1018), (.ref 426)⟩, ⟨PyData.keyHash P "EndVector", (.str "EndVector" 1026), (.ref 434)⟩, ⟨PyData.keyHash P "CreateSharedString", (.str "CreateSharedString" 1034), (.ref 441)⟩, ⟨PyData.keyHash P "CreateString", (.str "CreateString" 1045), (.ref 448)⟩, ⟨PyData.keyHash P "CreateByteVector", (.str "CreateByteVector" 1055), (.ref 455)⟩, ⟨PyData.keyHash P "assertNested", (.str "assertNested" 1062), (.ref 462)⟩, ⟨PyData.keyHash P "assertNotNested", (.str "assertNotNested" 1069), (.ref 469)⟩, ⟨PyData.keyHash P "assertStructIsInline", (.str "assertStructIsInline" 1078), (.ref 476)⟩, ⟨PyData.keyHash P "Slot", (.str "Slot" 1086), (.ref 483)⟩, ⟨PyData.keyHash P "_Builder__Finish", (.str "_Builder__Finish" 1099), (.ref 491)⟩, ⟨PyData.keyHash P "Finish", (.str "Finish" 1108), (.ref 499)⟩, ⟨PyData.keyHash P "FinishSizePrefixed", (.str "FinishSizePrefixed" 1117), (.ref 507)⟩, ⟨PyData.keyHash P "Prepend", (.str "Prepend" 1126), (.ref 514)⟩, ⟨PyData.keyHash P "PrependSlot", (.str "PrependSlot" 1137), (.ref 521)⟩, ⟨PyData.keyHash P "PrependBoolSlot", (.str "PrependBoolSlot" 1145), (.ref 528)⟩, ⟨PyData.keyHash P "PrependByteSlot", (.str "PrependByteSlot" 1153), (.ref 535)⟩, ⟨PyData.keyHash P "PrependUint8Slot", (.str "PrependUint8Slot" 1161), (.ref 542)⟩, ⟨PyData.keyHash P "PrependUint16Slot", (.str "PrependUint16Slot" 1169), (.ref 549)⟩, ⟨PyData.keyHash P "PrependUint32Slot", (.str "PrependUint32Slot" 1177), (.ref 556)⟩, ⟨PyData.keyHash P "PrependUint64Slot", (.str "PrependUint64Slot" 1185), (.ref 563)⟩, ⟨PyData.keyHash P "PrependInt8Slot", (.str "PrependInt8Slot" 1193), (.ref 570)⟩, ⟨PyData.keyHash P "PrependInt16Slot", (.str "PrependInt16Slot" 1201), (.ref 577)⟩, ⟨PyData.keyHash P "PrependInt32Slot", (.str "PrependInt32Slot" 1209), (.ref 584)⟩, ⟨PyData.keyHash P "PrependInt64Slot", (.str "PrependInt64Slot" 1217), (.ref 591)⟩, ⟨PyData.keyHash P "PrependUOffsetTRelativeSlot", (.str "PrependUOffsetTRelativeSlot" 1227), (.ref 598)⟩, ⟨PyData.keyHash P "PrependStructSlot", (.str "PrependStructSlot" 1237), (.ref 605)⟩, ⟨PyData.keyHash P "PrependBool", (.str "PrependBool" 1245), (.ref 612)⟩, ⟨PyData.keyHash P "PrependByte", (.str "PrependByte" 1253), (.ref 619)⟩, ⟨PyData.keyHash P "PrependUint8", (.str "PrependUint8" 1261), (.ref 626)⟩, ⟨PyData.keyHash P "PrependUint16", (.str "PrependUint16" 1269), (.ref 633)⟩, ⟨PyData.keyHash P "PrependUint32", (.str "PrependUint32" 1277), (.ref 640)⟩, ⟨PyData.keyHash P "PrependUint64", (.str "PrependUint64" 1285), (.ref 647)⟩, ⟨PyData.keyHash P "PrependInt8", (.str "PrependInt8" 1293), (.ref 654)⟩, ⟨PyData.keyHash P "PrependInt16", (.str "PrependInt16" 1301), (.ref 661)⟩, ⟨PyData.keyHash P "PrependInt32", (.str "PrependInt32" 1309), (.ref 668)⟩, ⟨PyData.keyHash P "PrependInt64", (.str "PrependInt64" 1317), (.ref 675)⟩, ⟨PyData.keyHash P "ForceDefaults", (.str "ForceDefaults" 1325), (.ref 682)⟩, ⟨PyData.keyHash P "PrependVOffsetT", (.str "PrependVOffsetT" 1333), (.ref 689)⟩, ⟨PyData.keyHash P "Place", (.str "Place" 1343), (.ref 696)⟩, ⟨PyData.keyHash P "PlaceVOffsetT", (.str "PlaceVOffsetT" 1351), (.ref 703)⟩, ⟨PyData.keyHash P "PlaceSOffsetT", (.str "PlaceSOffsetT" 1360), (.ref 710)⟩, ⟨PyData.keyHash P "PlaceUOffsetT", (.str "PlaceUOffsetT" 1369), (.ref 717)⟩, ⟨PyData.keyHash P "__static_attributes__", (.str "__static_attributes__" 1381), (.ref 718)⟩, ⟨PyData.keyHash P "Bytes", (.str "Bytes" 1383), (.ref 722)⟩, ⟨PyData.keyHash P "current_vtable", (.str "current_vtable" 1385), (.ref 723)⟩, ⟨PyData.keyHash P "finished", (.str "finished" 1387), (.ref 724)⟩, ⟨PyData.keyHash P "forceDefaults", (.str "forceDefaults" 1389), (.ref 725)⟩, ⟨PyData.keyHash P "head", (.str "head" 1391), (.ref 726)⟩, ⟨PyData.keyHash P "minalign", (.str "minalign" 1393), (.ref 727)⟩, ⟨PyData.keyHash P "nested", (.str "nested" 1395), (.ref 728)⟩, ⟨PyData.keyHash P "objectEnd", (.str "objectEnd" 1397), (.ref 729)⟩, ⟨PyData.keyHash P "sharedStrings", (.str "sharedStrings" 1399), (.ref 730)⟩, ⟨PyData.keyHash P "vectorNumElems", (.str "vectorNumElems" 1401), (.ref 731)⟩, ⟨PyData.keyHash P "vtables", (.str "vtables" 1403), (.ref 732)⟩, ⟨PyData.keyHash P "__doc__", (.str "__doc__" 1404), .none⟩]) 13), #[]⟩
noncomputable def o816 (P : Params) : Obj := ⟨(.type "type"), none, (.cls { name := "Table", bases := [(.type "object")], mro := [(.ref 816), (.type "object")], ns := 815, qualname := "Table", hasDict := false, slotNames := ["Bytes", "Pos"], subclasses := [], abstract := false, collection := none, hasDel := false }), #[(some (.ref 735)), none, (some (.str "Table" 1409)), (some (.str "Table" 1417)), (some (.builtin "object.__new__")), (some (.bool false))]⟩
noncomputable def o815 (P : Params) : Obj := ⟨(.type "dict"), none, (.dict (List.toArray [⟨PyData.keyHash P "__module__", (.str "__module__" 1416), (.str "flatbuffers.table" 1407)⟩, ⟨PyData.keyHash P "__firstlineno__", (.str "__firstlineno__" 1420), (.int 453 1419)⟩, ⟨PyData.keyHash P "__slots__", (.str "__slots__" 1423), (.ref 742)⟩, ⟨PyData.keyHash P "__init__", (.str "__init__" 1432), (.ref 749)⟩, ⟨PyData.keyHash P "Offset", (.str "Offset" 1442), (.ref 756)⟩, ⟨PyData.keyHash P "Indirect", (.str "Indirect" 1450), (.ref 763)⟩, ⟨PyData.keyHash P "String", (.str "String" 1458), (.ref 770)⟩, ⟨PyData.keyHash P "VectorLen", (.str "VectorLen" 1467), (.ref 777)⟩, ⟨PyData.keyHash P "Vector", (.str "Vector" 1476), (.ref 784)⟩, ⟨PyData.keyHash P "Union", (.str "Union" 1485), (.ref 791)⟩, ⟨PyData.keyHash P "Get", (.str "Get" 1494), (.ref 798)⟩, ⟨PyData.keyHash P "GetSlot", (.str "GetSlot" 1504), (.ref 805)⟩, ⟨PyData.keyHash P "GetVOffsetTSlot", (.str "GetVOffsetTSlot" 1513), (.ref 812)⟩, ⟨PyData.keyHash P "__static_attributes__", (.str "__static_attributes__" 1516), (.ref 813)⟩, ⟨PyData.keyHash P "Bytes", (.str "Bytes" 1518), (.ref 817)⟩, ⟨PyData.keyHash P "Pos", (.str "Pos" 1520), (.ref 818)⟩, ⟨PyData.keyHash P "__doc__", (.str "__doc__" 1521), .none⟩]) 4), #[]⟩
noncomputable def o69 (P : Params) : Obj := ⟨(.type "type"), none, (.cls { name := "Uint8Flags", bases := [(.type "object")], mro := [(.ref 69), (.type "object")], ns := 68, qualname := "Uint8Flags", hasDict := true, slotNames := [], subclasses := [], abstract := false, collection := none, hasDel := false }), #[(some (.ref 60)), none, (some (.str "Uint8Flags" 362)), (some (.str "Uint8Flags" 370)), (some (.builtin "object.__new__")), (some (.bool true))]⟩
noncomputable def o68 (P : Params) : Obj := ⟨(.type "dict"), none, (.dict (List.toArray [⟨PyData.keyHash P "__module__", (.str "__module__" 369), (.str "flatbuffers.number_types" 360)⟩, ⟨PyData.keyHash P "__firstlineno__", (.str "__firstlineno__" 373), (.int 19 372)⟩, ⟨PyData.keyHash P "bytewidth", (.str "bytewidth" 375), (.int 1 374)⟩, ⟨PyData.keyHash P "min_val", (.str "min_val" 377), (.int 0 376)⟩, ⟨PyData.keyHash P "max_val", (.str "max_val" 383), (.int 255 382)⟩, ⟨PyData.keyHash P "py_type", (.str "py_type" 384), (.type "int")⟩, ⟨PyData.keyHash P "name", (.str "name" 386), (.str "uint8" 385)⟩, ⟨PyData.keyHash P "packer_type", (.str "packer_type" 387), (.ref 52)⟩, ⟨PyData.keyHash P "__static_attributes__", (.str "__static_attributes__" 388), (.ref 67)⟩, ⟨PyData.keyHash P "__dict__", (.str "__dict__" 390), (.ref 70)⟩, ⟨PyData.keyHash P "__weakref__", (.str "__weakref__" 392), (.ref 71)⟩, ⟨PyData.keyHash P "__doc__", (.str "__doc__" 393), .none⟩]) 4), #[]⟩
noncomputable def o83 (P : Params) : Obj := ⟨(.type "type"), none, (.cls { name := "Uint16Flags", bases := [(.type "object")], mro := [(.ref 83), (.type "object")], ns := 82, qualname := "Uint16Flags", hasDict := true, slotNames := [], subclasses := [(.ref 205)], abstract := false, collection := none, hasDel := false }), #[(some (.ref 74)), none, (some (.str "Uint16Flags" 396)), (some (.str "Uint16Flags" 404)), (some (.builtin "object.__new__")), (some (.bool true))]⟩
noncomputable def o82 (P : Params) : Obj := ⟨(.type "dict"), none, (.dict (List.toArray [⟨PyData.keyHash P "__module__", (.str "__module__" 403), (.str "flatbuffers.number_types" 360)⟩, ⟨PyData.keyHash P "__firstlineno__", (.str "__firstlineno__" 407), (.int 26 406)⟩, ⟨PyData.keyHash P "bytewidth", (.str "bytewidth" 409), (.int 2 408)⟩, ⟨PyData.keyHash P "min_val", (.str "min_val" 411), (.int 0 410)⟩, ⟨PyData.keyHash P "max_val", (.str "max_val" 417), (.int 65535 416)⟩, ⟨PyData.keyHash P "py_type", (.str "py_type" 418), (.type "int")⟩, ⟨PyData.keyHash P "name", (.str "name" 420), (.str "uint16" 419)⟩, ⟨PyData.keyHash P "packer_type", (.str "packer_type" 421), (.ref 53)⟩, ⟨PyData.keyHash P "__static_attributes__", (.str "__static_attributes__" 422), (.ref 81)⟩, ⟨PyData.keyHash P "__dict__", (.str "__dict__" 424), (.ref 84)⟩, ⟨PyData.keyHash P "__weakref__", (.str "__weakref__" 426), (.ref 85)⟩, ⟨PyData.keyHash P "__doc__", (.str "__doc__" 427), .none⟩]) 4), #[]⟩
noncomputable def o97 (P : Params) : Obj := ⟨(.type "type"), none, (.cls { name := "Uint32Flags", bases := [(.type "object")], mro := [(.ref 97), (.type "object")], ns := 96, qualname := "Uint32Flags", hasDict := true, slotNames := [], subclasses := [(.ref 193)], abstract := false, collection := none, hasDel := false }), #[(some (.ref 88)), none, (some (.str "Uint32Flags" 430)), (some (.str "Uint32Flags" 438)), (some (.builtin "object.__new__")), (some (.bool true))]⟩
noncomputable def o96 (P : Params) : Obj := ⟨(.type "dict"), none, (.dict (List.toArray [⟨PyData.keyHash P "__module__", (.str "__module__" 437), (.str "flatbuffers.number_types" 360)⟩, ⟨PyData.keyHash P "__firstlineno__", (.str "__firstlineno__" 441), (.int 33 440)⟩, ⟨PyData.keyHash P "bytewidth", (.str "bytewidth" 443), (.int 4 442)⟩, ⟨PyData.keyHash P "min_val", (.str "min_val" 445), (.int 0 444)⟩, ⟨PyData.keyHash P "max_val", (.str "max_val" 451), (.int 4294967295 450)⟩, ⟨PyData.keyHash P "py_type", (.str "py_type" 452), (.type "int")⟩, ⟨PyData.keyHash P "name", (.str "name" 454), (.str "uint32" 453)⟩, ⟨PyData.keyHash P "packer_type", (.str "packer_type" 455), (.ref 54)⟩, ⟨PyData.keyHash P "__static_attributes__", (.str "__static_attributes__" 456), (.ref 95)⟩, ⟨PyData.keyHash P "__dict__", (.str "__dict__" 458), (.ref 98)⟩, ⟨PyData.keyHash P "__weakref__", (.str "__weakref__" 460), (.ref 99)⟩, ⟨PyData.keyHash P "__doc__", (.str "__doc__" 461), .none⟩]) 4), #[]⟩
noncomputable def o111 (P : Params) : Obj := ⟨(.type "type"), none, (.cls { name := "Uint64Flags", bases := [(.type "object")], mro := [(.ref 111), (.type "object")], ns := 110, qualname := "Uint64Flags", hasDict := true, slotNames := [], subclasses := [], abstract := false, collection := none, hasDel := false }), #[(some (.ref 102)), none, (some (.str "Uint64Flags" 464)), (some (.str "Uint64Flags" 472)), (some (.builtin "object.__new__")), (some (.bool true))]⟩
noncomputable def o110 (P : Params) : Obj := ⟨(.type "dict"), none, (.dict (List.toArray [⟨PyData.keyHash P "__module__", (.str "__module__" 471), (.str "flatbuffers.number_types" 360)⟩, ⟨PyData.keyHash P "__firstlineno__", (.str "__firstlineno__" 475), (.int 40 474)⟩, ⟨PyData.keyHash P "bytewidth", (.str "bytewidth" 477), (.int 8 476)⟩, ⟨PyData.keyHash P "min_val", (.str "min_val" 479), (.int 0 478)⟩, ⟨PyData.keyHash P "max_val", (.str "max_val" 485), (.int 18446744073709551615 484)⟩, ⟨PyData.keyHash P "py_type", (.str "py_type" 486), (.type "int")⟩, ⟨PyData.keyHash P "name", (.str "name" 488), (.str "uint64" 487)⟩, ⟨PyData.keyHash P "packer_type", (.str "packer_type" 489), (.ref 55)⟩, ⟨PyData.keyHash P "__static_attributes__", (.str "__static_attributes__" 490), (.ref 109)⟩, ⟨PyData.keyHash P "__dict__", (.str "__dict__" 492), (.ref 112)⟩, ⟨PyData.keyHash P "__weakref__", (.str "__weakref__" 494), (.ref 113)⟩, ⟨PyData.keyHash P "__doc__", (.str "__doc__" 495), .none⟩]) 4), #[]⟩
noncomputable def o125 (P : Params) : Obj := ⟨(.type "type"), none, (.cls { name := "Int8Flags", bases := [(.type "object")], mro := [(.ref 125), (.type "object")], ns := 124, qualname := "Int8Flags", hasDict := true, slotNames := [], subclasses := [], abstract := false, collection := none, hasDel := false }), #[(some (.ref 116)), none, (some (.str "Int8Flags" 498)), (some (.str "Int8Flags" 506)), (some (.builtin "object.__new__")), (some (.bool true))]⟩
noncomputable def o124 (P : Params) : Obj := ⟨(.type "dict"), none, (.dict (List.toArray [⟨PyData.keyHash P "__module__", (.str "__module__" 505), (.str "flatbuffers.number_types" 360)⟩, ⟨PyData.keyHash P "__firstlineno__", (.str "__firstlineno__" 509), (.int 47 508)⟩, ⟨PyData.keyHash P "bytewidth", (.str "bytewidth" 511), (.int 1 510)⟩, ⟨PyData.keyHash P "min_val", (.str "min_val" 516), (.int (-128) 515)⟩, ⟨PyData.keyHash P "max_val", (.str "max_val" 522), (.int 127 521)⟩, ⟨PyData.keyHash P "py_type", (.str "py_type" 523), (.type "int")⟩, ⟨PyData.keyHash P "name", (.str "name" 525), (.str "int8" 524)⟩, ⟨PyData.keyHash P "packer_type", (.str "packer_type" 526), (.ref 56)⟩, ⟨PyData.keyHash P "__static_attributes__", (.str "__static_attributes__" 527), (.ref 123)⟩, ⟨PyData.keyHash P "__dict__", (.str "__dict__" 529), (.ref 126)⟩, ⟨PyData.keyHash P "__weakref__", (.str "__weakref__" 531), (.ref 127)⟩, ⟨PyData.keyHash P "__doc__", (.str "__doc__" 532), .none⟩]) 4), #[]⟩
noncomputable def o139 (P : Params) : Obj := ⟨(.type "type"), none, (.cls { name := "Int16Flags", bases := [(.type "object")], mro := [(.ref 139), (.type "object")], ns := 138, qualname := "Int16Flags", hasDict := true, slotNames := [], subclasses := [], abstract := false, collection := none, hasDel := false }), #[(some (.ref 130)), none, (some (.str "Int16Flags" 535)), (some (.str "Int16Flags" 543)), (some (.builtin "object.__new__")), (some (.bool true))]⟩
noncomputable def o138 (P : Params) : Obj := ⟨(.type "dict"), none, (.dict (List.toArray [⟨PyData.keyHash P "__module__", (.str "__module__" 542), (.str "flatbuffers.number_types" 360)⟩, ⟨PyData.keyHash P "__firstlineno__", (.str "__firstlineno__" 546), (.int 54 545)⟩, ⟨PyData.keyHash P "bytewidth", (.str "bytewidth" 548), (.int 2 547)⟩, ⟨PyData.keyHash P "min_val", (.str "min_val" 553), (.int (-32768) 552)⟩, ⟨PyData.keyHash P "max_val", (.str "max_val" 559), (.int 32767 558)⟩, ⟨PyData.keyHash P "py_type", (.str "py_type" 560), (.type "int")⟩, ⟨PyData.keyHash P "name", (.str "name" 562), (.str "int16" 561)⟩, ⟨PyData.keyHash P "packer_type", (.str "packer_type" 563), (.ref 57)⟩, ⟨PyData.keyHash P "__static_attributes__", (.str "__static_attributes__" 564), (.ref 137)⟩, ⟨PyData.keyHash P "__dict__", (.str "__dict__" 566), (.ref 140)⟩, ⟨PyData.keyHash P "__weakref__", (.str "__weakref__" 568), (.ref 141)⟩, ⟨PyData.keyHash P "__doc__", (.str "__doc__" 569), .none⟩]) 4), #[]⟩
noncomputable def o153 (P : Params) : Obj := ⟨(.type "type"), none, (.cls { name := "Int32Flags", bases := [(.type "object")], mro := [(.ref 153), (.type "object")], ns := 152, qualname := "Int32Flags", hasDict := true, slotNames := [], subclasses := [(.ref 181)], abstract := false, collection := none, hasDel := false }), #[(some (.ref 144)), none, (some (.str "Int32Flags" 572)), (some (.str "Int32Flags" 580)), (some (.builtin "object.__new__")), (some (.bool true))]⟩
noncomputable def o152 (P : Params) : Obj := ⟨(.type "dict"), none, (.dict (List.toArray [⟨PyData.keyHash P "__module__", (.str "__module__" 579), (.str "flatbuffers.number_types" 360)⟩, ⟨PyData.keyHash P "__firstlineno__", (.str "__firstlineno__" 583), (.int 61 582)⟩, ⟨PyData.keyHash P "bytewidth", (.str "bytewidth" 585), (.int 4 584)⟩, ⟨PyData.keyHash P "min_val", (.str "min_val" 590), (.int (-2147483648) 589)⟩, ⟨PyData.keyHash P "max_val", (.str "max_val" 596), (.int 2147483647 595)⟩, ⟨PyData.keyHash P "py_type", (.str "py_type" 597), (.type "int")⟩, ⟨PyData.keyHash P "name", (.str "name" 599), (.str "int32" 598)⟩, ⟨PyData.keyHash P "packer_type", (.str "packer_type" 600), (.ref 58)⟩, ⟨PyData.keyHash P "__static_attributes__", (.str "__static_attributes__" 601), (.ref 151)⟩, ⟨PyData.keyHash P "__dict__", (.str "__dict__" 603), (.ref 154)⟩, ⟨PyData.keyHash P "__weakref__", (.str "__weakref__" 605), (.ref 155)⟩, ⟨PyData.keyHash P "__doc__", (.str "__doc__" 606), .none⟩]) 4), #[]⟩
noncomputable def o167 (P : Params) : Obj := ⟨(.type "type"), none, (.cls { name := "Int64Flags", bases := [(.type "object")], mro := [(.ref 167), (.type "object")], ns := 166, qualname := "Int64Flags", hasDict := true, slotNames := [], subclasses := [], abstract := false, collection := none, hasDel := false }), #[(some (.ref 158)), none, (some (.str "Int64Flags" 609)), (some (.str "Int64Flags" 617)), (some (.builtin "object.__new__")), (some (.bool true))]⟩
noncomputable def o166 (P : Params) : Obj := ⟨(.type "dict"), none, (.dict (List.toArray [⟨PyData.keyHash P "__module__", (.str "__module__" 616), (.str "flatbuffers.number_types" 360)⟩, ⟨PyData.keyHash P "__firstlineno__", (.str "__firstlineno__" 620), (.int 68 619)⟩, ⟨PyData.keyHash P "bytewidth", (.str "bytewidth" 622), (.int 8 621)⟩, ⟨PyData.keyHash P "min_val", (.str "min_val" 627), (.int (-9223372036854775808) 626)⟩, ⟨PyData.keyHash P "max_val", (.str "max_val" 633), (.int 9223372036854775807 632)⟩, ⟨PyData.keyHash P "py_type", (.str "py_type" 634), (.type "int")⟩, ⟨PyData.keyHash P "name", (.str "name" 636), (.str "int64" 635)⟩, ⟨PyData.keyHash P "packer_type", (.str "packer_type" 637), (.ref 59)⟩, ⟨PyData.keyHash P "__static_attributes__", (.str "__static_attributes__" 638), (.ref 165)⟩, ⟨PyData.keyHash P "__dict__", (.str "__dict__" 640), (.ref 168)⟩, ⟨PyData.keyHash P "__weakref__", (.str "__weakref__" 642), (.ref 169)⟩, ⟨PyData.keyHash P "__doc__", (.str "__doc__" 643), .none⟩]) 4), #[]⟩
noncomputable def o181 (P : Params) : Obj := ⟨(.type "type"), none, (.cls { name := "SOffsetTFlags", bases := [(.ref 153)], mro := [(.ref 181), (.ref 153), (.type "object")], ns := 180, qualname := "SOffsetTFlags", hasDict := true, slotNames := [], subclasses := [], abstract := false, collection := none, hasDel := false }), #[(some (.ref 172)), none, (some (.str "SOffsetTFlags" 646)), (some (.str "SOffsetTFlags" 654)), (some (.builtin "object.__new__")), (some (.bool true))]⟩
noncomputable def o180 (P : Params) : Obj := ⟨(.type "dict"), none, (.dict (List.toArray [⟨PyData.keyHash P "__module__", (.str "__module__" 653), (.str "flatbuffers.number_types" 360)⟩, ⟨PyData.keyHash P "__firstlineno__", (.str "__firstlineno__" 657), (.int 75 656)⟩, ⟨PyData.keyHash P "__static_attributes__", (.str "__static_attributes__" 658), (.ref 179)⟩, ⟨PyData.keyHash P "__doc__", (.str "__doc__" 659), .none⟩]) 2), #[]⟩
noncomputable def o193 (P : Params) : Obj := ⟨(.type "type"), none, (.cls { name := "UOffsetTFlags", bases := [(.ref 97)], mro := [(.ref 193), (.ref 97), (.type "object")], ns := 192, qualname := "UOffsetTFlags", hasDict := true, slotNames := [], subclasses := [], abstract := false, collection := none, hasDel := false }), #[(some (.ref 184)), none, (some (.str "UOffsetTFlags" 662)), (some (.str "UOffsetTFlags" 670)), (some (.builtin "object.__new__")), (some (.bool true))]⟩
noncomputable def o192 (P : Params) : Obj := ⟨(.type "dict"), none, (.dict (List.toArray [⟨PyData.keyHash P "__module__", (.str "__module__" 669), (.str "flatbuffers.number_types" 360)⟩, ⟨PyData.keyHash P "__firstlineno__", (.str "__firstlineno__" 673), (.int 77 672)⟩, ⟨PyData.keyHash P "__static_attributes__", (.str "__static_attributes__" 674), (.ref 191)⟩, ⟨PyData.keyHash P "__doc__", (.str "__doc__" 675), .none⟩]) 2), #[]⟩
noncomputable def o205 (P : Params) : Obj := ⟨(.type "type"), none, (.cls { name := "VOffsetTFlags", bases := [(.ref 83)], mro := [(.ref 205), (.ref 83), (.type "object")], ns := 204, qualname := "VOffsetTFlags", hasDict := true, slotNames := [], subclasses := [], abstract := false, collection := none, hasDel := false }), #[(some (.ref 196)), none, (some (.str "VOffsetTFlags" 678)), (some (.str "VOffsetTFlags" 686)), (some (.builtin "object.__new__")), (some (.bool true))]⟩
noncomputable def o204 (P : Params) : Obj := ⟨(.type "dict"), none, (.dict (List.toArray [⟨PyData.keyHash P "__module__", (.str "__module__" 685), (.str "flatbuffers.number_types" 360)⟩, ⟨PyData.keyHash P "__firstlineno__", (.str "__firstlineno__" 689), (.int 79 688)⟩, ⟨PyData.keyHash P "__static_attributes__", (.str "__static_attributes__" 690), (.ref 203)⟩, ⟨PyData.keyHash P "__doc__", (.str "__doc__" 691), .none⟩]) 2), #[]⟩
noncomputable def o327 (P : Params) : Obj := ⟨(.type "tuple"), none, (.seq #[(.str "Bytes" 868), (.str "current_vtable" 869), (.str "head" 870), (.str "minalign" 871), (.str "objectEnd" 872), (.str "vtables" 873), (.str "nested" 874), (.str "forceDefaults" 875), (.str "finished" 876), (.str "vectorNumElems" 877), (.str "sharedStrings" 878)] 0), #[]⟩
noncomputable def o335 (P : Params) : Obj := ⟨(.type "function"), none, (.func (fnOf "__init__" "Builder.__init__" (dArgs (methD 42 3)) (dBody (methD 42 3)) (dScope (methD 42 3)) (.ref 328) .none .none (.str "flatbuffers.builder" 726) none (.ref 334) .none)), #[]⟩
noncomputable def o334 (P : Params) : Obj := ⟨(.type "code"), none, (.fields #[(.str "__init__" 886), (.str "Builder.__init__" 887), (.str "/claim/cut.py" 888), (.int 114 0), (.int 2 0), (.int 0 0), (.int 0 0), (.int 3 0), (.ref 329), (.bool true), (.int 317 0), (.ref 330), .none, (.ref 331), (.ref 332), (.ref 333), (.int 892 0), (.int 114 0), (.str "/claim/cut.py" 893)]), #[]⟩
noncomputable def o328 (P : Params) : Obj := ⟨(.type "tuple"), none, (.seq #[(.int 1024 885)] 0), #[]⟩
noncomputable def o342 (P : Params) : Obj := ⟨(.type "function"), none, (.func (fnOf "Clear" "Builder.Clear" (dArgs (methD 42 4)) (dBody (methD 42 4)) (dScope (methD 42 4)) .none .none .none (.str "flatbuffers.builder" 726) none (.ref 341) .none)), #[]⟩
noncomputable def o349 (P : Params) : Obj := ⟨(.type "function"), none, (.func (fnOf "Output" "Builder.Output" (dArgs (methD 42 5)) (dBody (methD 42 5)) (dScope (methD 42 5)) .none .none .none (.str "flatbuffers.builder" 726) none (.ref 348) .none)), #[]⟩
noncomputable def o348 (P : Params) : Obj := ⟨(.type "code"), none, (.fields #[(.str "Output" 902), (.str "Builder.Output" 903), (.str "/claim/cut.py" 904), (.int 132 0), (.int 1 0), (.int 0 0), (.int 0 0), (.int 3 0), (.ref 343), (.bool true), (.int 317 0), (.ref 344), .none, (.ref 345), (.ref 346), (.ref 347), (.int 906 0), (.int 132 0), (.str "/claim/cut.py" 907)]), #[]⟩
noncomputable def o356 (P : Params) : Obj := ⟨(.type "function"), none, (.func (fnOf "StartObject" "Builder.StartObject" (dArgs (methD 42 6)) (dBody (methD 42 6)) (dScope (methD 42 6)) .none .none .none (.str "flatbuffers.builder" 726) none (.ref 355) .none)), #[]⟩
noncomputable def o355 (P : Params) : Obj := ⟨(.type "code"), none, (.fields #[(.str "StartObject" 909), (.str "Builder.StartObject" 910), (.str "/claim/cut.py" 911), (.int 137 0), (.int 2 0), (.int 0 0), (.int 0 0), (.int 3 0), (.ref 350), (.bool true), (.int 317 0), (.ref 351), .none, (.ref 352), (.ref 353), (.ref 354), (.int 914 0), (.int 137 0), (.str "/claim/cut.py" 915)]), #[]⟩
noncomputable def o363 (P : Params) : Obj := ⟨(.type "function"), none, (.func (fnOf "WriteVtable" "Builder.WriteVtable" (dArgs (methD 42 7)) (dBody (methD 42 7)) (dScope (methD 42 7)) .none .none .none (.str "flatbuffers.builder" 726) none (.ref 362) .none)), #[]⟩
noncomputable def o362 (P : Params) : Obj := ⟨(.type "code"), none, (.fields #[(.str "WriteVtable" 917), (.str "Builder.WriteVtable" 918), (.str "/claim/cut.py" 919), (.int 143 0), (.int 1 0), (.int 0 0), (.int 0 0), (.int 3 0), (.ref 357), (.bool true), (.int 317 0), (.ref 358), .none, (.ref 359), (.ref 360), (.ref 361), (.int 932 0), (.int 143 0), (.str "/claim/cut.py" 933)]), #[]⟩
noncomputable def o370 (P : Params) : Obj := ⟨(.type "function"), none, (.func (fnOf "EndObject" "Builder.EndObject" (dArgs (methD 42 8)) (dBody (methD 42 8)) (dScope (methD 42 8)) .none .none .none (.str "flatbuffers.builder" 726) none (.ref 369) .none)), #[]⟩
noncomputable def o369 (P : Params) : Obj := ⟨(.type "code"), none, (.fields #[(.str "EndObject" 935), (.str "Builder.EndObject" 936), (.str "/claim/cut.py" 937), (.int 190 0), (.int 1 0), (.int 0 0), (.int 0 0), (.int 3 0), (.ref 364), (.bool true), (.int 317 0), (.ref 365), .none, (.ref 366), (.ref 367), (.ref 368), (.int 939 0), (.int 190 0), (.str "/claim/cut.py" 940)]), #[]⟩
noncomputable def o377 (P : Params) : Obj := ⟨(.type "function"), none, (.func (fnOf "GrowByteBuffer" "Builder.GrowByteBuffer" (dArgs (methD 42 9)) (dBody (methD 42 9)) (dScope (methD 42 9)) .none .none .none (.str "flatbuffers.builder" 726) none (.ref 376) .none)), #[]⟩
noncomputable def o376 (P : Params) : Obj := ⟨(.type "code"), none, (.fields #[(.str "GrowByteBuffer" 942), (.str "Builder.GrowByteBuffer" 943), (.str "/claim/cut.py" 944), (.int 195 0), (.int 1 0), (.int 0 0), (.int 0 0), (.int 3 0), (.ref 371), (.bool true), (.int 317 0), (.ref 372), .none, (.ref 373), (.ref 374), (.ref 375), (.int 949 0), (.int 195 0), (.str "/claim/cut.py" 950)]), #[]⟩
noncomputable def o384 (P : Params) : Obj := ⟨(.type "function"), none, (.func (fnOf "Head" "Builder.Head" (dArgs (methD 42 10)) (dBody (methD 42 10)) (dScope (methD 42 10)) .none .none .none (.str "flatbuffers.builder" 726) none (.ref 383) .none)), #[]⟩
noncomputable def o383 (P : Params) : Obj := ⟨(.type "code"), none, (.fields #[(.str "Head" 952), (.str "Builder.Head" 953), (.str "/claim/cut.py" 954), (.int 206 0), (.int 1 0), (.int 0 0), (.int 0 0), (.int 3 0), (.ref 378), (.bool true), (.int 317 0), (.ref 379), .none, (.ref 380), (.ref 381), (.ref 382), (.int 956 0), (.int 206 0), (.str "/claim/cut.py" 957)]), #[]⟩
noncomputable def o391 (P : Params) : Obj := ⟨(.type "function"), none, (.func (fnOf "Offset" "Builder.Offset" (dArgs (methD 42 11)) (dBody (methD 42 11)) (dScope (methD 42 11)) .none .none .none (.str "flatbuffers.builder" 726) none (.ref 390) .none)), #[]⟩
noncomputable def o390 (P : Params) : Obj := ⟨(.type "code"), none, (.fields #[(.str "Offset" 959), (.str "Builder.Offset" 960), (.str "/claim/cut.py" 961), (.int 209 0), (.int 1 0), (.int 0 0), (.int 0 0), (.int 3 0), (.ref 385), (.bool true), (.int 317 0), (.ref 386), .none, (.ref 387), (.ref 388), (.ref 389), (.int 963 0), (.int 209 0), (.str "/claim/cut.py" 964)]), #[]⟩
noncomputable def o398 (P : Params) : Obj := ⟨(.type "function"), none, (.func (fnOf "Pad" "Builder.Pad" (dArgs (methD 42 12)) (dBody (methD 42 12)) (dScope (methD 42 12)) .none .none .none (.str "flatbuffers.builder" 726) none (.ref 397) .none)), #[]⟩
noncomputable def o397 (P : Params) : Obj := ⟨(.type "code"), none, (.fields #[(.str "Pad" 966), (.str "Builder.Pad" 967), (.str "/claim/cut.py" 968), (.int 212 0), (.int 2 0), (.int 0 0), (.int 0 0), (.int 3 0), (.ref 392), (.bool true), (.int 317 0), (.ref 393), .none, (.ref 394), (.ref 395), (.ref 396), (.int 972 0), (.int 212 0), (.str "/claim/cut.py" 973)]), #[]⟩
noncomputable def o405 (P : Params) : Obj := ⟨(.type "function"), none, (.func (fnOf "Prep" "Builder.Prep" (dArgs (methD 42 13)) (dBody (methD 42 13)) (dScope (methD 42 13)) .none .none .none (.str "flatbuffers.builder" 726) none (.ref 404) .none)), #[]⟩
noncomputable def o404 (P : Params) : Obj := ⟨(.type "code"), none, (.fields #[(.str "Prep" 975), (.str "Builder.Prep" 976), (.str "/claim/cut.py" 977), (.int 219 0), (.int 3 0), (.int 0 0), (.int 0 0), (.int 3 0), (.ref 399), (.bool true), (.int 317 0), (.ref 400), .none, (.ref 401), (.ref 402), (.ref 403), (.int 986 0), (.int 219 0), (.str "/claim/cut.py" 987)]), #[]⟩
noncomputable def o412 (P : Params) : Obj := ⟨(.type "function"), none, (.func (fnOf "PrependSOffsetTRelative" "Builder.PrependSOffsetTRelative" (dArgs (methD 42 14)) (dBody (methD 42 14)) (dScope (methD 42 14)) .none .none .none (.str "flatbuffers.builder" 726) none (.ref 411) .none)), #[]⟩
noncomputable def o411 (P : Params) : Obj := ⟨(.type "code"), none, (.fields #[(.str "PrependSOffsetTRelative" 989), (.str "Builder.PrependSOffsetTRelative" 990), (.str "/claim/cut.py" 991), (.int 235 0), (.int 2 0), (.int 0 0), (.int 0 0), (.int 3 0), (.ref 406), (.bool true), (.int 317 0), (.ref 407), .none, (.ref 408), (.ref 409), (.ref 410), (.int 996 0), (.int 235 0), (.str "/claim/cut.py" 997)]), #[]⟩
noncomputable def o419 (P : Params) : Obj := ⟨(.type "function"), none, (.func (fnOf "PrependUOffsetTRelative" "Builder.PrependUOffsetTRelative" (dArgs (methD 42 15)) (dBody (methD 42 15)) (dScope (methD 42 15)) .none .none .none (.str "flatbuffers.builder" 726) none (.ref 418) .none)), #[]⟩
noncomputable def o418 (P : Params) : Obj := ⟨(.type "code"), none, (.fields #[(.str "PrependUOffsetTRelative" 999), (.str "Builder.PrependUOffsetTRelative" 1000), (.str "/claim/cut.py" 1001), (.int 243 0), (.int 2 0), (.int 0 0), (.int 0 0), (.int 3 0), (.ref 413), (.bool true), (.int 317 0), (.ref 414), .none, (.ref 415), (.ref 416), (.ref 417), (.int 1006 0), (.int 243 0), (.str "/claim/cut.py" 1007)]), #[]⟩
noncomputable def o426 (P : Params) : Obj := ⟨(.type "function"), none, (.func (fnOf "StartVector" "Builder.StartVector" (dArgs (methD 42 16)) (dBody (methD 42 16)) (dScope (methD 42 16)) .none .none .none (.str "flatbuffers.builder" 726) none (.ref 425) .none)), #[]⟩
noncomputable def o425 (P : Params) : Obj := ⟨(.type "code"), none, (.fields #[(.str "StartVector" 1009), (.str "Builder.StartVector" 1010), (.str "/claim/cut.py" 1011), (.int 251 0), (.int 4 0), (.int 0 0), (.int 0 0), (.int 3 0), (.ref 420), (.bool true), (.int 317 0), (.ref 421), .none, (.ref 422), (.ref 423), (.ref 424), (.int 1016 0), (.int 251 0), (.str "/claim/cut.py" 1017)]), #[]⟩
noncomputable def o434 (P : Params) : Obj := ⟨(.type "function"), none, (.func (fnOf "EndVector" "Builder.EndVector" (dArgs (methD 42 17)) (dBody (methD 42 17)) (dScope (methD 42 17)) (.ref 427) .none .none (.str "flatbuffers.builder" 726) none (.ref 433) .none)), #[]⟩
noncomputable def o433 (P : Params) : Obj := ⟨(.type "code"), none, (.fields #[(.str "EndVector" 1019), (.str "Builder.EndVector" 1020), (.str "/claim/cut.py" 1021), (.int 259 0), (.int 2 0), (.int 0 0), (.int 0 0), (.int 3 0), (.ref 428), (.bool true), (.int 317 0), (.ref 429), .none, (.ref 430), (.ref 431), (.ref 432), (.int 1024 0), (.int 259 0), (.str "/claim/cut.py" 1025)]), #[]⟩
noncomputable def o427 (P : Params) : Obj := ⟨(.type "tuple"), none, (.seq #[.none] 0), #[]⟩
noncomputable def o441 (P : Params) : Obj := ⟨(.type "function"), none, (.func (fnOf "CreateSharedString" "Builder.CreateSharedString" (dArgs (methD 42 18)) (dBody (methD 42 18)) (dScope (methD 42 18)) .none .none .none (.str "flatbuffers.builder" 726) none (.ref 440) .none)), #[]⟩
noncomputable def o448 (P : Params) : Obj := ⟨(.type "function"), none, (.func (fnOf "CreateString" "Builder.CreateString" (dArgs (methD 42 19)) (dBody (methD 42 19)) (dScope (methD 42 19)) .none .none .none (.str "flatbuffers.builder" 726) none (.ref 447) .none)), #[]⟩
noncomputable def o447 (P : Params) : Obj := ⟨(.type "code"), none, (.fields #[(.str "CreateString" 1035), (.str "Builder.CreateString" 1036), (.str "/claim/cut.py" 1037), (.int 272 0), (.int 2 0), (.int 0 0), (.int 0 0), (.int 3 0), (.ref 442), (.bool true), (.int 317 0), (.ref 443), .none, (.ref 444), (.ref 445), (.ref 446), (.int 1043 0), (.int 272 0), (.str "/claim/cut.py" 1044)]), #[]⟩
noncomputable def o455 (P : Params) : Obj := ⟨(.type "function"), none, (.func (fnOf "CreateByteVector" "Builder.CreateByteVector" (dArgs (methD 42 20)) (dBody (methD 42 20)) (dScope (methD 42 20)) .none .none .none (.str "flatbuffers.builder" 726) none (.ref 454) .none)), #[]⟩
noncomputable def o454 (P : Params) : Obj := ⟨(.type "code"), none, (.fields #[(.str "CreateByteVector" 1046), (.str "Builder.CreateByteVector" 1047), (.str "/claim/cut.py" 1048), (.int 290 0), (.int 2 0), (.int 0 0), (.int 0 0), (.int 3 0), (.ref 449), (.bool true), (.int 317 0), (.ref 450), .none, (.ref 451), (.ref 452), (.ref 453), (.int 1053 0), (.int 290 0), (.str "/claim/cut.py" 1054)]), #[]⟩
noncomputable def o462 (P : Params) : Obj := ⟨(.type "function"), none, (.func (fnOf "assertNested" "Builder.assertNested" (dArgs (methD 42 21)) (dBody (methD 42 21)) (dScope (methD 42 21)) .none .none .none (.str "flatbuffers.builder" 726) none (.ref 461) .none)), #[]⟩
noncomputable def o461 (P : Params) : Obj := ⟨(.type "code"), none, (.fields #[(.str "assertNested" 1056), (.str "Builder.assertNested" 1057), (.str "/claim/cut.py" 1058), (.int 303 0), (.int 1 0), (.int 0 0), (.int 0 0), (.int 3 0), (.ref 456), (.bool true), (.int 317 0), (.ref 457), .none, (.ref 458), (.ref 459), (.ref 460), (.int 1060 0), (.int 303 0), (.str "/claim/cut.py" 1061)]), #[]⟩
noncomputable def o469 (P : Params) : Obj := ⟨(.type "function"), none, (.func (fnOf "assertNotNested" "Builder.assertNotNested" (dArgs (methD 42 22)) (dBody (methD 42 22)) (dScope (methD 42 22)) .none .none .none (.str "flatbuffers.builder" 726) none (.ref 468) .none)), #[]⟩
noncomputable def o468 (P : Params) : Obj := ⟨(.type "code"), none, (.fields #[(.str "assertNotNested" 1063), (.str "Builder.assertNotNested" 1064), (.str "/claim/cut.py" 1065), (.int 307 0), (.int 1 0), (.int 0 0), (.int 0 0), (.int 3 0), (.ref 463), (.bool true), (.int 317 0), (.ref 464), .none, (.ref 465), (.ref 466), (.ref 467), (.int 1067 0), (.int 307 0), (.str "/claim/cut.py" 1068)]), #[]⟩
noncomputable def o476 (P : Params) : Obj := ⟨(.type "function"), none, (.func (fnOf "assertStructIsInline" "Builder.assertStructIsInline" (dArgs (methD 42 23)) (dBody (methD 42 23)) (dScope (methD 42 23)) .none .none .none (.str "flatbuffers.builder" 726) none (.ref 475) .none)), #[]⟩
noncomputable def o475 (P : Params) : Obj := ⟨(.type "code"), none, (.fields #[(.str "assertStructIsInline" 1070), (.str "Builder.assertStructIsInline" 1071), (.str "/claim/cut.py" 1072), (.int 311 0), (.int 2 0), (.int 0 0), (.int 0 0), (.int 3 0), (.ref 470), (.bool true), (.int 317 0), (.ref 471), .none, (.ref 472), (.ref 473), (.ref 474), (.int 1076 0), (.int 311 0), (.str "/claim/cut.py" 1077)]), #[]⟩
noncomputable def o483 (P : Params) : Obj := ⟨(.type "function"), none, (.func (fnOf "Slot" "Builder.Slot" (dArgs (methD 42 24)) (dBody (methD 42 24)) (dScope (methD 42 24)) .none .none .none (.str "flatbuffers.builder" 726) none (.ref 482) .none)), #[]⟩
noncomputable def o482 (P : Params) : Obj := ⟨(.type "code"), none, (.fields #[(.str "Slot" 1079), (.str "Builder.Slot" 1080), (.str "/claim/cut.py" 1081), (.int 317 0), (.int 2 0), (.int 0 0), (.int 0 0), (.int 3 0), (.ref 477), (.bool true), (.int 317 0), (.ref 478), .none, (.ref 479), (.ref 480), (.ref 481), (.int 1084 0), (.int 317 0), (.str "/claim/cut.py" 1085)]), #[]⟩
noncomputable def o491 (P : Params) : Obj := ⟨(.type "function"), none, (.func (fnOf "__Finish" "Builder.__Finish" (dArgs (methD 42 25)) (dBody (methD 42 25)) (dScope (methD 42 25)) (.ref 484) .none .none (.str "flatbuffers.builder" 726) none (.ref 490) .none)), #[]⟩
noncomputable def o490 (P : Params) : Obj := ⟨(.type "code"), none, (.fields #[(.str "__Finish" 1087), (.str "Builder.__Finish" 1088), (.str "/claim/cut.py" 1089), (.int 321 0), (.int 4 0), (.int 0 0), (.int 0 0), (.int 3 0), (.ref 485), (.bool true), (.int 317 0), (.ref 486), .none, (.ref 487), (.ref 488), (.ref 489), (.int 1097 0), (.int 321 0), (.str "/claim/cut.py" 1098)]), #[]⟩
noncomputable def o484 (P : Params) : Obj := ⟨(.type "tuple"), none, (.seq #[.none] 0), #[]⟩
noncomputable def o499 (P : Params) : Obj := ⟨(.type "function"), none, (.func (fnOf "Finish" "Builder.Finish" (dArgs (methD 42 26)) (dBody (methD 42 26)) (dScope (methD 42 26)) (.ref 492) .none .none (.str "flatbuffers.builder" 726) none (.ref 498) .none)), #[]⟩
noncomputable def o498 (P : Params) : Obj := ⟨(.type "code"), none, (.fields #[(.str "Finish" 1100), (.str "Builder.Finish" 1101), (.str "/claim/cut.py" 1102), (.int 342 0), (.int 3 0), (.int 0 0), (.int 0 0), (.int 3 0), (.ref 493), (.bool true), (.int 317 0), (.ref 494), .none, (.ref 495), (.ref 496), (.ref 497), (.int 1106 0), (.int 342 0), (.str "/claim/cut.py" 1107)]), #[]⟩
noncomputable def o492 (P : Params) : Obj := ⟨(.type "tuple"), none, (.seq #[.none] 0), #[]⟩
noncomputable def o507 (P : Params) : Obj := ⟨(.type "function"), none, (.func (fnOf "FinishSizePrefixed" "Builder.FinishSizePrefixed" (dArgs (methD 42 27)) (dBody (methD 42 27)) (dScope (methD 42 27)) (.ref 500) .none .none (.str "flatbuffers.builder" 726) none (.ref 506) .none)), #[]⟩
noncomputable def o506 (P : Params) : Obj := ⟨(.type "code"), none, (.fields #[(.str "FinishSizePrefixed" 1109), (.str "Builder.FinishSizePrefixed" 1110), (.str "/claim/cut.py" 1111), (.int 345 0), (.int 3 0), (.int 0 0), (.int 0 0), (.int 3 0), (.ref 501), (.bool true), (.int 317 0), (.ref 502), .none, (.ref 503), (.ref 504), (.ref 505), (.int 1115 0), (.int 345 0), (.str "/claim/cut.py" 1116)]), #[]⟩
noncomputable def o500 (P : Params) : Obj := ⟨(.type "tuple"), none, (.seq #[.none] 0), #[]⟩
noncomputable def o514 (P : Params) : Obj := ⟨(.type "function"), none, (.func (fnOf "Prepend" "Builder.Prepend" (dArgs (methD 42 28)) (dBody (methD 42 28)) (dScope (methD 42 28)) .none .none .none (.str "flatbuffers.builder" 726) none (.ref 513) .none)), #[]⟩
noncomputable def o513 (P : Params) : Obj := ⟨(.type "code"), none, (.fields #[(.str "Prepend" 1118), (.str "Builder.Prepend" 1119), (.str "/claim/cut.py" 1120), (.int 348 0), (.int 3 0), (.int 0 0), (.int 0 0), (.int 3 0), (.ref 508), (.bool true), (.int 317 0), (.ref 509), .none, (.ref 510), (.ref 511), (.ref 512), (.int 1124 0), (.int 348 0), (.str "/claim/cut.py" 1125)]), #[]⟩
noncomputable def o521 (P : Params) : Obj := ⟨(.type "function"), none, (.func (fnOf "PrependSlot" "Builder.PrependSlot" (dArgs (methD 42 29)) (dBody (methD 42 29)) (dScope (methD 42 29)) .none .none .none (.str "flatbuffers.builder" 726) none (.ref 520) .none)), #[]⟩
noncomputable def o528 (P : Params) : Obj := ⟨(.type "function"), none, (.func (fnOf "PrependBoolSlot" "Builder.PrependBoolSlot" (dArgs (methD 42 30)) (dBody (methD 42 30)) (dScope (methD 42 30)) .none .none .none (.str "flatbuffers.builder" 726) none (.ref 527) .none)), #[]⟩
noncomputable def o535 (P : Params) : Obj := ⟨(.type "function"), none, (.func (fnOf "PrependByteSlot" "Builder.PrependByteSlot" (dArgs (methD 42 31)) (dBody (methD 42 31)) (dScope (methD 42 31)) .none .none .none (.str "flatbuffers.builder" 726) none (.ref 534) .none)), #[]⟩
noncomputable def o542 (P : Params) : Obj := ⟨(.type "function"), none, (.func (fnOf "PrependUint8Slot" "Builder.PrependUint8Slot" (dArgs (methD 42 32)) (dBody (methD 42 32)) (dScope (methD 42 32)) .none .none .none (.str "flatbuffers.builder" 726) none (.ref 541) .none)), #[]⟩
noncomputable def o549 (P : Params) : Obj := ⟨(.type "function"), none, (.func (fnOf "PrependUint16Slot" "Builder.PrependUint16Slot" (dArgs (methD 42 33)) (dBody (methD 42 33)) (dScope (methD 42 33)) .none .none .none (.str "flatbuffers.builder" 726) none (.ref 548) .none)), #[]⟩
noncomputable def o556 (P : Params) : Obj := ⟨(.type "function"), none, (.func (fnOf "PrependUint32Slot" "Builder.PrependUint32Slot" (dArgs (methD 42 34)) (dBody (methD 42 34)) (dScope (methD 42 34)) .none .none .none (.str "flatbuffers.builder" 726) none (.ref 555) .none)), #[]⟩
noncomputable def o563 (P : Params) : Obj := ⟨(.type "function"), none, (.func (fnOf "PrependUint64Slot" "Builder.PrependUint64Slot" (dArgs (methD 42 35)) (dBody (methD 42 35)) (dScope (methD 42 35)) .none .none .none (.str "flatbuffers.builder" 726) none (.ref 562) .none)), #[]⟩
noncomputable def o570 (P : Params) : Obj := ⟨(.type "function"), none, (.func (fnOf "PrependInt8Slot" "Builder.PrependInt8Slot" (dArgs (methD 42 36)) (dBody (methD 42 36)) (dScope (methD 42 36)) .none .none .none (.str "flatbuffers.builder" 726) none (.ref 569) .none)), #[]⟩
noncomputable def o577 (P : Params) : Obj := ⟨(.type "function"), none, (.func (fnOf "PrependInt16Slot" "Builder.PrependInt16Slot" (dArgs (methD 42 37)) (dBody (methD 42 37)) (dScope (methD 42 37)) .none .none .none (.str "flatbuffers.builder" 726) none (.ref 576) .none)), #[]⟩
noncomputable def o584 (P : Params) : Obj := ⟨(.type "function"), none, (.func (fnOf "PrependInt32Slot" "Builder.PrependInt32Slot" (dArgs (methD 42 38)) (dBody (methD 42 38)) (dScope (methD 42 38)) .none .none .none (.str "flatbuffers.builder" 726) none (.ref 583) .none)), #[]⟩
noncomputable def o591 (P : Params) : Obj := ⟨(.type "function"), none, (.func (fnOf "PrependInt64Slot" "Builder.PrependInt64Slot" (dArgs (methD 42 39)) (dBody (methD 42 39)) (dScope (methD 42 39)) .none .none .none (.str "flatbuffers.builder" 726) none (.ref 590) .none)), #[]⟩
noncomputable def o598 (P : Params) : Obj := ⟨(.type "function"), none, (.func (fnOf "PrependUOffsetTRelativeSlot" "Builder.PrependUOffsetTRelativeSlot" (dArgs (methD 42 40)) (dBody (methD 42 40)) (dScope (methD 42 40)) .none .none .none (.str "flatbuffers.builder" 726) none (.ref 597) .none)), #[]⟩
noncomputable def o597 (P : Params) : Obj := ⟨(.type "code"), none, (.fields #[(.str "PrependUOffsetTRelativeSlot" 1218), (.str "Builder.PrependUOffsetTRelativeSlot" 1219), (.str "/claim/cut.py" 1220), (.int 385 0), (.int 4 0), (.int 0 0), (.int 0 0), (.int 3 0), (.ref 592), (.bool true), (.int 317 0), (.ref 593), .none, (.ref 594), (.ref 595), (.ref 596), (.int 1225 0), (.int 385 0), (.str "/claim/cut.py" 1226)]), #[]⟩
noncomputable def o605 (P : Params) : Obj := ⟨(.type "function"), none, (.func (fnOf "PrependStructSlot" "Builder.PrependStructSlot" (dArgs (methD 42 41)) (dBody (methD 42 41)) (dScope (methD 42 41)) .none .none .none (.str "flatbuffers.builder" 726) none (.ref 604) .none)), #[]⟩
noncomputable def o604 (P : Params) : Obj := ⟨(.type "code"), none, (.fields #[(.str "PrependStructSlot" 1228), (.str "Builder.PrependStructSlot" 1229), (.str "/claim/cut.py" 1230), (.int 390 0), (.int 4 0), (.int 0 0), (.int 0 0), (.int 3 0), (.ref 599), (.bool true), (.int 317 0), (.ref 600), .none, (.ref 601), (.ref 602), (.ref 603), (.int 1235 0), (.int 390 0), (.str "/claim/cut.py" 1236)]), #[]⟩
noncomputable def o612 (P : Params) : Obj := ⟨(.type "function"), none, (.func (fnOf "PrependBool" "Builder.PrependBool" (dArgs (methD 42 42)) (dBody (methD 42 42)) (dScope (methD 42 42)) .none .none .none (.str "flatbuffers.builder" 726) none (.ref 611) .none)), #[]⟩
noncomputable def o619 (P : Params) : Obj := ⟨(.type "function"), none, (.func (fnOf "PrependByte" "Builder.PrependByte" (dArgs (methD 42 43)) (dBody (methD 42 43)) (dScope (methD 42 43)) .none .none .none (.str "flatbuffers.builder" 726) none (.ref 618) .none)), #[]⟩
noncomputable def o626 (P : Params) : Obj := ⟨(.type "function"), none, (.func (fnOf "PrependUint8" "Builder.PrependUint8" (dArgs (methD 42 44)) (dBody (methD 42 44)) (dScope (methD 42 44)) .none .none .none (.str "flatbuffers.builder" 726) none (.ref 625) .none)), #[]⟩
noncomputable def o625 (P : Params) : Obj := ⟨(.type "code"), none, (.fields #[(.str "PrependUint8" 1254), (.str "Builder.PrependUint8" 1255), (.str "/claim/cut.py" 1256), (.int 402 0), (.int 2 0), (.int 0 0), (.int 0 0), (.int 3 0), (.ref 620), (.bool true), (.int 317 0), (.ref 621), .none, (.ref 622), (.ref 623), (.ref 624), (.int 1259 0), (.int 402 0), (.str "/claim/cut.py" 1260)]), #[]⟩
noncomputable def o633 (P : Params) : Obj := ⟨(.type "function"), none, (.func (fnOf "PrependUint16" "Builder.PrependUint16" (dArgs (methD 42 45)) (dBody (methD 42 45)) (dScope (methD 42 45)) .none .none .none (.str "flatbuffers.builder" 726) none (.ref 632) .none)), #[]⟩
noncomputable def o632 (P : Params) : Obj := ⟨(.type "code"), none, (.fields #[(.str "PrependUint16" 1262), (.str "Builder.PrependUint16" 1263), (.str "/claim/cut.py" 1264), (.int 405 0), (.int 2 0), (.int 0 0), (.int 0 0), (.int 3 0), (.ref 627), (.bool true), (.int 317 0), (.ref 628), .none, (.ref 629), (.ref 630), (.ref 631), (.int 1267 0), (.int 405 0), (.str "/claim/cut.py" 1268)]), #[]⟩
noncomputable def o640 (P : Params) : Obj := ⟨(.type "function"), none, (.func (fnOf "PrependUint32" "Builder.PrependUint32" (dArgs (methD 42 46)) (dBody (methD 42 46)) (dScope (methD 42 46)) .none .none .none (.str "flatbuffers.builder" 726) none (.ref 639) .none)), #[]⟩
noncomputable def o639 (P : Params) : Obj := ⟨(.type "code"), none, (.fields #[(.str "PrependUint32" 1270), (.str "Builder.PrependUint32" 1271), (.str "/claim/cut.py" 1272), (.int 408 0), (.int 2 0), (.int 0 0), (.int 0 0), (.int 3 0), (.ref 634), (.bool true), (.int 317 0), (.ref 635), .none, (.ref 636), (.ref 637), (.ref 638), (.int 1275 0), (.int 408 0), (.str "/claim/cut.py" 1276)]), #[]⟩
noncomputable def o647 (P : Params) : Obj := ⟨(.type "function"), none, (.func (fnOf "PrependUint64" "Builder.PrependUint64" (dArgs (methD 42 47)) (dBody (methD 42 47)) (dScope (methD 42 47)) .none .none .none (.str "flatbuffers.builder" 726) none (.ref 646) .none)), #[]⟩
noncomputable def o646 (P : Params) : Obj := ⟨(.type "code"), none, (.fields #[(.str "PrependUint64" 1278), (.str "Builder.PrependUint64" 1279), (.str "/claim/cut.py" 1280), (.int 411 0), (.int 2 0), (.int 0 0), (.int 0 0), (.int 3 0), (.ref 641), (.bool true), (.int 317 0), (.ref 642), .none, (.ref 643), (.ref 644), (.ref 645), (.int 1283 0), (.int 411 0), (.str "/claim/cut.py" 1284)]), #[]⟩
noncomputable def o654 (P : Params) : Obj := ⟨(.type "function"), none, (.func (fnOf "PrependInt8" "Builder.PrependInt8" (dArgs (methD 42 48)) (dBody (methD 42 48)) (dScope (methD 42 48)) .none .none .none (.str "flatbuffers.builder" 726) none (.ref 653) .none)), #[]⟩
noncomputable def o653 (P : Params) : Obj := ⟨(.type "code"), none, (.fields #[(.str "PrependInt8" 1286), (.str "Builder.PrependInt8" 1287), (.str "/claim/cut.py" 1288), (.int 414 0), (.int 2 0), (.int 0 0), (.int 0 0), (.int 3 0), (.ref 648), (.bool true), (.int 317 0), (.ref 649), .none, (.ref 650), (.ref 651), (.ref 652), (.int 1291 0), (.int 414 0), (.str "/claim/cut.py" 1292)]), #[]⟩
noncomputable def o661 (P : Params) : Obj := ⟨(.type "function"), none, (.func (fnOf "PrependInt16" "Builder.PrependInt16" (dArgs (methD 42 49)) (dBody (methD 42 49)) (dScope (methD 42 49)) .none .none .none (.str "flatbuffers.builder" 726) none (.ref 660) .none)), #[]⟩
noncomputable def o660 (P : Params) : Obj := ⟨(.type "code"), none, (.fields #[(.str "PrependInt16" 1294), (.str "Builder.PrependInt16" 1295), (.str "/claim/cut.py" 1296), (.int 417 0), (.int 2 0), (.int 0 0), (.int 0 0), (.int 3 0), (.ref 655), (.bool true), (.int 317 0), (.ref 656), .none, (.ref 657), (.ref 658), (.ref 659), (.int 1299 0), (.int 417 0), (.str "/claim/cut.py" 1300)]), #[]⟩
noncomputable def o668 (P : Params) : Obj := ⟨(.type "function"), none, (.func (fnOf "PrependInt32" "Builder.PrependInt32" (dArgs (methD 42 50)) (dBody (methD 42 50)) (dScope (methD 42 50)) .none .none .none (.str "flatbuffers.builder" 726) none (.ref 667) .none)), #[]⟩
noncomputable def o667 (P : Params) : Obj := ⟨(.type "code"), none, (.fields #[(.str "PrependInt32" 1302), (.str "Builder.PrependInt32" 1303), (.str "/claim/cut.py" 1304), (.int 420 0), (.int 2 0), (.int 0 0), (.int 0 0), (.int 3 0), (.ref 662), (.bool true), (.int 317 0), (.ref 663), .none, (.ref 664), (.ref 665), (.ref 666), (.int 1307 0), (.int 420 0), (.str "/claim/cut.py" 1308)]), #[]⟩
noncomputable def o675 (P : Params) : Obj := ⟨(.type "function"), none, (.func (fnOf "PrependInt64" "Builder.PrependInt64" (dArgs (methD 42 51)) (dBody (methD 42 51)) (dScope (methD 42 51)) .none .none .none (.str "flatbuffers.builder" 726) none (.ref 674) .none)), #[]⟩
noncomputable def o674 (P : Params) : Obj := ⟨(.type "code"), none, (.fields #[(.str "PrependInt64" 1310), (.str "Builder.PrependInt64" 1311), (.str "/claim/cut.py" 1312), (.int 423 0), (.int 2 0), (.int 0 0), (.int 0 0), (.int 3 0), (.ref 669), (.bool true), (.int 317 0), (.ref 670), .none, (.ref 671), (.ref 672), (.ref 673), (.int 1315 0), (.int 423 0), (.str "/claim/cut.py" 1316)]), #[]⟩
noncomputable def o682 (P : Params) : Obj := ⟨(.type "function"), none, (.func (fnOf "ForceDefaults" "Builder.ForceDefaults" (dArgs (methD 42 52)) (dBody (methD 42 52)) (dScope (methD 42 52)) .none .none .none (.str "flatbuffers.builder" 726) none (.ref 681) .none)), #[]⟩
noncomputable def o689 (P : Params) : Obj := ⟨(.type "function"), none, (.func (fnOf "PrependVOffsetT" "Builder.PrependVOffsetT" (dArgs (methD 42 53)) (dBody (methD 42 53)) (dScope (methD 42 53)) .none .none .none (.str "flatbuffers.builder" 726) none (.ref 688) .none)), #[]⟩
noncomputable def o688 (P : Params) : Obj := ⟨(.type "code"), none, (.fields #[(.str "PrependVOffsetT" 1326), (.str "Builder.PrependVOffsetT" 1327), (.str "/claim/cut.py" 1328), (.int 429 0), (.int 2 0), (.int 0 0), (.int 0 0), (.int 3 0), (.ref 683), (.bool true), (.int 317 0), (.ref 684), .none, (.ref 685), (.ref 686), (.ref 687), (.int 1331 0), (.int 429 0), (.str "/claim/cut.py" 1332)]), #[]⟩
noncomputable def o696 (P : Params) : Obj := ⟨(.type "function"), none, (.func (fnOf "Place" "Builder.Place" (dArgs (methD 42 54)) (dBody (methD 42 54)) (dScope (methD 42 54)) .none .none .none (.str "flatbuffers.builder" 726) none (.ref 695) .none)), #[]⟩
noncomputable def o695 (P : Params) : Obj := ⟨(.type "code"), none, (.fields #[(.str "Place" 1334), (.str "Builder.Place" 1335), (.str "/claim/cut.py" 1336), (.int 432 0), (.int 3 0), (.int 0 0), (.int 0 0), (.int 3 0), (.ref 690), (.bool true), (.int 317 0), (.ref 691), .none, (.ref 692), (.ref 693), (.ref 694), (.int 1341 0), (.int 432 0), (.str "/claim/cut.py" 1342)]), #[]⟩
noncomputable def o703 (P : Params) : Obj := ⟨(.type "function"), none, (.func (fnOf "PlaceVOffsetT" "Builder.PlaceVOffsetT" (dArgs (methD 42 55)) (dBody (methD 42 55)) (dScope (methD 42 55)) .none .none .none (.str "flatbuffers.builder" 726) none (.ref 702) .none)), #[]⟩
noncomputable def o710 (P : Params) : Obj := ⟨(.type "function"), none, (.func (fnOf "PlaceSOffsetT" "Builder.PlaceSOffsetT" (dArgs (methD 42 56)) (dBody (methD 42 56)) (dScope (methD 42 56)) .none .none .none (.str "flatbuffers.builder" 726) none (.ref 709) .none)), #[]⟩
noncomputable def o709 (P : Params) : Obj := ⟨(.type "code"), none, (.fields #[(.str "PlaceSOffsetT" 1352), (.str "Builder.PlaceSOffsetT" 1353), (.str "/claim/cut.py" 1354), (.int 441 0), (.int 2 0), (.int 0 0), (.int 0 0), (.int 3 0), (.ref 704), (.bool true), (.int 317 0), (.ref 705), .none, (.ref 706), (.ref 707), (.ref 708), (.int 1358 0), (.int 441 0), (.str "/claim/cut.py" 1359)]), #[]⟩
noncomputable def o717 (P : Params) : Obj := ⟨(.type "function"), none, (.func (fnOf "PlaceUOffsetT" "Builder.PlaceUOffsetT" (dArgs (methD 42 57)) (dBody (methD 42 57)) (dScope (methD 42 57)) .none .none .none (.str "flatbuffers.builder" 726) none (.ref 716) .none)), #[]⟩
noncomputable def o716 (P : Params) : Obj := ⟨(.type "code"), none, (.fields #[(.str "PlaceUOffsetT" 1361), (.str "Builder.PlaceUOffsetT" 1362), (.str "/claim/cut.py" 1363), (.int 447 0), (.int 2 0), (.int 0 0), (.int 0 0), (.int 3 0), (.ref 711), (.bool true), (.int 317 0), (.ref 712), .none, (.ref 713), (.ref 714), (.ref 715), (.int 1367 0), (.int 447 0), (.str "/claim/cut.py" 1368)]), #[]⟩
noncomputable def o718 (P : Params) : Obj := ⟨(.type "tuple"), none, (.seq #[(.str "Bytes" 1370), (.str "current_vtable" 1371), (.str "finished" 1372), (.str "forceDefaults" 1373), (.str "head" 1374), (.str "minalign" 1375), (.str "nested" 1376), (.str "objectEnd" 1377), (.str "sharedStrings" 1378), (.str "vectorNumElems" 1379), (.str "vtables" 1380)] 0), #[]⟩
noncomputable def o722 (P : Params) : Obj := ⟨(.type "member_descriptor"), none, (.fields #[(.str "Bytes" 1382), (.ref 721), (.builtin "proto.slot"), (.builtin "proto.slot#set"), (.int 10 0)]), #[]⟩
noncomputable def o723 (P : Params) : Obj := ⟨(.type "member_descriptor"), none, (.fields #[(.str "current_vtable" 1384), (.ref 721), (.builtin "proto.slot"), (.builtin "proto.slot#set"), (.int 9 0)]), #[]⟩
noncomputable def o724 (P : Params) : Obj := ⟨(.type "member_descriptor"), none, (.fields #[(.str "finished" 1386), (.ref 721), (.builtin "proto.slot"), (.builtin "proto.slot#set"), (.int 8 0)]), #[]⟩
noncomputable def o725 (P : Params) : Obj := ⟨(.type "member_descriptor"), none, (.fields #[(.str "forceDefaults" 1388), (.ref 721), (.builtin "proto.slot"), (.builtin "proto.slot#set"), (.int 7 0)]), #[]⟩
noncomputable def o726 (P : Params) : Obj := ⟨(.type "member_descriptor"), none, (.fields #[(.str "head" 1390), (.ref 721), (.builtin "proto.slot"), (.builtin "proto.slot#set"), (.int 6 0)]), #[]⟩
noncomputable def o727 (P : Params) : Obj := ⟨(.type "member_descriptor"), none, (.fields #[(.str "minalign" 1392), (.ref 721), (.builtin "proto.slot"), (.builtin "proto.slot#set"), (.int 5 0)]), #[]⟩
noncomputable def o728 (P : Params) : Obj := ⟨(.type "member_descriptor"), none, (.fields #[(.str "nested" 1394), (.ref 721), (.builtin "proto.slot"), (.builtin "proto.slot#set"), (.int 4 0)]), #[]⟩
noncomputable def o729 (P : Params) : Obj := ⟨(.type "member_descriptor"), none, (.fields #[(.str "objectEnd" 1396), (.ref 721), (.builtin "proto.slot"), (.builtin "proto.slot#set"), (.int 3 0)]), #[]⟩
noncomputable def o730 (P : Params) : Obj := ⟨(.type "member_descriptor"), none, (.fields #[(.str "sharedStrings" 1398), (.ref 721), (.builtin "proto.slot"), (.builtin "proto.slot#set"), (.int 2 0)]), #[]⟩
noncomputable def o731 (P : Params) : Obj := ⟨(.type "member_descriptor"), none, (.fields #[(.str "vectorNumElems" 1400), (.ref 721), (.builtin "proto.slot"), (.builtin "proto.slot#set"), (.int 1 0)]), #[]⟩
noncomputable def o732 (P : Params) : Obj := ⟨(.type "member_descriptor"), none, (.fields #[(.str "vtables" 1402), (.ref 721), (.builtin "proto.slot"), (.builtin "proto.slot#set"), (.int 0 0)]), #[]⟩
noncomputable def o742 (P : Params) : Obj := ⟨(.type "tuple"), none, (.seq #[(.str "Bytes" 1421), (.str "Pos" 1422)] 0), #[]⟩
noncomputable def o749 (P : Params) : Obj := ⟨(.type "function"), none, (.func (fnOf "__init__" "Table.__init__" (dArgs (methD 44 1)) (dBody (methD 44 1)) (dScope (methD 44 1)) .none .none .none (.str "flatbuffers.table" 1407) none (.ref 748) .none)), #[]⟩
noncomputable def o748 (P : Params) : Obj := ⟨(.type "code"), none, (.fields #[(.str "__init__" 1424), (.str "Table.__init__" 1425), (.str "/claim/cut.py" 1426), (.int 456 0), (.int 3 0), (.int 0 0), (.int 0 0), (.int 3 0), (.ref 743), (.bool true), (.int 317 0), (.ref 744), .none, (.ref 745), (.ref 746), (.ref 747), (.int 1430 0), (.int 456 0), (.str "/claim/cut.py" 1431)]), #[]⟩
noncomputable def o756 (P : Params) : Obj := ⟨(.type "function"), none, (.func (fnOf "Offset" "Table.Offset" (dArgs (methD 44 2)) (dBody (methD 44 2)) (dScope (methD 44 2)) .none .none .none (.str "flatbuffers.table" 1407) none (.ref 755) .none)), #[]⟩
noncomputable def o755 (P : Params) : Obj := ⟨(.type "code"), none, (.fields #[(.str "Offset" 1433), (.str "Table.Offset" 1434), (.str "/claim/cut.py" 1435), (.int 461 0), (.int 2 0), (.int 0 0), (.int 0 0), (.int 3 0), (.ref 750), (.bool true), (.int 317 0), (.ref 751), .none, (.ref 752), (.ref 753), (.ref 754), (.int 1440 0), (.int 461 0), (.str "/claim/cut.py" 1441)]), #[]⟩
noncomputable def o763 (P : Params) : Obj := ⟨(.type "function"), none, (.func (fnOf "Indirect" "Table.Indirect" (dArgs (methD 44 3)) (dBody (methD 44 3)) (dScope (methD 44 3)) .none .none .none (.str "flatbuffers.table" 1407) none (.ref 762) .none)), #[]⟩
noncomputable def o770 (P : Params) : Obj := ⟨(.type "function"), none, (.func (fnOf "String" "Table.String" (dArgs (methD 44 4)) (dBody (methD 44 4)) (dScope (methD 44 4)) .none .none .none (.str "flatbuffers.table" 1407) none (.ref 769) .none)), #[]⟩
noncomputable def o777 (P : Params) : Obj := ⟨(.type "function"), none, (.func (fnOf "VectorLen" "Table.VectorLen" (dArgs (methD 44 5)) (dBody (methD 44 5)) (dScope (methD 44 5)) .none .none .none (.str "flatbuffers.table" 1407) none (.ref 776) .none)), #[]⟩
noncomputable def o776 (P : Params) : Obj := ⟨(.type "code"), none, (.fields #[(.str "VectorLen" 1459), (.str "Table.VectorLen" 1460), (.str "/claim/cut.py" 1461), (.int 474 0), (.int 2 0), (.int 0 0), (.int 0 0), (.int 3 0), (.ref 771), (.bool true), (.int 317 0), (.ref 772), .none, (.ref 773), (.ref 774), (.ref 775), (.int 1465 0), (.int 474 0), (.str "/claim/cut.py" 1466)]), #[]⟩
noncomputable def o784 (P : Params) : Obj := ⟨(.type "function"), none, (.func (fnOf "Vector" "Table.Vector" (dArgs (methD 44 6)) (dBody (methD 44 6)) (dScope (methD 44 6)) .none .none .none (.str "flatbuffers.table" 1407) none (.ref 783) .none)), #[]⟩
noncomputable def o783 (P : Params) : Obj := ⟨(.type "code"), none, (.fields #[(.str "Vector" 1468), (.str "Table.Vector" 1469), (.str "/claim/cut.py" 1470), (.int 481 0), (.int 2 0), (.int 0 0), (.int 0 0), (.int 3 0), (.ref 778), (.bool true), (.int 317 0), (.ref 779), .none, (.ref 780), (.ref 781), (.ref 782), (.int 1474 0), (.int 481 0), (.str "/claim/cut.py" 1475)]), #[]⟩
noncomputable def o791 (P : Params) : Obj := ⟨(.type "function"), none, (.func (fnOf "Union" "Table.Union" (dArgs (methD 44 7)) (dBody (methD 44 7)) (dScope (methD 44 7)) .none .none .none (.str "flatbuffers.table" 1407) none (.ref 790) .none)), #[]⟩
noncomputable def o798 (P : Params) : Obj := ⟨(.type "function"), none, (.func (fnOf "Get" "Table.Get" (dArgs (methD 44 8)) (dBody (methD 44 8)) (dScope (methD 44 8)) .none .none .none (.str "flatbuffers.table" 1407) none (.ref 797) .none)), #[]⟩
noncomputable def o797 (P : Params) : Obj := ⟨(.type "code"), none, (.fields #[(.str "Get" 1486), (.str "Table.Get" 1487), (.str "/claim/cut.py" 1488), (.int 491 0), (.int 3 0), (.int 0 0), (.int 0 0), (.int 3 0), (.ref 792), (.bool true), (.int 317 0), (.ref 793), .none, (.ref 794), (.ref 795), (.ref 796), (.int 1492 0), (.int 491 0), (.str "/claim/cut.py" 1493)]), #[]⟩
noncomputable def o805 (P : Params) : Obj := ⟨(.type "function"), none, (.func (fnOf "GetSlot" "Table.GetSlot" (dArgs (methD 44 9)) (dBody (methD 44 9)) (dScope (methD 44 9)) .none .none .none (.str "flatbuffers.table" 1407) none (.ref 804) .none)), #[]⟩
noncomputable def o812 (P : Params) : Obj := ⟨(.type "function"), none, (.func (fnOf "GetVOffsetTSlot" "Table.GetVOffsetTSlot" (dArgs (methD 44 10)) (dBody (methD 44 10)) (dScope (methD 44 10)) .none .none .none (.str "flatbuffers.table" 1407) none (.ref 811) .none)), #[]⟩
noncomputable def o813 (P : Params) : Obj := ⟨(.type "tuple"), none, (.seq #[(.str "Bytes" 1514), (.str "Pos" 1515)] 0), #[]⟩
noncomputable def o817 (P : Params) : Obj := ⟨(.type "member_descriptor"), none, (.fields #[(.str "Bytes" 1517), (.ref 816), (.builtin "proto.slot"), (.builtin "proto.slot#set"), (.int 1 0)]), #[]⟩
noncomputable def o818 (P : Params) : Obj := ⟨(.type "member_descriptor"), none, (.fields #[(.str "Pos" 1519), (.ref 816), (.builtin "proto.slot"), (.builtin "proto.slot#set"), (.int 0 0)]), #[]⟩
noncomputable def o49 (P : Params) : Obj := ⟨(.type "function"), none, (.func (fnOf "_wall" "_wall" (dArgs (topD 1)) (dBody (topD 1)) (dScope (topD 1)) .none .none .none (.str "__main__" 164) none (.ref 48) .none)), #[]⟩
noncomputable def o48 (P : Params) : Obj := ⟨(.type "code"), none, (.fields #[(.str "_wall" 323), (.str "_wall" 324), (.str "/claim/cut.py" 325), (.int 2 0), (.int 1 0), (.int 0 0), (.int 0 0), (.int 3 0), (.ref 43), (.bool true), (.int 317 0), (.ref 44), .none, (.ref 45), (.ref 46), (.ref 47), (.int 327 0), (.int 2 0), (.str "/claim/cut.py" 328)]), #[]⟩
noncomputable def o50 (P : Params) : Obj := ⟨(.type "tuple"), none, (.seq #[(.type "str")] 0), #[]⟩
noncomputable def o51 (P : Params) : Obj := ⟨(.type "tuple"), none, (.seq #[(.type "bytes"), (.type "bytearray")] 0), #[]⟩
noncomputable def o52 (P : Params) : Obj := ⟨(.type "_struct.Struct"), none, (.fields #[(.bytes #[60, 66] 335)]), #[]⟩
noncomputable def o53 (P : Params) : Obj := ⟨(.type "_struct.Struct"), none, (.fields #[(.bytes #[60, 72] 338)]), #[]⟩
noncomputable def o54 (P : Params) : Obj := ⟨(.type "_struct.Struct"), none, (.fields #[(.bytes #[60, 73] 341)]), #[]⟩
noncomputable def o55 (P : Params) : Obj := ⟨(.type "_struct.Struct"), none, (.fields #[(.bytes #[60, 81] 344)]), #[]⟩
noncomputable def o56 (P : Params) : Obj := ⟨(.type "_struct.Struct"), none, (.fields #[(.bytes #[60, 98] 347)]), #[]⟩
noncomputable def o57 (P : Params) : Obj := ⟨(.type "_struct.Struct"), none, (.fields #[(.bytes #[60, 104] 350)]), #[]⟩
noncomputable def o58 (P : Params) : Obj := ⟨(.type "_struct.Struct"), none, (.fields #[(.bytes #[60, 105] 353)]), #[]⟩
noncomputable def o59 (P : Params) : Obj := ⟨(.type "_struct.Struct"), none, (.fields #[(.bytes #[60, 113] 356)]), #[]⟩
noncomputable def o214 (P : Params) : Obj := ⟨(.type "function"), none, (.func (fnOf "enforce_number" "enforce_number" (dArgs (topD 27)) (dBody (topD 27)) (dScope (topD 27)) .none .none .none (.str "flatbuffers.number_types" 360) none (.ref 213) .none)), #[]⟩
noncomputable def o213 (P : Params) : Obj := ⟨(.type "code"), none, (.fields #[(.str "enforce_number" 694), (.str "enforce_number" 695), (.str "/claim/cut.py" 696), (.int 81 0), (.int 2 0), (.int 0 0), (.int 0 0), (.int 3 0), (.ref 208), (.bool true), (.int 317 0), (.ref 209), .none, (.ref 210), (.ref 211), (.ref 212), (.int 699 0), (.int 81 0), (.str "/claim/cut.py" 700)]), #[]⟩
noncomputable def o221 (P : Params) : Obj := ⟨(.type "function"), none, (.func (fnOf "Get" "Get" (dArgs (topD 30)) (dBody (topD 30)) (dScope (topD 30)) .none .none .none (.str "flatbuffers.encode" 702) none (.ref 220) .none)), #[]⟩
noncomputable def o220 (P : Params) : Obj := ⟨(.type "code"), none, (.fields #[(.str "Get" 706), (.str "Get" 707), (.str "/claim/cut.py" 708), (.int 88 0), (.int 3 0), (.int 0 0), (.int 0 0), (.int 3 0), (.ref 215), (.bool true), (.int 317 0), (.ref 216), .none, (.ref 217), (.ref 218), (.ref 219), (.int 712 0), (.int 88 0), (.str "/claim/cut.py" 713)]), #[]⟩
noncomputable def o228 (P : Params) : Obj := ⟨(.type "function"), none, (.func (fnOf "Write" "Write" (dArgs (topD 32)) (dBody (topD 32)) (dScope (topD 32)) .none .none .none (.str "flatbuffers.encode" 702) none (.ref 227) .none)), #[]⟩
noncomputable def o227 (P : Params) : Obj := ⟨(.type "code"), none, (.fields #[(.str "Write" 716), (.str "Write" 717), (.str "/claim/cut.py" 718), (.int 91 0), (.int 4 0), (.int 0 0), (.int 0 0), (.int 3 0), (.ref 222), (.bool true), (.int 317 0), (.ref 223), .none, (.ref 224), (.ref 225), (.ref 226), (.int 723 0), (.int 91 0), (.str "/claim/cut.py" 724)]), #[]⟩
noncomputable def o827 (P : Params) : Obj := ⟨(.type "function"), none, (.func (fnOf "_law_prepend" "_law_prepend" (dArgs (topD 46)) (dBody (topD 46)) (dScope (topD 46)) .none .none .none (.str "law_af0003_01" 1524) none (.ref 826) .none)), #[]⟩
noncomputable def o826 (P : Params) : Obj := ⟨(.type "code"), none, (.fields #[(.str "_law_prepend" 1526), (.str "_law_prepend" 1527), (.str "/claim/cut.py" 1528), (.int 501 0), (.int 3 0), (.int 0 0), (.int 0 0), (.int 3 0), (.ref 821), (.bool true), (.int 317 0), (.ref 822), .none, (.ref 823), (.ref 824), (.ref 825), (.int 1532 0), (.int 501 0), (.str "/claim/cut.py" 1533)]), #[]⟩
noncomputable def o834 (P : Params) : Obj := ⟨(.type "function"), none, (.func (fnOf "_law_got" "_law_got" (dArgs (topD 47)) (dBody (topD 47)) (dScope (topD 47)) .none .none .none (.str "law_af0003_01" 1524) none (.ref 833) .none)), #[]⟩
noncomputable def o833 (P : Params) : Obj := ⟨(.type "code"), none, (.fields #[(.str "_law_got" 1535), (.str "_law_got" 1536), (.str "/claim/cut.py" 1537), (.int 518 0), (.int 3 0), (.int 0 0), (.int 0 0), (.int 3 0), (.ref 828), (.bool true), (.int 317 0), (.ref 829), .none, (.ref 830), (.ref 831), (.ref 832), (.int 1541 0), (.int 518 0), (.str "/claim/cut.py" 1542)]), #[]⟩
noncomputable def o839 (P : Params) : Obj := ⟨(.type "function"), none, (.func (fnOf "_law_form" "_law_form" (dArgs (topD 48)) (dBody (topD 48)) (dScope (topD 48)) .none .none .none (.str "law_af0003_01" 1524) none (.ref 838) .none)), #[]⟩
noncomputable def o838 (P : Params) : Obj := ⟨(.type "code"), none, (.fields #[(.str "_law_form" 1544), (.str "_law_form" 1545), (.str "/claim/cut.py" 1546), (.int 534 0), (.int 1 0), (.int 0 0), (.int 0 0), (.int 3 0), (.ref 835), (.bool true), (.int 317 0), (.ref 836), .none, .none, .none, (.ref 837), (.int 1547 0), (.int 534 0), (.str "/claim/cut.py" 1548)]), #[]⟩
noncomputable def o846 (P : Params) : Obj := ⟨(.type "function"), none, (.func (fnOf "_law_worths" "_law_worths" (dArgs (topD 49)) (dBody (topD 49)) (dScope (topD 49)) .none .none .none (.str "law_af0003_01" 1524) none (.ref 845) .none)), #[]⟩
noncomputable def o845 (P : Params) : Obj := ⟨(.type "code"), none, (.fields #[(.str "_law_worths" 1550), (.str "_law_worths" 1551), (.str "/claim/cut.py" 1552), (.int 547 0), (.int 3 0), (.int 0 0), (.int 0 0), (.int 3 0), (.ref 840), (.bool true), (.int 317 0), (.ref 841), .none, (.ref 842), (.ref 843), (.ref 844), (.int 1560 0), (.int 547 0), (.str "/claim/cut.py" 1561)]), #[]⟩
noncomputable def o851 (P : Params) : Obj := ⟨(.type "function"), none, (.func (fnOf "_law_struct" "_law_struct" (dArgs (topD 50)) (dBody (topD 50)) (dScope (topD 50)) .none .none .none (.str "law_af0003_01" 1524) none (.ref 850) .none)), #[]⟩
noncomputable def o850 (P : Params) : Obj := ⟨(.type "code"), none, (.fields #[(.str "_law_struct" 1563), (.str "_law_struct" 1564), (.str "/claim/cut.py" 1565), (.int 554 0), (.int 3 0), (.int 0 0), (.int 0 0), (.int 3 0), (.ref 847), (.bool true), (.int 317 0), (.ref 848), .none, .none, .none, (.ref 849), (.int 1566 0), (.int 554 0), (.str "/claim/cut.py" 1567)]), #[]⟩
noncomputable def o858 (P : Params) : Obj := ⟨(.type "function"), none, (.func (fnOf "_law_row" "_law_row" (dArgs (topD 51)) (dBody (topD 51)) (dScope (topD 51)) .none .none .none (.str "law_af0003_01" 1524) none (.ref 857) .none)), #[]⟩
noncomputable def o857 (P : Params) : Obj := ⟨(.type "code"), none, (.fields #[(.str "_law_row" 1569), (.str "_law_row" 1570), (.str "/claim/cut.py" 1571), (.int 563 0), (.int 2 0), (.int 0 0), (.int 0 0), (.int 3 0), (.ref 852), (.bool true), (.int 317 0), (.ref 853), .none, (.ref 854), (.ref 855), (.ref 856), (.int 1576 0), (.int 563 0), (.str "/claim/cut.py" 1577)]), #[]⟩
noncomputable def o863 (P : Params) : Obj := ⟨(.type "function"), none, (.func (fnOf "_law_read" "_law_read" (dArgs (topD 52)) (dBody (topD 52)) (dScope (topD 52)) .none .none .none (.str "law_af0003_01" 1524) none (.ref 862) .none)), #[]⟩
noncomputable def o862 (P : Params) : Obj := ⟨(.type "code"), none, (.fields #[(.str "_law_read" 1579), (.str "_law_read" 1580), (.str "/claim/cut.py" 1581), (.int 571 0), (.int 2 0), (.int 0 0), (.int 0 0), (.int 3 0), (.ref 859), (.bool true), (.int 317 0), (.ref 860), .none, .none, .none, (.ref 861), (.int 1582 0), (.int 571 0), (.str "/claim/cut.py" 1583)]), #[]⟩
noncomputable def o868 (P : Params) : Obj := ⟨(.type "function"), none, (.func (fnOf "_law_struct_right" "_law_struct_right" (dArgs (topD 53)) (dBody (topD 53)) (dScope (topD 53)) .none .none .none (.str "law_af0003_01" 1524) none (.ref 867) .none)), #[]⟩
noncomputable def o867 (P : Params) : Obj := ⟨(.type "code"), none, (.fields #[(.str "_law_struct_right" 1585), (.str "_law_struct_right" 1586), (.str "/claim/cut.py" 1587), (.int 573 0), (.int 5 0), (.int 0 0), (.int 0 0), (.int 3 0), (.ref 864), (.bool true), (.int 317 0), (.ref 865), .none, .none, .none, (.ref 866), (.int 1588 0), (.int 573 0), (.str "/claim/cut.py" 1589)]), #[]⟩
noncomputable def o875 (P : Params) : Obj := ⟨(.type "function"), none, (.func (fnOf "_law_row_right" "_law_row_right" (dArgs (topD 54)) (dBody (topD 54)) (dScope (topD 54)) .none .none .none (.str "law_af0003_01" 1524) none (.ref 874) .none)), #[]⟩
noncomputable def o874 (P : Params) : Obj := ⟨(.type "code"), none, (.fields #[(.str "_law_row_right" 1591), (.str "_law_row_right" 1592), (.str "/claim/cut.py" 1593), (.int 582 0), (.int 4 0), (.int 0 0), (.int 0 0), (.int 3 0), (.ref 869), (.bool true), (.int 317 0), (.ref 870), .none, (.ref 871), (.ref 872), (.ref 873), (.int 1602 0), (.int 582 0), (.str "/claim/cut.py" 1603)]), #[]⟩
noncomputable def o880 (P : Params) : Obj := ⟨(.type "function"), none, (.func (fnOf "law" "law" (dArgs (topD 55)) (dBody (topD 55)) (dScope (topD 55)) .none .none .none (.str "law_af0003_01" 1524) none (.ref 879) .none)), #[]⟩
noncomputable def o879 (P : Params) : Obj := ⟨(.type "code"), none, (.fields #[(.str "law" 1605), (.str "law" 1606), (.str "/claim/cut.py" 1607), (.int 594 0), (.int 1 0), (.int 0 0), (.int 0 0), (.int 3 0), (.ref 876), (.bool true), (.int 317 0), (.ref 877), .none, .none, .none, (.ref 878), (.int 1608 0), (.int 594 0), (.str "/claim/cut.py" 1609)]), #[]⟩
noncomputable def frag (P : Params) : Frag := [(nat_lit 2, o2 P),
  (nat_lit 3, o3 P),
  (nat_lit 721, o721 P),
  (nat_lit 720, o720 P),
  (nat_lit 816, o816 P),
  (nat_lit 815, o815 P),
  (nat_lit 69, o69 P),
  (nat_lit 68, o68 P),
  (nat_lit 83, o83 P),
  (nat_lit 82, o82 P),
  (nat_lit 97, o97 P),
  (nat_lit 96, o96 P),
  (nat_lit 111, o111 P),
  (nat_lit 110, o110 P),
  (nat_lit 125, o125 P),
  (nat_lit 124, o124 P),
  (nat_lit 139, o139 P),
  (nat_lit 138, o138 P),
  (nat_lit 153, o153 P),
  (nat_lit 152, o152 P),
  (nat_lit 167, o167 P),
  (nat_lit 166, o166 P),
  (nat_lit 181, o181 P),
  (nat_lit 180, o180 P),
  (nat_lit 193, o193 P),
  (nat_lit 192, o192 P),
  (nat_lit 205, o205 P),
  (nat_lit 204, o204 P),
  (nat_lit 327, o327 P),
  (nat_lit 335, o335 P),
  (nat_lit 334, o334 P),
  (nat_lit 328, o328 P),
  (nat_lit 342, o342 P),
  (nat_lit 349, o349 P),
  (nat_lit 348, o348 P),
  (nat_lit 356, o356 P),
  (nat_lit 355, o355 P),
  (nat_lit 363, o363 P),
  (nat_lit 362, o362 P),
  (nat_lit 370, o370 P),
  (nat_lit 369, o369 P),
  (nat_lit 377, o377 P),
  (nat_lit 376, o376 P),
  (nat_lit 384, o384 P),
  (nat_lit 383, o383 P),
  (nat_lit 391, o391 P),
  (nat_lit 390, o390 P),
  (nat_lit 398, o398 P),
  (nat_lit 397, o397 P),
  (nat_lit 405, o405 P),
  (nat_lit 404, o404 P),
  (nat_lit 412, o412 P),
  (nat_lit 411, o411 P),
  (nat_lit 419, o419 P),
  (nat_lit 418, o418 P),
  (nat_lit 426, o426 P),
  (nat_lit 425, o425 P),
  (nat_lit 434, o434 P),
  (nat_lit 433, o433 P),
  (nat_lit 427, o427 P),
  (nat_lit 441, o441 P),
  (nat_lit 448, o448 P),
  (nat_lit 447, o447 P),
  (nat_lit 455, o455 P),
  (nat_lit 454, o454 P),
  (nat_lit 462, o462 P),
  (nat_lit 461, o461 P),
  (nat_lit 469, o469 P),
  (nat_lit 468, o468 P),
  (nat_lit 476, o476 P),
  (nat_lit 475, o475 P),
  (nat_lit 483, o483 P),
  (nat_lit 482, o482 P),
  (nat_lit 491, o491 P),
  (nat_lit 490, o490 P),
  (nat_lit 484, o484 P),
  (nat_lit 499, o499 P),
  (nat_lit 498, o498 P),
  (nat_lit 492, o492 P),
  (nat_lit 507, o507 P),
  (nat_lit 506, o506 P),
  (nat_lit 500, o500 P),
  (nat_lit 514, o514 P),
  (nat_lit 513, o513 P),
  (nat_lit 521, o521 P),
  (nat_lit 528, o528 P),
  (nat_lit 535, o535 P),
  (nat_lit 542, o542 P),
  (nat_lit 549, o549 P),
  (nat_lit 556, o556 P),
  (nat_lit 563, o563 P),
  (nat_lit 570, o570 P),
  (nat_lit 577, o577 P),
  (nat_lit 584, o584 P),
  (nat_lit 591, o591 P),
  (nat_lit 598, o598 P),
  (nat_lit 597, o597 P),
  (nat_lit 605, o605 P),
  (nat_lit 604, o604 P),
  (nat_lit 612, o612 P),
  (nat_lit 619, o619 P),
  (nat_lit 626, o626 P),
  (nat_lit 625, o625 P),
  (nat_lit 633, o633 P),
  (nat_lit 632, o632 P),
  (nat_lit 640, o640 P),
  (nat_lit 639, o639 P),
  (nat_lit 647, o647 P),
  (nat_lit 646, o646 P),
  (nat_lit 654, o654 P),
  (nat_lit 653, o653 P),
  (nat_lit 661, o661 P),
  (nat_lit 660, o660 P),
  (nat_lit 668, o668 P),
  (nat_lit 667, o667 P),
  (nat_lit 675, o675 P),
  (nat_lit 674, o674 P),
  (nat_lit 682, o682 P),
  (nat_lit 689, o689 P),
  (nat_lit 688, o688 P),
  (nat_lit 696, o696 P),
  (nat_lit 695, o695 P),
  (nat_lit 703, o703 P),
  (nat_lit 710, o710 P),
  (nat_lit 709, o709 P),
  (nat_lit 717, o717 P),
  (nat_lit 716, o716 P),
  (nat_lit 718, o718 P),
  (nat_lit 722, o722 P),
  (nat_lit 723, o723 P),
  (nat_lit 724, o724 P),
  (nat_lit 725, o725 P),
  (nat_lit 726, o726 P),
  (nat_lit 727, o727 P),
  (nat_lit 728, o728 P),
  (nat_lit 729, o729 P),
  (nat_lit 730, o730 P),
  (nat_lit 731, o731 P),
  (nat_lit 732, o732 P),
  (nat_lit 742, o742 P),
  (nat_lit 749, o749 P),
  (nat_lit 748, o748 P),
  (nat_lit 756, o756 P),
  (nat_lit 755, o755 P),
  (nat_lit 763, o763 P),
  (nat_lit 770, o770 P),
  (nat_lit 777, o777 P),
  (nat_lit 776, o776 P),
  (nat_lit 784, o784 P),
  (nat_lit 783, o783 P),
  (nat_lit 791, o791 P),
  (nat_lit 798, o798 P),
  (nat_lit 797, o797 P),
  (nat_lit 805, o805 P),
  (nat_lit 812, o812 P),
  (nat_lit 813, o813 P),
  (nat_lit 817, o817 P),
  (nat_lit 818, o818 P),
  (nat_lit 49, o49 P),
  (nat_lit 48, o48 P),
  (nat_lit 50, o50 P),
  (nat_lit 51, o51 P),
  (nat_lit 52, o52 P),
  (nat_lit 53, o53 P),
  (nat_lit 54, o54 P),
  (nat_lit 55, o55 P),
  (nat_lit 56, o56 P),
  (nat_lit 57, o57 P),
  (nat_lit 58, o58 P),
  (nat_lit 59, o59 P),
  (nat_lit 214, o214 P),
  (nat_lit 213, o213 P),
  (nat_lit 221, o221 P),
  (nat_lit 220, o220 P),
  (nat_lit 228, o228 P),
  (nat_lit 227, o227 P),
  (nat_lit 827, o827 P),
  (nat_lit 826, o826 P),
  (nat_lit 834, o834 P),
  (nat_lit 833, o833 P),
  (nat_lit 839, o839 P),
  (nat_lit 838, o838 P),
  (nat_lit 846, o846 P),
  (nat_lit 845, o845 P),
  (nat_lit 851, o851 P),
  (nat_lit 850, o850 P),
  (nat_lit 858, o858 P),
  (nat_lit 857, o857 P),
  (nat_lit 863, o863 P),
  (nat_lit 862, o862 P),
  (nat_lit 868, o868 P),
  (nat_lit 867, o867 P),
  (nat_lit 875, o875 P),
  (nat_lit 874, o874 P),
  (nat_lit 880, o880 P),
  (nat_lit 879, o879 P)]
noncomputable def fragAs : List Addr := [nat_lit 2, nat_lit 3, nat_lit 721, nat_lit 720, nat_lit 816, nat_lit 815, nat_lit 69, nat_lit 68, nat_lit 83, nat_lit 82, nat_lit 97, nat_lit 96, nat_lit 111, nat_lit 110, nat_lit 125, nat_lit 124, nat_lit 139, nat_lit 138, nat_lit 153, nat_lit 152, nat_lit 167, nat_lit 166, nat_lit 181, nat_lit 180, nat_lit 193, nat_lit 192, nat_lit 205, nat_lit 204, nat_lit 327, nat_lit 335, nat_lit 334, nat_lit 328, nat_lit 342, nat_lit 349, nat_lit 348, nat_lit 356, nat_lit 355, nat_lit 363, nat_lit 362, nat_lit 370, nat_lit 369, nat_lit 377, nat_lit 376, nat_lit 384, nat_lit 383, nat_lit 391, nat_lit 390, nat_lit 398, nat_lit 397, nat_lit 405, nat_lit 404, nat_lit 412, nat_lit 411, nat_lit 419, nat_lit 418, nat_lit 426, nat_lit 425, nat_lit 434, nat_lit 433, nat_lit 427, nat_lit 441, nat_lit 448, nat_lit 447, nat_lit 455, nat_lit 454, nat_lit 462, nat_lit 461, nat_lit 469, nat_lit 468, nat_lit 476, nat_lit 475, nat_lit 483, nat_lit 482, nat_lit 491, nat_lit 490, nat_lit 484, nat_lit 499, nat_lit 498, nat_lit 492, nat_lit 507, nat_lit 506, nat_lit 500, nat_lit 514, nat_lit 513, nat_lit 521, nat_lit 528, nat_lit 535, nat_lit 542, nat_lit 549, nat_lit 556, nat_lit 563, nat_lit 570, nat_lit 577, nat_lit 584, nat_lit 591, nat_lit 598, nat_lit 597, nat_lit 605, nat_lit 604, nat_lit 612, nat_lit 619, nat_lit 626, nat_lit 625, nat_lit 633, nat_lit 632, nat_lit 640, nat_lit 639, nat_lit 647, nat_lit 646, nat_lit 654, nat_lit 653, nat_lit 661, nat_lit 660, nat_lit 668, nat_lit 667, nat_lit 675, nat_lit 674, nat_lit 682, nat_lit 689, nat_lit 688, nat_lit 696, nat_lit 695, nat_lit 703, nat_lit 710, nat_lit 709, nat_lit 717, nat_lit 716, nat_lit 718, nat_lit 722, nat_lit 723, nat_lit 724, nat_lit 725, nat_lit 726, nat_lit 727, nat_lit 728, nat_lit 729, nat_lit 730, nat_lit 731, nat_lit 732, nat_lit 742, nat_lit 749, nat_lit 748, nat_lit 756, nat_lit 755, nat_lit 763, nat_lit 770, nat_lit 777, nat_lit 776, nat_lit 784, nat_lit 783, nat_lit 791, nat_lit 798, nat_lit 797, nat_lit 805, nat_lit 812, nat_lit 813, nat_lit 817, nat_lit 818, nat_lit 49, nat_lit 48, nat_lit 50, nat_lit 51, nat_lit 52, nat_lit 53, nat_lit 54, nat_lit 55, nat_lit 56, nat_lit 57, nat_lit 58, nat_lit 59, nat_lit 214, nat_lit 213, nat_lit 221, nat_lit 220, nat_lit 228, nat_lit 227, nat_lit 827, nat_lit 826, nat_lit 834, nat_lit 833, nat_lit 839, nat_lit 838, nat_lit 846, nat_lit 845, nat_lit 851, nat_lit 850, nat_lit 858, nat_lit 857, nat_lit 863, nat_lit 862, nat_lit 868, nat_lit 867, nat_lit 875, nat_lit 874, nat_lit 880, nat_lit 879]
noncomputable def q0 : Program := { pw with main := { pw.main with body := [topD 0, topD 55] } }
noncomputable def loose0 : List Str := [("_wall" : Str), ("string_types" : Str), ("binary_types" : Str), ("uint8" : Str), ("uint16" : Str), ("uint32" : Str), ("uint64" : Str), ("int8" : Str), ("int16" : Str), ("int32" : Str), ("int64" : Str), ("uoffset" : Str), ("soffset" : Str), ("Uint8Flags" : Str), ("Uint16Flags" : Str), ("Uint32Flags" : Str), ("Uint64Flags" : Str), ("Int8Flags" : Str), ("Int16Flags" : Str), ("Int32Flags" : Str), ("Int64Flags" : Str), ("SOffsetTFlags" : Str), ("UOffsetTFlags" : Str), ("VOffsetTFlags" : Str), ("enforce_number" : Str), ("FILE_IDENTIFIER_LENGTH" : Str), ("Get" : Str), ("Get_encode" : Str), ("Write" : Str), ("OffsetArithmeticError" : Str), ("IsNotNestedError" : Str), ("IsNestedError" : Str), ("StructIsNotInlineError" : Str), ("BuilderSizeError" : Str), ("BuilderNotFinishedError" : Str), ("EndVectorLengthMismatched" : Str), ("VtableMetadataFields" : Str), ("Builder" : Str), ("Table" : Str), ("_law_prepend" : Str), ("_law_got" : Str), ("_law_form" : Str), ("_law_worths" : Str), ("_law_struct" : Str), ("_law_row" : Str), ("_law_read" : Str), ("_law_struct_right" : Str), ("_law_row_right" : Str)]
noncomputable abbrev kH : Hook := kHook frag fragAs (fun _ => by kernel_rfl)
noncomputable abbrev Xt0 (s : Shared) : Bool := xlAt q0 [] s && recOk (PySem.Challenge.rw_af0003_01.row.toRowW).records s
theorem left0 : LeftO pw q0 loose0 Xt0 kH.obs kH.val 16000 := by
  refine left_of_run fun w => ?_
  unfold runOf
  rw [PySem.W.Fast.te10156331382660048174, PySem.W.Fast.te11892475500146522536, PySem.W.Fast.te14364793385576792824, PySem.W.Fast.te3805553451399329143, PySem.W.Fast.te14289696077712309145, PySem.W.Fast.te1435165496053646825, PySem.W.Fast.te10110043849684766642, PySem.W.Fast.te4187177175401517315, PySem.W.Fast.te8920871248978507458, PySem.W.Fast.te5923862056798008813]
  kernel_rfl
theorem fillK (P : Params) (h : PySem.Challenge.rw_af0003_01.Holds) : frag P = frag P := by
  revert h
  k_fill
  intro _
  rfl
abbrev TR (mg mb : Str → Option Value) (h : Heap) : Prop := TopRead q0 (looseW q0 loose0) mg mb h
abbrev KIn (w : World) (h : Heap) : Prop := (frag w.params).In h
structure Room (A : Around) (k : Nat) : Prop where
  depth : A.depth + k ≤ 600
  units : A.units + 3 * k ≤ 3000
  guards : A.guards = some []
  handled : A.handled = none
theorem Room.down {A : Around} {k : Nat} {env : Env} (r : Room A (k + 1)) : Room (A.deeper env) k :=
  ⟨by have := r.depth; show A.depth + 1 + k ≤ 600; omega, by have := r.units; show A.units + 3 + 3 * k ≤ 3000; omega, r.guards, r.handled⟩
theorem Room.lt {A : Around} {k : Nat} (r : Room A k) : A.depth < recursionLimit := by
  have := r.depth; show A.depth < 1000; omega
theorem Room.le {A : Around} {k j : Nat} (r : Room A k) (h : j ≤ k) : Room A j := ⟨by have := r.depth; omega, by have := r.units; omega, r.guards, r.handled⟩
section
variable {prog : Program} {w : World} {A : Around} {s : Shared} {h₀ : Heap} {L : Addr} {m : Str → Option Value} {news : List (Addr × Obj)} {K : Frag} {mg mb : Str → Option Value} {p : Program} {loose : List Str}
  {R : Result → Shared → Prop} {name qual : Str} {params : Arguments} {body : List Stmt} {scope : Scope} {dV kV doc pm cdv ct oc : Value} {an od : Option Addr} {osl : Array (Option Value)} {f : Addr} {args : Args} {binds : List (Str × Value)}
theorem ground1 (F : Fr h₀ L s.heap m) (N : News h₀ L s.heap news) : h₀.StaysIn (hideAll s.heap (news.map (·.1))) ∧
      ∀ v s', LeaveK h₀ L m (hideAll s.heap (news.map (·.1))) R v s' → R (.ok (.ret v)) s' := by
  have nm : ∀ b o, h₀.get? b = some o → b ∉ news.map (·.1) := fun b o e q => by
    obtain ⟨p, hp, rfl⟩ := List.mem_map.mp q
    rw [(N p hp).2.2] at e; cases e
  have st : h₀.StaysIn (hideAll s.heap (news.map (·.1))) := fun b o e => hideAll_get _ (F.keep b o e) (nm b o e)
  obtain ⟨oL, es, ep, hL, hLd, hLk, hLf⟩ := F.ns
  have nL : L ∉ news.map (·.1) := fun q => by
    obtain ⟨p, hp, e⟩ := List.mem_map.mp q
    exact (N p hp).2.1 e
  have hLg := hideAll_get (news.map (·.1)) hL nL
  refine ⟨st, fun v s' hl => ?_⟩
  obtain ⟨L', m', news', F', N', k⟩ := hl
  refine k ⟨⟨oL, es, ep, F'.keep L oL hLg, hLd, hLk, hLf⟩, fun b o e => F'.keep b o (st b o e), F.above⟩ fun p hp => ⟨(N' p hp).1, fun q => ?_, ?_⟩
  · have := (N' p hp).2.2; rw [q, hLg] at this; cases this
  · cases q : h₀.get? p.1 with
    | none => rfl
    | some o => have := (N' p hp).2.2; rw [st _ _ q] at this; cases this
end

abbrev bO (dx : Addr) (sl : Array (Option Value)) : Obj := ⟨.ref 721, some dx, .plain, sl⟩
abbrev baO (bs : Array UInt8) : Obj := ⟨.type "bytearray", none, .bytearray bs 0, #[]⟩
def slotOk (K : Frag) (C : Addr) (name : Str) (i : Nat) : Bool := plainGet K C name && isClsIn K C && (match findIn K (.ref C) name with
  | some (some (.ref p)) => specialIn K (.ref p) "__get__" == some (some (.builtin "member_descriptor.__get__")) && takesIn K (.ref p) == some true && slotIn K p C == some i &&
     findIn K (.ref C) "__setattr__" == some (some (.builtin "object.__setattr__")) && plainOver K C && takerIn K C name == some (some (.ref p)) && typeIn K (.ref p) == some (.type "member_descriptor")
  | _ => false)
theorem slotOk_of {K : Frag} {C : Addr} {name : Str} {i : Nat} (h : slotOk K C name i = true) : plainGet K C name = true ∧ isClsIn K C = true ∧ ∃ p, findIn K (.ref C) name = some (some (.ref p)) ∧ specialIn K (.ref p) "__get__" = some (some (.builtin "member_descriptor.__get__")) ∧
    takesIn K (.ref p) = some true ∧ slotIn K p C = some i ∧ findIn K (.ref C) "__setattr__" = some (some (.builtin "object.__setattr__")) ∧ plainOver K C = true ∧ takerIn K C name = some (some (.ref p)) ∧ typeIn K (.ref p) = some (.type "member_descriptor") := by
  unfold slotOk at h
  simp only [Bool.and_eq_true] at h
  obtain ⟨⟨h1, h2⟩, h3⟩ := h
  split at h3
  · rename_i p hp
    simp only [Bool.and_eq_true, beq_iff_eq] at h3
    obtain ⟨⟨⟨⟨⟨⟨a, b⟩, c⟩, d⟩, e⟩, f⟩, g⟩ := h3
    exact ⟨h1, h2, p, hp, a, b, c, d, e, f, g⟩
  · cases h3
section
variable {prog : Program} {w : World} {A : Around} {E : Value → Shared → Prop} {s : Shared} {h₀ : Heap} {L x C : Addr} {m : Str → Option Value} {news news' : List (Addr × Obj)} {K : Frag} {ox od ox' : Obj} {name : Str} {i : Nat} {v : Value}
theorem gSlot {expr : Bool} {Q : Value → Shared → Prop} (F : Fr h₀ L s.heap m) (X : K.In h₀) (I : InstAt s.heap x ox C (some od)) (ok : slotOk K C name i = true) (hv : (ox.slots[i]?).join = some v) (hh : handedIn v = true)
    (h : Q v { s with toks := s.toks + 1 }) : wpAny (model prog w) A (getAttr (.ref x) name expr) Q E s := by
  obtain ⟨h1, h2, p, hp, a, b, c, _⟩ := slotOk_of ok
  exact get_slot F X I h1 h2 hp a b c hv hh h
theorem sSlot {Q : Unit → Shared → Prop} (F : Fr h₀ L s.heap m) (X : K.In h₀) (N : News h₀ L s.heap news) (I : InstAt s.heap x ox C (some od)) (ok : slotOk K C name i = true) (hz : i < 1000)
    (e : { ox with slots := (ox.slots ++ Array.replicate (i + 1 - ox.slots.size) none).setIfInBounds i (some v) } = ox') (hf : ox'.isFreed = false) (U : Upd x ox ox' news news')
    (h : ∀ h', Fr h₀ L h' m → News h₀ L h' news' → Q () { s with heap := h', toks := s.toks + 1 }) : wpAny (model prog w) A (setAttr (.ref x) name v) Q E s := by
  obtain ⟨h1, h2, p, hp, a, b, c, d, e', f, g⟩ := slotOk_of ok
  exact set_slot F X N I d e' f g c hz e hf U h
end
theorem so_Bytes (P : Params) : slotOk (frag P) 721 "Bytes" 0 = true := by kernel_rfl
theorem so_head (P : Params) : slotOk (frag P) 721 "head" 4 = true := by kernel_rfl
theorem so_minalign (P : Params) : slotOk (frag P) 721 "minalign" 5 = true := by kernel_rfl
theorem so_nested (P : Params) : slotOk (frag P) 721 "nested" 6 = true := by kernel_rfl
/-- the builtin runs that would hold a bytearray's memory -/
def holders : List String := ["bytearray.__contains__", "bytearray.__mod__", "bytearray.__rmod__", "_struct.pack_into.held", "bytearray.find.held"] ++ PySem.Builtin.Bytes.decodersThatHold
def safe : PySem.Code → Bool
  | .builtin i _ => !holders.contains i
  | _ => true
def Safe (l : List (PySem.Code × Pos)) : Prop := ∀ x ∈ l, safe x.1 = true
theorem Safe.cons {c : PySem.Code} {p : Pos} {l : List (PySem.Code × Pos)} (h : safe c = true) (hl : Safe l) : Safe ((c, p) :: l) := fun x hx => by
  rcases List.mem_cons.mp hx with rfl | hx
  · exact h
  · exact hl x hx
def wpN {α : Type} (M : Model) (A : Around) (t : Sem α) (Q : α → Shared → Prop) (E : Value → Shared → Prop) (s : Shared) : Prop :=
  ∀ Γ p, Γ.In A → safe Γ.code = true → Safe Γ.below → wp M Γ t (fun a _ s' => Q a s') (fun e _ s' => E e s') p s
def codeN (M : Model) (A : Around) (c : PySem.Code) (R : Result → Shared → Prop) (s : Shared) : Prop :=
  ∀ Γ p, Γ.code = c → Γ.Below A → Safe Γ.below → wpCode M Γ R p s
section
variable {α β : Type} {M : Model} {A : Around} {E : Value → Shared → Prop} {s : Shared}
theorem N_any {t : Sem α} {Q : α → Shared → Prop} (h : wpAny M A t Q E s) : wpN M A t Q E s := fun Γ p hΓ _ _ => h Γ p hΓ
theorem codeN_any {c : PySem.Code} {R : Result → Shared → Prop} (h : codeAny M A c R s) : codeN M A c R s := fun Γ p hc hΓ _ => h Γ p hc hΓ
theorem N_mono {t : Sem α} {Q Q' : α → Shared → Prop} {E' : Value → Shared → Prop} (h : wpN M A t Q E s) (hQ : ∀ a s, Q a s → Q' a s) (hE : ∀ e s, E e s → E' e s) : wpN M A t Q' E' s :=
  fun Γ p hΓ h1 h2 => Sem.wp_mono M Γ t (fun a _ s => hQ a s) (fun e _ s => hE e s) p s (h Γ p hΓ h1 h2)
theorem codeN_mono {c : PySem.Code} {R R' : Result → Shared → Prop} (h : codeN M A c R s) (hR : ∀ r s, R r s → R' r s) : codeN M A c R' s :=
  fun Γ p hc hΓ h2 => wpCode_mono hR (h Γ p hc hΓ h2)
theorem N_bind {m : Sem α} {f : α → Sem β} {Q : β → Shared → Prop} (h : wpN M A m (fun a s' => wpN M A (f a) Q E s') E s) :
    wpN M A (m >>= f) Q E s := fun Γ p hΓ h1 h2 => by
  rw [Sem.wp_bind']
  exact Sem.wp_mono M Γ m (fun a p' s' h' => h' Γ p' hΓ h1 h2) (fun _ _ _ h' => h') p s (h Γ p hΓ h1 h2)
theorem N_pure {a : α} {Q : α → Shared → Prop} (h : Q a s) : wpN M A (pure a) Q E s := fun _ _ _ _ _ => h
theorem N_holding {vs : List Value} {m : Sem α} {Q : α → Shared → Prop} (h : wpN M A m Q E s) : wpN M A (holding vs m) Q E s :=
  fun Γ p hΓ h1 h2 => by rw [Sem.wp_holding]; exact h Γ p hΓ h1 h2
theorem N_standAt {pos : Pos} {Q : Unit → Shared → Prop} (h : Q () s) : wpN M A (standAt pos) Q E s := fun _ _ _ _ _ => h
theorem N_rule {tag : String} {Q : Unit → Shared → Prop} (h : Q () s) : wpN M A (rule tag) Q E s := fun _ _ _ _ _ => h
theorem N_onRaise {m : Sem α} {k : Value → Sem Unit} {Q : α → Shared → Prop}
    (h : wpN M A m Q (fun e s' => wpN M A (k e) (fun _ s'' => E e s'') E s') s) : wpN M A (m.onRaise k) Q E s := fun Γ p hΓ h1 h2 => by
  rw [Sem.wp_onRaise]
  exact Sem.wp_mono M Γ m (fun _ _ _ h' => h') (fun e p' s' h' => h' Γ p' hΓ h1 h2) p s (h Γ p hΓ h1 h2)
theorem N_of_eq {t : Sem α} {a : α} {Q : α → Shared → Prop} (e : t = pure a) (h : Q a s) : wpN M A t Q E s := by subst e; exact N_pure h
theorem N_run {c : PySem.Code} {h : Option Value} {Q : Flow → Shared → Prop}
    (hc : codeN M (A.mark h) c (fun r s' => match r with | .ok f => Q f s' | .error e => E e s') s) (hnb : h ≠ some byPass := by intro x; cases x) :
    wpN M A (run c h) Q E s :=
  fun Γ p hΓ h1 h2 => by rw [Sem.wp_run]; exact hc _ p rfl (hΓ.enter c h p hnb) (Safe.cons h1 h2)
theorem N_runValue {c : PySem.Code} {Q : Value → Shared → Prop}
    (hc : codeN M A c (fun r s' => match r with | .ok (.ret v) => Q v s' | .ok _ => False | .error e => E e s') s) :
    wpN M A (runValue c) Q E s := fun Γ p hΓ h1 h2 => by rw [Sem.wp_runValue]; exact hc _ p rfl (hΓ.enter c none p (by intro x; cases x)) (Safe.cons h1 h2)
theorem N_call {f : Value} {pos : List Value} {kw : List (Str × Value)} {Q : Value → Shared → Prop}
    (hc : codeN M A (.call f ⟨pos, kw⟩) (fun r s' => match r with | .ok (.ret v) => Q v s' | .ok _ => False | .error e => E e s') s) :
    wpN M A (call f pos kw) Q E s := N_runValue hc
theorem codeN_of_tree {c : PySem.Code} {R : Result → Shared → Prop} (hs : safe c = true)
    (h : wpN M (A.under c) (M.den c) (fun fin s' => match fin with | .done f => R (.ok f) s' | .again c' => c'.quiet = true ∧ codeN M A c' R s')
      (fun e s' => R (.error e) s') s) : codeN M A c R s := fun Γ p hc hΓ h2 => by
  rw [wpCode_iff_wp, hc]
  refine Sem.wp_mono M Γ _ (fun fin p' s' h' => ?_) (fun _ _ _ h' => h') p s (h Γ p (hc ▸ hΓ.in) (hc ▸ hs) h2)
  cases fin with
  | done f => exact h'
  | again c' => exact ⟨h'.1, h'.2 (Γ.goto c') p' rfl (hΓ.goto c') h2⟩
theorem codeN_loop {c : PySem.Code} {R : Result → Shared → Prop} (hs : safe c = true) (hq : c.quiet = true) (I : Nat → Shared → Prop)
    (turn : ∀ n s, I n s → wpN M (A.under c) (M.den c)
      (fun fin s' => match fin with | .done f => R (.ok f) s' | .again c' => (c' = c ∧ ∃ m, m < n ∧ I m s') ∨ (c'.quiet = true ∧ codeN M A c' R s')) (fun e s' => R (.error e) s') s)
    (n : Nat) (h : I n s) : codeN M A c R s := by
  induction n using Nat.strongRecOn generalizing s with
  | ind n ih =>
    refine codeN_of_tree hs (N_mono (turn n s h) (fun fin s' hf => ?_) fun _ _ h' => h')
    cases fin with
    | done f => exact hf
    | again c' =>
      rcases hf with ⟨rfl, m, hm, hI⟩ | hf
      · exact ⟨hq, ih m hm hI⟩
      · exact hf
theorem holders_dec {i : String} (h : holders.contains i = false) : PySem.Builtin.Bytes.decodersThatHold.contains i = false := by
  unfold holders at h
  rw [List.contains_eq_any_beq, List.any_append, Bool.or_eq_false_iff] at h
  rw [List.contains_eq_any_beq]
  exact h.2
theorem ne_of_safe {id x : String} {args : Args} (h : safe (.builtin id args) = true) (hx : holders.contains x = true) : ¬ id = x := by
  rintro rfl
  have : (!holders.contains id) = true := h
  rw [hx] at this; cases this
theorem exp_no {self : Value} {c : PySem.Code} {q : Pos} (h : safe c = true) : (PySem.Builtin.Bytes.exported.match_1 (fun _ => Bool) (c, q) (fun v _ _ _ => Builtin.Bytes.sameRef v self) (fun v _ _ _ => Builtin.Bytes.sameRef v self) (fun _ v _ _ _ => Builtin.Bytes.sameRef v self) (fun v _ _ _ => Builtin.Bytes.sameRef v self)
    (fun _ _ held _ _ => held.any (Builtin.Bytes.sameRef self)) (fun id v _ _ _ => Builtin.Bytes.sameRef v self && Builtin.Bytes.decodersThatHold.contains id) (fun _ => false)) = false := by
  cases c
  case builtin id args =>
    have n1 := ne_of_safe (x := "bytearray.__contains__") h (by decide)
    have n2 := ne_of_safe (x := "bytearray.__mod__") h (by decide)
    have n3 := ne_of_safe (x := "bytearray.__rmod__") h (by decide)
    have n4 := ne_of_safe (x := "_struct.pack_into.held") h (by decide)
    have n5 := ne_of_safe (x := "bytearray.find.held") h (by decide)
    have hd := holders_dec ((Bool.not_eq_true' _).mp h)
    obtain ⟨pos, kw⟩ := args
    delta PySem.Builtin.Bytes.exported.match_1
    refine (dif_neg n1).trans ((dif_neg n2).trans ((dif_neg n3).trans ((dif_neg n4).trans ((dif_neg n5).trans ?_))))
    cases pos with
    | nil => rfl
    | cons v t => exact (congrArg (Builtin.Bytes.sameRef v self && ·) hd).trans (Bool.and_false _)
  all_goals rfl
/-- no builtin of the stack holds this bytearray -/
theorem N_exported {v : Value} {Q : Bool → Shared → Prop} (h : Q false s) : wpN M A (PySem.Builtin.Bytes.exported v) Q E s := fun Γ p hΓ h1 h2 => by
  unfold PySem.Builtin.Bytes.exported
  rw [Sem.wp_bind']
  show Q (List.any ((Γ.code, p) :: Γ.below) _) s
  have hs := Safe.cons (p := p) h1 h2
  rw [List.any_eq_false.mpr fun x hx => by rw [show _ = _ from exp_no (q := x.2) (hs _ hx)]; exact Bool.false_ne_true]
  exact h
end
open PySem.Builtin
theorem bs_len : Slot "bytearray" "__len__" "bytearray.__len__" :=
  .of (owner := "bytearray") (n := "__len__") (by rw [typeLookup_type, builtinLookup_eq_fast]; kernel_rfl) (by decide +kernel) (by decide +kernel) (by decide +kernel)
    (by first | exact .inl (by decide +kernel) | exact .inr (by decide +kernel)) (by rw [isSubtype_type]; kernel_rfl)
theorem be_len : entryFor table "bytearray.__len__" = some Builtin.«bytearray.__len__» := by first | exact entryFor_of_tree (by kernel_rfl) | exact entryFor_of_fast (by kernel_rfl)
theorem ba_len (a : Value) : argsOk "bytearray.__len__" ⟨[a], []⟩ := by unfold argsOk; kernel_rfl
theorem bs_set : Slot "bytearray" "__setitem__" "bytearray.__setitem__" :=
  .of (owner := "bytearray") (n := "__setitem__") (by rw [typeLookup_type, builtinLookup_eq_fast]; kernel_rfl) (by decide +kernel) (by decide +kernel) (by decide +kernel)
    (by first | exact .inl (by decide +kernel) | exact .inr (by decide +kernel)) (by rw [isSubtype_type]; kernel_rfl)
theorem be_set : entryFor table "bytearray.__setitem__" = some Builtin.«bytearray.__setitem__» := by first | exact entryFor_of_tree (by kernel_rfl) | exact entryFor_of_fast (by kernel_rfl)
theorem ba_set (a b c : Value) : argsOk "bytearray.__setitem__" ⟨[a, b, c], []⟩ := by unfold argsOk; kernel_rfl
theorem bs_get : Slot "bytearray" "__getitem__" "bytearray.__getitem__" :=
  .of (owner := "bytearray") (n := "__getitem__") (by rw [typeLookup_type, builtinLookup_eq_fast]; kernel_rfl) (by decide +kernel) (by decide +kernel) (by decide +kernel)
    (by first | exact .inl (by decide +kernel) | exact .inr (by decide +kernel)) (by rw [isSubtype_type]; kernel_rfl)
theorem be_get : entryFor table "bytearray.__getitem__" = some Builtin.«bytearray.__getitem__» := by first | exact entryFor_of_tree (by kernel_rfl) | exact entryFor_of_fast (by kernel_rfl)
theorem ba_get (a b : Value) : argsOk "bytearray.__getitem__" ⟨[a, b], []⟩ := by unfold argsOk; kernel_rfl
def IsBa (h : Heap) (a : Addr) (b : Array UInt8) : Prop := h.get? a = some ⟨.type "bytearray", none, .bytearray b 0, #[]⟩
section
variable {prog : Program} {w : World} {A : Around} {E : Value → Shared → Prop} {s : Shared} {d : Addr} {b : Array UInt8}
theorem IsBa.type (h : IsBa s.heap d b) : s.TypeIs (.ref d) "bytearray" := ⟨_, h, rfl⟩
theorem len_ba {Q : Value → Shared → Prop} (hd : IsBa s.heap d b) (hz : b.size < 2 ^ 40) (h : Q (.int b.size (s.toks + 1)) { s with toks := s.toks + 1 + 1 }) : wpAny (model prog w) A (call (.builtin "len") [.ref d]) Q E s := by
  have hT := hd.type
  refine call_function_entry kind_len plain_len entry_len (args_len1 _) ?_
  unfold Builtin.«len»
  refine wpAny_bind (m := oneArg "len" _) (wpAny_pure ?_)
  refine wpAny_bind (m := callSpecial? (.ref d) (Str.ofString "__len__")) (wpAny_callSpecial?_slot (name := Str.ofString "__len__") hT bs_len
    (wpAny_call_entry bs_len hT be_len ?_ (ba_len _)))
  unfold Builtin.«bytearray.__len__»
  refine wpAny_bind (wpAny_pure ?_)
  unfold Bytes.payload Bytes.payload?
  refine wpAny_bind (wpAny_bind (wpAny_bind (wpAny_load hd (wpAny_pure (wpAny_pure ?_)))))
  refine wpAny_bind (wpAny_mkInt (wpAny_pure ⟨_, rfl, ?_⟩))
  refine wpAny_bind (wpAny_holding (wpAny_pure ?_))
  refine wpAny_bind (wpAny_letGo ?_)
  show wpAny _ _ (if ((b.size : Nat) : Int) < 0 then _ else _) _ _ _
  rw [if_neg (by omega)]
  show wpAny _ _ (if ((b.size : Nat) : Int) ≥ 2 ^ 63 then _ else _) _ _ _
  rw [if_neg (by omega)]
  exact wpAny_bind (wpAny_mkInt (wpAny_pure ⟨_, rfl, h⟩))
end
open PySem.Builtin
theorem bm_mro : mroOf (.type "bytearray") = pure [.type "bytearray", .type "object"] := by rw [mroOf_type]; kernel_rfl
theorem bl_new : typeLookup (.type "bytearray") "__new__" = pure (some (.builtin "bytearray.__new__")) := by rw [typeLookup_type, builtinLookup_eq_fast]; kernel_rfl
theorem bs_init : Slot "bytearray" "__init__" "bytearray.__init__" :=
  .of (owner := "bytearray") (n := "__init__") (by rw [typeLookup_type, builtinLookup_eq_fast]; kernel_rfl) (by decide +kernel) (by decide +kernel) (by decide +kernel)
    (by first | exact .inl (by decide +kernel) | exact .inr (by decide +kernel)) (by rw [isSubtype_type]; kernel_rfl)
theorem be_init : entryFor table "bytearray.__init__" = some Builtin.«bytearray.__init__» := by first | exact entryFor_of_tree (by kernel_rfl) | exact entryFor_of_fast (by kernel_rfl)
theorem bsub : isSubtype (.type "bytearray") (.type "bytearray") = pure true := by rw [isSubtype_type]; kernel_rfl
theorem b_called : TypeCalled "bytearray" "bytearray.__new__" "bytearray.__init__" :=
  ⟨by decide +kernel, by decide +kernel, ⟨_, _, bm_mro⟩, madeBy_type bm_mro bl_new (by decide +kernel), by decide +kernel, bsub, bs_init⟩
theorem b_typeCall (a : Value) : checkTypeCall "bytearray" ⟨[a], []⟩ = pure () := by kernel_rfl
theorem b_newCall (a : Value) : checkBuiltinCall "bytearray.__new__" ⟨[.type "bytearray", a], []⟩ = pure () := by kernel_rfl
theorem be_new : entryFor table "bytearray.__new__" = some Builtin.«list.__new__» := by rw [table_eq_tree]; kernel_rfl
theorem bl_rel : typeLookup (.type "bytearray") "__release_buffer__" = pure (some (.builtin "bytearray.__release_buffer__")) := by rw [typeLookup_type, builtinLookup_eq_fast]; kernel_rfl
theorem bl_buf : typeLookup (.type "bytearray") "__buffer__" = pure (some (.builtin "bytearray.__buffer__")) := by rw [typeLookup_type, builtinLookup_eq_fast]; kernel_rfl
theorem rel_ends : ("bytearray.__release_buffer__").endsWith ("." ++ "__release_buffer__") = true := by decide +kernel
theorem rel_drop : ("bytearray.__release_buffer__").dropRight ("__release_buffer__".length + 1) = "bytearray" := by decide +kernel
theorem b_plain_new : plainId "bytearray.__new__" = true := by decide +kernel
theorem ba_init (a b : Value) : argsOk "bytearray.__init__" ⟨[a, b], []⟩ := by unfold argsOk; kernel_rfl
set_option maxRecDepth 1000000 in
set_option maxHeartbeats 4000000 in
theorem b_owner : ("bytearray.__new__".splitOn ".__new__").headD "" = "bytearray" := by simp +decide [String.splitOn, String.splitOnAux]
section
variable {prog : Program} {w : World} {A : Around} {E : Value → Shared → Prop} {s : Shared}
theorem code_ba_new (a : Value) {Q₁ : Value → Shared → Prop}
    (h : Q₁ (.ref s.heap.objs.size) { s with heap := s.heap.push { cls := .type "bytearray", data := .bytearray #[] } }) :
    codeAny (model prog w) A (.call (.builtin "bytearray.__new__") ⟨[.type "bytearray", a], []⟩) (wants Q₁ E) s := by
  refine codeAny_of_tree ?_
  show wpAny _ A.in1 (do checkBuiltinCall "bytearray.__new__" ⟨[.type "bytearray", a], []⟩; again (.builtin "bytearray.__new__" ⟨[.type "bytearray", a], []⟩)) _ _ s
  refine wpAny_bind (wpAny_of_eq (b_newCall a) (wpAny_pure ⟨plainId_quiet b_plain_new _, codeAny_builtin_stack be_new rfl fun p st => ?_⟩))
  rw [Around.under_plainId b_plain_new _]
  have hsub := bsub
  have hown := b_owner
  obtain ⟨hp, g, d, tk, os⟩ := s
  simp only [hown]
  wp_walk
  exact h
theorem ba_ownRelease {d : Addr} {b : Array UInt8} {Q : Bool → Shared → Prop} (hd : IsBa s.heap d b) (h : Q false s) : wpAny (model prog w) A (Bytes.ownRelease (.ref d)) Q E s := by
  unfold Bytes.ownRelease Bytes.slotIsOwn
  refine wpAny_bind (wpAny_bind (wpAny_specialOf hd.type bl_rel ?_))
  dsimp only
  rw [if_neg (by rw [rel_ends]; decide), rel_drop]
  exact wpAny_isInstance hd.type bsub (wpAny_pure h)
end
section
variable {prog : Program} {w : World} {A : Around} {E : Value → Shared → Prop} {s : Shared}
theorem codeN_call_builtin {id : String} {args : Args} {b : Builtin} (hs : safe (.builtin id args) = true) (hq : plainId id = true) (hb : entryFor table id = some b)
    {R : Result → Shared → Prop}
    (h : wpAny (model prog w) A.in1 (checkBuiltinCall id args) (fun _ s₁ => wpN (model prog w) A.in1 (b args)
      (fun fin s' => match fin with | .done f => R (.ok f) s' | .again c' => c'.quiet = true ∧ codeN (model prog w) A c' R s') (fun e s' => R (.error e) s') s₁)
      (fun e s' => R (.error e) s') s) : codeN (model prog w) A (.call (.builtin id) args) R s := by
  refine codeN_of_tree rfl ?_
  show wpN _ A.in1 (do checkBuiltinCall id args; again (.builtin id args)) _ _ s
  refine N_bind (N_mono (N_any h) (fun _ s₁ h₁ => N_pure (And.intro (plainId_quiet hq args) (codeN_of_tree hs ?_))) fun _ _ h' => h')
  show wpN _ _ (match entryFor table id with | some b => b args | none => unsupported ((withoutEnding? id "#data").getD id)) _ _ s₁
  rw [hb, Around.under_plainId hq args]; exact h₁
theorem codeN_builtin {id : String} {args : Args} {b : Builtin} {R : Result → Shared → Prop} (hs : safe (.builtin id args) = true) (hb : entryFor table id = some b)
    (h : wpN (model prog w) (A.under (.builtin id args)) (b args)
      (fun fin s' => match fin with | .done f => R (.ok f) s' | .again c' => c'.quiet = true ∧ codeN (model prog w) A c' R s') (fun e s' => R (.error e) s') s) :
    codeN (model prog w) A (.builtin id args) R s := by
  refine codeN_of_tree hs ?_
  show wpN _ _ (match entryFor table id with | some b => b args | none => unsupported ((withoutEnding? id "#data").getD id)) _ _ s
  rw [hb]; exact h
theorem N_callType {T newId initId : String} {Bi : Builtin} {args : List Value} {Q Q₁ : Value → Shared → Prop} (ft : TypeCalled T newId initId) (hsafe : ∀ a, safe (.builtin initId a) = true)
    (hct : checkTypeCall T ⟨args, []⟩ = pure ()) (entryI : entryFor table initId = some Bi)
    (hnew : codeAny (model prog w) A.in1 (.call (.builtin newId) ⟨.type T :: args, []⟩) (wants Q₁ E) s)
    (hnext : ∀ obj s₁, Q₁ obj s₁ → s₁.TypeIs obj T ∧ argsOk initId ⟨obj :: args, []⟩ ∧
      wpN (model prog w) A.in1.in1 (Bi ⟨obj :: args, []⟩)
        (fun fin s' => ∃ v, fin = .done (.ret v) ∧ v = .none ∧ Q obj s') E s₁) :
    wpN (model prog w) A (call (.type T) args) Q E s := by
  obtain ⟨c, tl, hmro⟩ := ft.mro
  have hmade := ft.made
  have hsub := ft.sub
  have h1 := ft.notType
  have h2 := ft.canCreate
  refine N_call (codeN_of_tree rfl ?_)
  show wpN _ _ (callAny (.type T) _) _ _ _
  refine N_pure ⟨Code.quiet_builtin _ (by decide +kernel), codeN_builtin (show (!holders.contains "type.__call__") = true by decide) F.entry_type_call ?_⟩
  rw [Around.under_plain (weight_type_call_type T args []) rfl]
  dsimp only
  unfold Builtin.«type.__call__»
  dsimp only
  rw [h1]
  rw [if_neg Bool.false_ne_true, if_neg (by rw [h2]; exact Bool.false_ne_true)]
  refine N_bind (N_of_eq hct ?_)
  refine N_bind (N_of_eq hmro ?_)
  rw [if_neg (by exact Bool.false_ne_true)]
  refine N_bind (N_of_eq hmade ?_)
  refine N_bind (N_pure ?_)
  refine N_bind (N_holding (N_any (wpAny_call (codeAny_mono hnew fun r s₁ hr => ?_))))
  rcases r with e | (_ | _ | _ | obj) <;> first | exact hr | skip
  obtain ⟨hT, hok, hsi⟩ := hnext _ _ hr
  refine N_bind (N_any (wpAny_isInstance hT hsub ?_))
  rw [if_neg (by exact Bool.false_ne_true)]
  refine N_bind (N_holding ?_)
  simp only [callSpecial?]
  refine N_bind (N_any (wpAny_specialOf hT ft.init.lookup ?_))
  simp only [ft.init.bind]
  refine N_holding (N_bind (N_pure (N_bind (N_call ?_))))
  refine codeN_call_builtin (hsafe _) ft.init.plain entryI (ft.init.check _ _ _ _ _ _ _ _ hT hok (N_mono hsi (fun fin s' h' => ?_) fun _ _ x => x))
  obtain ⟨v, rfl, rfl, hq⟩ := h'
  refine N_pure ?_
  try dsimp only
  rw [if_neg (by decide)]
  exact N_pure hq
end
open PySem.Builtin
theorem tl_int_index : typeLookup (.type "int") "__index__" = pure (some (.builtin "int.__index__")) := by rw [typeLookup_type, builtinLookup_eq_fast]; kernel_rfl
theorem bind_1 (v : Value) : Bytes.bindOptional "bytearray.__init__" "bytearray" ["source", "encoding", "errors"] [v] [] = pure [some v, none, none] := by kernel_rfl
theorem IsBa.upd {h : Heap} {d : Addr} {b : Array UInt8} (hd : IsBa h d b) (f : Array UInt8 → Array UInt8) : IsBa (h.update d (Obj.mapBytearray f)) d (f b) :=
  Heap.get?_update_self (Obj.mapBytearray f) hd rfl
theorem IsBa.other {h : Heap} {d a : Addr} {o : Obj} (g : Obj → Obj) (hne : a ≠ d) (ha : h.get? a = some o) : (h.update d g).get? a = some o :=
  (Heap.get?_update_other _ _ (Ne.symm hne)).trans ha
section
variable {prog : Program} {w : World} {A : Around} {E : Value → Shared → Prop} {s : Shared} {d : Addr} {b : Array UInt8}
theorem aifN {α : Type} {c : Prop} [Decidable c] {x y : Sem α} {Q : α → Shared → Prop} (hc : ¬ c) (h : wpAny (model prog w) A y Q E s) : wpAny (model prog w) A (if c then x else y) Q E s := by rw [if_neg hc]; exact h
theorem aifP {α : Type} {c : Prop} [Decidable c] {x y : Sem α} {Q : α → Shared → Prop} (hc : c) (h : wpAny (model prog w) A x Q E s) : wpAny (model prog w) A (if c then x else y) Q E s := by rw [if_pos hc]; exact h
theorem nifN {α : Type} {c : Prop} [Decidable c] {x y : Sem α} {Q : α → Shared → Prop} (hc : ¬ c) (h : wpN (model prog w) A y Q E s) : wpN (model prog w) A (if c then x else y) Q E s := by rw [if_neg hc]; exact h
theorem nifP {α : Type} {c : Prop} [Decidable c] {x y : Sem α} {Q : α → Shared → Prop} (hc : c) (h : wpN (model prog w) A x Q E s) : wpN (model prog w) A (if c then x else y) Q E s := by rw [if_pos hc]; exact h
theorem write_ba {f : Array UInt8 → Array UInt8} {Q : Unit → Shared → Prop} (hd : IsBa s.heap d b) (hz : (f b).size ≤ sizeLine)
    (h : Q () { s with heap := s.heap.update d (Obj.mapBytearray f) }) : wpAny (model prog w) A (Bytes.write (.ref d) f) Q E s := by
  unfold Bytes.write updateBytearray
  refine wpAny_bind (wpAny_load hd ?_)
  dsimp only
  refine wpAny_bind (wpAny_update hd ?_)
  refine wpAny_lookBehind (s := { s with heap := s.heap.update d (Obj.mapBytearray f) }) (hd.upd f) ?_ h
  unfold Data.pastItsLine
  dsimp only
  rw [if_neg (by omega)]
theorem payload_ba {Q : Array UInt8 → Shared → Prop} (hd : IsBa s.heap d b) (h : Q b s) : wpAny (model prog w) A (Bytes.payload (.ref d)) Q E s := by
  unfold Bytes.payload Bytes.payload?
  exact wpAny_bind (wpAny_bind (wpAny_load hd (wpAny_pure (wpAny_pure h))))
theorem exportsOf_ba {Q : Nat → Shared → Prop} (hd : IsBa s.heap d b) (h : Q 0 s) : wpAny (model prog w) A (Bytes.exportsOf (.ref d)) Q E s := by
  unfold Bytes.exportsOf
  exact wpAny_bind (wpAny_load hd (wpAny_pure h))
set_option maxHeartbeats 4000000 in
theorem ba_init_int {n : Int} {t : Tok} {Q : Value → Shared → Prop} (h0 : 0 ≤ n) (hn : n ≤ 2 ^ 23) (hd : IsBa s.heap d b)
   (h : ∀ h', (∀ a o, a ≠ d → s.heap.get? a = some o → h'.get? a = some o) → IsBa h' d (Array.replicate n.toNat 0) → Q (.ref d) { s with heap := h' }) :
   wpN (model prog w) A (Builtin.«bytearray.__init__» ⟨[.ref d, .int n t], []⟩) (fun fin s' => ∃ v, fin = .done (.ret v) ∧ v = .none ∧ Q (.ref d) s') E s := by
  unfold Builtin.«bytearray.__init__»
  refine N_bind (N_any (ba_ownRelease hd ?_))
  refine nifN Bool.false_ne_true ?_
  refine N_bind (N_of_eq (bind_1 _) ?_)
  dsimp only
  refine N_bind (N_of_eq rfl ?_)
  refine N_bind (N_of_eq rfl ?_)
  refine N_bind (N_bind (N_exported (N_any (wpAny_bind (exportsOf_ba hd (wpAny_pure ?_))))))
  refine N_any ?_
  refine aifN (by decide) ?_
  have hz : sizeLine = 2 ^ 24 := rfl
  refine wpAny_bind (write_ba hd (by simp) ?_)
  have hd1 := hd.upd (fun _ => #[])
  refine wpAny_bind (wpAny_of_eq rfl ?_)
  refine aifN (by decide) ?_
  refine wpAny_bind ?_
  refine aifN (by decide) ?_
  refine aifN (by decide) ?_
  refine wpAny_pure ?_
  refine wpAny_bind (wpAny_specialOf (typeIs_int _ n t) tl_int_index ?_)
  refine aifP (by rfl) ?_
  refine wpAny_bind (wpAny_attempt (wpAny_of_eq rfl ?_))
  refine aifN (by simp only [Bytes.fitsIndex]; simp; omega) ?_
  refine aifN (by omega) ?_
  refine aifN (by simp; omega) ?_
  refine aifN (by simp only [Bytes.tooLong]; simp; omega) ?_
  refine wpAny_bind (wpAny_rule ?_)
  by_cases hn0 : n > 0
  · refine aifP hn0 ?_
    refine wpAny_bind (write_ba hd1 (by simp; omega) (wpAny_pure ⟨_, rfl, rfl, h _ (fun a o hne ha => IsBa.other _ hne (IsBa.other _ hne ha)) (hd1.upd _)⟩))
  · refine aifN hn0 ?_
    have : n = 0 := by omega
    subst this
    refine wpAny_pure ⟨_, rfl, rfl, h _ (fun a o hne ha => IsBa.other _ hne ha) hd1⟩
theorem ty_bytes (v : Array UInt8) (t : Tok) : s.TypeIs (.bytes v t) "bytes" := typeIs_bytes s v t
theorem tlb_index : typeLookup (.type "bytes") "__index__" = pure none := by rw [typeLookup_type, builtinLookup_eq_fast]; kernel_rfl
theorem tlb_buffer : typeLookup (.type "bytes") "__buffer__" = pure (some (.builtin "bytes.__buffer__")) := by rw [typeLookup_type, builtinLookup_eq_fast]; kernel_rfl
theorem tlb_rel : typeLookup (.type "bytes") "__release_buffer__" = pure none := by rw [typeLookup_type, builtinLookup_eq_fast]; kernel_rfl
theorem bsub_bytes : isSubtype (.type "bytes") (.type "bytes") = pure true := by rw [isSubtype_type]; kernel_rfl
theorem buf_ends : ("bytes.__buffer__").endsWith ("." ++ "__buffer__") = true := by decide +kernel
theorem buf_drop : ("bytes.__buffer__").dropRight ("__buffer__".length + 1) = "bytes" := by decide +kernel
theorem own_buffer {v : Array UInt8} {t : Tok} {Q : Bool → Shared → Prop} (h : Q true s) : wpAny (model prog w) A (Bytes.slotIsOwn (.bytes v t) "__buffer__") Q E s := by
  unfold Bytes.slotIsOwn
  refine wpAny_bind (wpAny_specialOf (ty_bytes v t) tlb_buffer ?_)
  dsimp only
  rw [if_neg (by rw [buf_ends]; decide), buf_drop]
  exact wpAny_isInstance (ty_bytes v t) bsub_bytes h
theorem own_rel {v : Array UInt8} {t : Tok} {Q : Bool → Shared → Prop} (h : Q false s) : wpAny (model prog w) A (Bytes.ownRelease (.bytes v t)) Q E s := by
  unfold Bytes.ownRelease Bytes.slotIsOwn
  refine wpAny_bind (wpAny_bind (wpAny_specialOf (ty_bytes v t) tlb_rel ?_))
  exact wpAny_pure (wpAny_pure h)
theorem buffer_bytes {i : String} {full : Bool} {v : Array UInt8} {t : Tok} {Q : Option (Array UInt8) → Shared → Prop} (h : Q (some v) s) : wpAny (model prog w) A (Bytes.buffer? i (.bytes v t) full) Q E s := by
  unfold Bytes.buffer?
  refine wpAny_bind (wpAny_specialOf (ty_bytes v t) tlb_buffer ?_)
  refine wpAny_bind (own_buffer ?_)
  rw [if_neg (by decide)]
  refine wpAny_bind (wpAny_specialOf (ty_bytes v t) tlb_buffer ?_)
  refine wpAny_bind (own_rel ?_)
  rw [if_neg (by decide)]
  exact wpAny_bind (wpAny_of_eq rfl (wpAny_pure h))
set_option maxHeartbeats 4000000 in
theorem ba_init_bytes {v : Array UInt8} {t : Tok} {Q : Value → Shared → Prop} (hn : v.size ≤ 2 ^ 23) (hd : IsBa s.heap d b)
   (h : ∀ h', (∀ a o, a ≠ d → s.heap.get? a = some o → h'.get? a = some o) → IsBa h' d v → Q (.ref d) { s with heap := h' }) :
   wpN (model prog w) A (Builtin.«bytearray.__init__» ⟨[.ref d, .bytes v t], []⟩) (fun fin s' => ∃ v, fin = .done (.ret v) ∧ v = .none ∧ Q (.ref d) s') E s := by
  unfold Builtin.«bytearray.__init__»
  refine N_bind (N_any (ba_ownRelease hd ?_))
  refine nifN Bool.false_ne_true ?_
  refine N_bind (N_of_eq (bind_1 _) ?_)
  dsimp only
  refine N_bind (N_of_eq rfl ?_)
  refine N_bind (N_of_eq rfl ?_)
  refine N_bind (N_bind (N_exported (N_any (wpAny_bind (exportsOf_ba hd (wpAny_pure ?_))))))
  refine N_any ?_
  refine aifN (by decide) ?_
  have hz : sizeLine = 2 ^ 24 := rfl
  refine wpAny_bind (write_ba hd (by simp) ?_)
  have hd1 := hd.upd (fun _ => #[])
  refine wpAny_bind (wpAny_of_eq rfl ?_)
  refine aifN (by decide) ?_
  refine wpAny_bind ?_
  refine aifN (by decide) ?_
  refine aifN (by decide) ?_
  refine wpAny_pure ?_
  refine wpAny_bind (wpAny_specialOf (ty_bytes v t) tlb_index ?_)
  refine aifN (by decide) ?_
  refine wpAny_bind (buffer_bytes ?_)
  refine wpAny_bind (wpAny_rule ?_)
  exact wpAny_bind (write_ba hd1 (by omega) (wpAny_pure ⟨_, rfl, rfl, h _ (fun a o hne ha => IsBa.other _ hne (IsBa.other _ hne ha)) (hd1.upd _)⟩))
theorem init_safe (a : Args) : safe (.builtin "bytearray.__init__" a) = true := show (!holders.contains "bytearray.__init__") = true by decide
theorem N_ba_int {n : Int} {t : Tok} {Q : Value → Shared → Prop} (h0 : 0 ≤ n) (hn : n ≤ 2 ^ 23)
   (h : ∀ h', (∀ a o, s.heap.get? a = some o → h'.get? a = some o) → IsBa h' s.heap.objs.size (Array.replicate n.toNat 0) → Q (.ref s.heap.objs.size) { s with heap := h' }) :
   wpN (model prog w) A (call (.type "bytearray") [.int n t]) Q E s := by
  refine N_callType (Q₁ := fun obj s₁ => obj = .ref s.heap.objs.size ∧ s₁ = { s with heap := s.heap.push { cls := .type "bytearray", data := .bytearray #[] } }) b_called init_safe (b_typeCall _) be_init (code_ba_new _ ⟨rfl, rfl⟩) ?_
  rintro obj s₁ ⟨rfl, rfl⟩
  have hS : IsBa (s.heap.push { cls := .type "bytearray", data := .bytearray #[] }) s.heap.objs.size #[] := Heap.get?_push_size _ rfl
  refine ⟨⟨_, hS, rfl⟩, ba_init _ _, ?_⟩
  exact ba_init_int h0 hn hS fun h' k hb => h h' (fun a o e => k a o (Nat.ne_of_lt (Heap.lt_size e)) (Heap.get?_push_of_some _ e)) hb
theorem N_ba_bytes {v : Array UInt8} {t : Tok} {Q : Value → Shared → Prop} (hn : v.size ≤ 2 ^ 23)
   (h : ∀ h', (∀ a o, s.heap.get? a = some o → h'.get? a = some o) → IsBa h' s.heap.objs.size v → Q (.ref s.heap.objs.size) { s with heap := h' }) :
   wpN (model prog w) A (call (.type "bytearray") [.bytes v t]) Q E s := by
  refine N_callType (Q₁ := fun obj s₁ => obj = .ref s.heap.objs.size ∧ s₁ = { s with heap := s.heap.push { cls := .type "bytearray", data := .bytearray #[] } }) b_called init_safe (b_typeCall _) be_init (code_ba_new _ ⟨rfl, rfl⟩) ?_
  rintro obj s₁ ⟨rfl, rfl⟩
  have hS : IsBa (s.heap.push { cls := .type "bytearray", data := .bytearray #[] }) s.heap.objs.size #[] := Heap.get?_push_size _ rfl
  refine ⟨⟨_, hS, rfl⟩, ba_init _ _, ?_⟩
  exact ba_init_bytes hn hS fun h' k hb => h h' (fun a o e => k a o (Nat.ne_of_lt (Heap.lt_size e)) (Heap.get?_push_of_some _ e)) hb
end
open PySem.Builtin
def IsSl (h : Heap) (a : Addr) (lo hi : Value) : Prop := ∃ o, h.get? a = some o ∧ o.cls = .type "slice" ∧ o.data = .fields #[lo, hi, .none]
theorem IsSl.type {s : Shared} {a : Addr} {lo hi : Value} (h : IsSl s.heap a lo hi) : s.TypeIs (.ref a) "slice" := let ⟨o, ho, hc, _⟩ := h; ⟨o, ho, hc⟩
theorem tls_index : typeLookup (.type "slice") "__index__" = pure none := by rw [typeLookup_type, builtinLookup_eq_fast]; kernel_rfl
section
variable {prog : Program} {w : World} {A : Around} {E : Value → Shared → Prop} {s : Shared} {d sl : Addr} {b : Array UInt8}
theorem field_sl {lo hi : Value} {i : Nat} {v : Value} {Q : Value → Shared → Prop} (hs : IsSl s.heap sl lo hi) (hv : (#[lo, hi, Value.none])[i]? = some v) (h : Q v s) : wpAny (model prog w) A (field (.ref sl) i) Q E s := by
  obtain ⟨o, ho, hc, hd⟩ := hs
  exact wpAny_field ho hd hv h
theorem subscript_sl {lo hi : Value} {Q : Option Int → Shared → Prop} (hs : IsSl s.heap sl lo hi) (h : Q none s) : wpAny (model prog w) A (Bytes.subscript? (.ref sl)) Q E s := by
  unfold Bytes.subscript?
  refine wpAny_bind (wpAny_specialOf hs.type tls_index ?_)
  rw [if_pos (by decide)]
  exact wpAny_pure h
theorem parts_sl {lo hi : Value} {k l : Option Int} {Q : Value × Value × Value → Shared → Prop} (hs : IsSl s.heap sl lo hi) (h1 : IsPart lo k) (h2 : IsPart hi l) (h : Q (rawPart k, rawPart l, .none) s) : wpAny (model prog w) A (Bytes.sliceParts (.ref sl)) Q E s := by
  unfold Bytes.sliceParts
  refine wpAny_bind (field_sl (i := 2) (v := .none) hs rfl ?_)
  refine wpAny_bind (aifP (by rfl) (wpAny_pure ?_))
  refine aifN (by decide) ?_
  refine wpAny_bind (field_sl (i := 0) hs rfl ?_)
  refine wpAny_bind (wpAny_mono (Q := fun r s' => r = rawPart k ∧ s' = s) ?p1 (fun r s' x => ?r1) fun _ _ x => x)
  case p1 =>
    cases h1 with
    | none => exact aifP (by rfl) (wpAny_pure ⟨rfl, rfl⟩)
    | int i t => exact aifN Bool.false_ne_true (wpAny_bind (wpAny_specialOf (T := "int") (typeIs_int s i t) tl_int_index (aifN Bool.false_ne_true (wpAny_bind (wpAny_of_eq (a := i) rfl (wpAny_pure ⟨rfl, rfl⟩))))))
  rw [x.1, x.2]
  refine wpAny_bind (field_sl (i := 1) hs rfl ?_)
  refine wpAny_bind (wpAny_mono (Q := fun r s' => r = rawPart l ∧ s' = s) ?p2 (fun r s' x => ?r2) fun _ _ x => x)
  case p2 =>
    cases h2 with
    | none => exact aifP (by rfl) (wpAny_pure ⟨rfl, rfl⟩)
    | int i t => exact aifN Bool.false_ne_true (wpAny_bind (wpAny_specialOf (T := "int") (typeIs_int _ i t) tl_int_index (aifN Bool.false_ne_true (wpAny_bind (wpAny_of_eq (a := i) rfl (wpAny_pure ⟨rfl, rfl⟩))))))
  rw [x.1, x.2]
  exact wpAny_pure h
/-- where a slice's part lies -/
def cut (k : Option Int) (dflt : Int) (n : Nat) : Int := match k with
  | none => dflt
  | some i => max 0 (min (if i < 0 then i + n else i) n)
theorem indices_sl {k l : Option Int} {n : Nat} : sliceIndices (rawPart k) (rawPart l) .none n = pure (cut k 0 n, cut l n n, 1) := by
  unfold sliceIndices
  cases k <;> cases l <;> rfl
/-- a stretch overwritten -/
def put (b v : Array UInt8) (lo hi : Int) : Array UInt8 := b.extract 0 lo.toNat ++ v ++ b.extract (max lo hi).toNat b.size
set_option maxHeartbeats 4000000 in
theorem set_ba_ba {d2 : Addr} {v : Array UInt8} {lo hi : Value} {k l : Option Int} {Q : Unit → Shared → Prop} (hd : IsBa s.heap d b) (hd2 : IsBa s.heap d2 v) (hne : d ≠ d2) (hs : IsSl s.heap sl lo hi) (h1 : IsPart lo k) (h2 : IsPart hi l)
    (hv : (v.size : Int) = max (cut k 0 b.size) (cut l b.size b.size) - cut k 0 b.size) (hz : (put b v (cut k 0 b.size) (cut l b.size b.size)).size ≤ sizeLine)
    (h : ∀ h', (∀ a o, a ≠ d → s.heap.get? a = some o → h'.get? a = some o) → IsBa h' d (put b v (cut k 0 b.size) (cut l b.size b.size)) → Q () { s with heap := h' }) :
    wpAny (model prog w) A (setItem (.ref d) (.ref sl) (.ref d2)) Q E s := by
  unfold setItem
  refine wpAny_holding ?_
  refine wpAny_bind (wpAny_sequenceKey hd.type (by decide) ?_)
  refine wpAny_bind (wpAny_callSpecial?_slot (name := Str.ofString "__setitem__") hd.type bs_set (wpAny_call_entry bs_set hd.type be_set ?_ (ba_set _ _ _)))
  unfold Builtin.«bytearray.__setitem__»
  dsimp only
  rw [if_neg (by decide)]
  refine wpAny_bind (subscript_sl hs ?_)
  dsimp only
  refine wpAny_bind (wpAny_typeOf hs.type ?_)
  rw [if_neg (by decide)]
  refine wpAny_bind (parts_sl hs h1 h2 ?_)
  rw [if_neg (by simp [Bytes.sameRef, hne])]
  refine wpAny_bind (wpAny_isInstance hd2.type bsub ?_)
  dsimp only [Bool.not_true]
  rw [if_neg (by decide)]
  refine wpAny_bind (payload_ba hd2 ?_)
  refine wpAny_bind (payload_ba hd ?_)
  refine wpAny_bind (wpAny_of_eq indices_sl ?_)
  dsimp only
  rw [if_pos (by decide)]
  refine wpAny_bind (wpAny_rule ?_)
  rw [if_neg (by rw [hv]; simp)]
  exact wpAny_bind (write_ba hd hz (wpAny_pure ⟨_, rfl, wpAny_pure (h _ (fun a o hn ha => IsBa.other _ hn ha) (hd.upd _))⟩))
theorem tlb_int : typeLookup (.type "bytes") "__int__" = pure none := by rw [typeLookup_type, builtinLookup_eq_fast]; kernel_rfl
theorem tlb_float : typeLookup (.type "bytes") "__float__" = pure none := by rw [typeLookup_type, builtinLookup_eq_fast]; kernel_rfl
theorem bsub_bc : isSubtype (.type "bytes") (.type "complex") = pure false := by rw [isSubtype_type]; kernel_rfl
theorem bsub_bb : isSubtype (.type "bytes") (.type "bytearray") = pure false := by rw [isSubtype_type]; kernel_rfl
theorem set_safe (a : Args) : safe (.builtin "bytearray.__setitem__" a) = true := show (!holders.contains "bytearray.__setitem__") = true by decide
theorem IsSl.keeps {h h' : Heap} {a : Addr} {lo hi : Value} (x : IsSl h a lo hi) (k : ∀ a o, h.get? a = some o → h'.get? a = some o) : IsSl h' a lo hi := let ⟨o, ho, r⟩ := x; ⟨o, k _ _ ho, r⟩
set_option maxHeartbeats 4000000 in
theorem set_ba_bytes {t : Tok} {v : Array UInt8} {lo hi : Value} {k l : Option Int} {Q : Unit → Shared → Prop} (hd : IsBa s.heap d b) (hs : IsSl s.heap sl lo hi) (h1 : IsPart lo k) (h2 : IsPart hi l) (hvz : v.size ≤ 2 ^ 23)
    (hv : (v.size : Int) = max (cut k 0 b.size) (cut l b.size b.size) - cut k 0 b.size) (hz : (put b v (cut k 0 b.size) (cut l b.size b.size)).size ≤ sizeLine)
    (h : ∀ h', (∀ a o, a ≠ d → s.heap.get? a = some o → h'.get? a = some o) → IsBa h' d (put b v (cut k 0 b.size) (cut l b.size b.size)) → Q () { s with heap := h' }) :
    wpN (model prog w) A (setItem (.ref d) (.ref sl) (.bytes v t)) Q E s := by
  unfold setItem
  refine N_holding ?_
  refine N_bind (N_any (wpAny_sequenceKey hd.type (by decide) ?_))
  refine N_bind ?_
  simp only [callSpecial?]
  refine N_bind (N_any (wpAny_specialOf hd.type bs_set.lookup ?_))
  simp only [bs_set.bind]
  refine N_holding (N_bind (N_pure (N_bind (N_call ?_))))
  refine codeN_call_builtin (set_safe _) bs_set.plain be_set (bs_set.check _ _ _ _ _ _ _ _ hd.type (ba_set _ _ _) ?_)
  unfold Builtin.«bytearray.__setitem__»
  dsimp only [List.cons_append, List.nil_append]
  rw [if_neg (by decide)]
  refine N_bind (N_any (subscript_sl hs ?_))
  dsimp only
  refine N_bind (N_any (wpAny_typeOf hs.type ?_))
  rw [if_neg (by decide)]
  refine N_bind (N_any (parts_sl hs h1 h2 ?_))
  rw [if_neg (by simp [Bytes.sameRef])]
  refine N_bind (N_any (wpAny_isInstance (ty_bytes v t) bsub_bb ?_))
  dsimp only [Bool.not_false]
  rw [if_pos (by decide)]
  refine N_bind (N_bind (N_any (wpAny_bind (wpAny_specialOf (ty_bytes v t) tlb_index (wpAny_pure ?_)))))
  refine N_bind (N_any (wpAny_bind (wpAny_specialOf (ty_bytes v t) tlb_int (wpAny_pure ?_))))
  refine N_bind (N_any (wpAny_bind (wpAny_specialOf (ty_bytes v t) tlb_float (wpAny_pure ?_))))
  refine N_any (wpAny_isInstance (ty_bytes v t) bsub_bc ?_)
  refine N_bind (N_of_eq (a := none) rfl ?_)
  rw [if_neg (by decide)]
  refine N_bind (N_rule ?_)
  refine N_bind (N_ba_bytes hvz fun h' kp hb => ?_)
  have hd' : IsBa h' d b := kp _ _ hd
  have hs' : IsSl h' sl lo hi := hs.keeps kp
  refine N_any ?_
  refine wpAny_bind (wpAny_holding (parts_sl hs' h1 h2 ?_))
  refine wpAny_bind (payload_ba hb ?_)
  refine wpAny_bind (payload_ba hd' ?_)
  refine wpAny_bind (wpAny_of_eq indices_sl ?_)
  dsimp only
  rw [if_pos (by decide)]
  refine wpAny_bind (wpAny_rule ?_)
  rw [if_neg (by rw [hv]; simp)]
  exact wpAny_bind (write_ba hd' hz (wpAny_pure (N_pure (N_pure (h _ (fun a o hn ha => IsBa.other _ hn (kp _ _ ha)) (hd'.upd _))))))
end
open PySem.Builtin
theorem fm_map {α β : Type} {f : α → Option β} {g : α → β} : ∀ {l : List α}, (∀ x ∈ l, f x = some (g x)) → l.filterMap f = l.map g
  | [], _ => rfl
  | x :: r, h => by
    rw [List.filterMap_cons, h x (.head _), List.map_cons, fm_map fun y hy => h y (.tail _ hy)]
theorem sliced_one (b : Array UInt8) (lo hi : Int) (h0 : 0 ≤ lo) (h1 : lo ≤ b.size) (h2 : hi ≤ b.size) : Bytes.sliced b lo hi 1 = b.extract lo.toNat hi.toNat := by
  unfold Bytes.sliced sliceRange
  apply Array.ext'
  by_cases hlt : lo < hi
  · simp only [gt_iff_lt, Int.zero_lt_one, if_true, hlt, Array.toList_extract, List.extract_eq_take_drop]
    rw [List.filterMap_map]
    have e : ((hi - lo + 1 - 1) / 1).toNat = hi.toNat - lo.toNat := by rw [Int.ediv_one]; omega
    rw [e]
    apply List.ext_getElem?
    intro i
    rw [List.getElem?_take, List.getElem?_drop]
    have key : (List.range (hi.toNat - lo.toNat)).filterMap ((fun x => b[x]?) ∘ fun k : Nat => (lo + 1 * (k : Int)).toNat) = (List.range (hi.toNat - lo.toNat)).map fun k => b.toList.getD (lo.toNat + k) 0 := by
      apply fm_map
      intro x hx
      have hx' := List.mem_range.mp hx
      have e2 : (lo + 1 * (x : Int)).toNat = lo.toNat + x := by omega
      simp only [Function.comp, e2]
      have hs : lo.toNat + x < b.size := by omega
      rw [Array.getElem?_eq_getElem hs]
      simp [hs, List.getD]
    rw [key, List.getElem?_map]
    by_cases hi' : i < hi.toNat - lo.toNat
    · rw [List.getElem?_range hi', if_pos hi']
      have hs : lo.toNat + i < b.toList.length := by simp; omega
      simp only [Option.map_some]
      rw [List.getElem?_eq_getElem hs, List.getD, List.getElem?_eq_getElem hs]; rfl
    · rw [List.getElem?_eq_none (by simp; omega), if_neg hi']; rfl
  · simp only [gt_iff_lt, Int.zero_lt_one, if_true, hlt, if_false]
    have : hi.toNat ≤ lo.toNat := by omega
    simp [Array.extract_eq_empty_of_le]
    omega
section
variable {prog : Program} {w : World} {A : Around} {E : Value → Shared → Prop} {s : Shared} {d sl : Addr} {b : Array UInt8}
theorem get_ba_int {i : Int} {t : Tok} {Q : Value → Shared → Prop} (hd : IsBa s.heap d b) (h0 : 0 ≤ i) (h1 : i < b.size) (hz : b.size ≤ 2 ^ 40)
    (h : Q (.int (b.getD i.toNat 0).toNat s.toks) { s with toks := s.toks + 1 }) : wpAny (model prog w) A (getItem (.ref d) (.int i t)) Q E s := by
  unfold getItem
  refine wpAny_holding ?_
  refine wpAny_bind (wpAny_sequenceKey hd.type (by decide) ?_)
  refine wpAny_bind (wpAny_callSpecial?_slot (name := Str.ofString "__getitem__") hd.type bs_get (wpAny_call_entry bs_get hd.type be_get ?_ (ba_get _ _)))
  unfold Builtin.«bytearray.__getitem__»
  refine wpAny_bind (wpAny_pure ?_)
  dsimp only
  unfold Bytes.subscript?
  refine wpAny_bind (wpAny_bind (wpAny_specialOf (typeIs_int s i t) tl_int_index ?_))
  rw [if_neg (by decide)]
  refine wpAny_bind (wpAny_of_eq (a := i) rfl ?_)
  rw [if_neg (by simp only [Bytes.fitsIndex]; simp; omega)]
  refine wpAny_pure ?_
  refine wpAny_bind (payload_ba hd ?_)
  have e : seqIndex? i b.size = some i.toNat := by unfold seqIndex?; simp; omega
  have hs : i.toNat < b.size := by omega
  rw [e, Option.bind_some, Array.getElem?_eq_getElem hs]
  refine wpAny_bind (wpAny_mkInt (wpAny_pure ⟨_, rfl, wpAny_pure ?_⟩))
  have e3 : b.getD i.toNat 0 = b[i.toNat] := by simp [hs]
  rw [← e3]
  exact h
theorem get_ba_sl {lo hi : Value} {k l : Option Int} {Q : Value → Shared → Prop} (hd : IsBa s.heap d b) (hs : IsSl s.heap sl lo hi) (h1 : IsPart lo k) (h2 : IsPart hi l) (hz : b.size ≤ sizeLine)
    (h : Q (.ref s.heap.objs.size) { s with heap := s.heap.push { cls := .type "bytearray", data := .bytearray (b.extract (cut k 0 b.size).toNat (cut l b.size b.size).toNat) } }) : wpAny (model prog w) A (getItem (.ref d) (.ref sl)) Q E s := by
  unfold getItem
  refine wpAny_holding ?_
  refine wpAny_bind (wpAny_sequenceKey hd.type (by decide) ?_)
  refine wpAny_bind (wpAny_callSpecial?_slot (name := Str.ofString "__getitem__") hd.type bs_get (wpAny_call_entry bs_get hd.type be_get ?_ (ba_get _ _)))
  unfold Builtin.«bytearray.__getitem__»
  refine wpAny_bind (wpAny_pure ?_)
  dsimp only
  refine wpAny_bind (subscript_sl hs ?_)
  dsimp only
  refine wpAny_bind (wpAny_typeOf hs.type ?_)
  rw [if_neg (by decide)]
  refine wpAny_bind (parts_sl hs h1 h2 ?_)
  dsimp only
  refine wpAny_bind (payload_ba hd ?_)
  refine wpAny_bind (wpAny_of_eq indices_sl ?_)
  dsimp only
  have e := sliced_one b (cut k 0 b.size) (cut l b.size b.size) (by unfold cut; split <;> omega) (by unfold cut; split <;> omega) (by unfold cut; split <;> omega)
  rw [e]
  unfold Bytes.newBytearray
  refine wpAny_bind (wpAny_newObj_type ?_ ?_)
  · exact wpAny_pure ⟨_, rfl, wpAny_pure h⟩
  · show (b.extract _ _).size ≤ sizeLine
    rw [Array.size_extract]; omega
end
open PySem.Builtin
def fm (ch : Char) (w : Nat) : Struct.Format := ⟨false, false, [⟨ch, 1, 0, w⟩], w, 1⟩
theorem parse_B : Struct.parse #[60, 66] = pure (fm 'B' 1) := by kernel_rfl
theorem parse_H : Struct.parse #[60, 72] = pure (fm 'H' 2) := by kernel_rfl
theorem parse_I : Struct.parse #[60, 73] = pure (fm 'I' 4) := by kernel_rfl
theorem parse_Q : Struct.parse #[60, 81] = pure (fm 'Q' 8) := by kernel_rfl
theorem parse_b : Struct.parse #[60, 98] = pure (fm 'b' 1) := by kernel_rfl
theorem parse_h : Struct.parse #[60, 104] = pure (fm 'h' 2) := by kernel_rfl
theorem parse_i : Struct.parse #[60, 105] = pure (fm 'i' 4) := by kernel_rfl
theorem parse_q : Struct.parse #[60, 113] = pure (fm 'q' 8) := by kernel_rfl
theorem ss_pack : Slot "_struct.Struct" "pack_into" "_struct.Struct.pack_into" :=
  .of (owner := "_struct.Struct") (n := "pack_into") (by rw [typeLookup_type, builtinLookup_eq_fast]; kernel_rfl) (by decide +kernel) (by decide +kernel) (by decide +kernel)
    (by first | exact .inl (by decide +kernel) | exact .inr (by decide +kernel)) (by rw [isSubtype_type]; kernel_rfl)
theorem ss_unpack : Slot "_struct.Struct" "unpack_from" "_struct.Struct.unpack_from" :=
  .of (owner := "_struct.Struct") (n := "unpack_from") (by rw [typeLookup_type, builtinLookup_eq_fast]; kernel_rfl) (by decide +kernel) (by decide +kernel) (by decide +kernel)
    (by first | exact .inl (by decide +kernel) | exact .inr (by decide +kernel)) (by rw [isSubtype_type]; kernel_rfl)
theorem es_pack : entryFor table "_struct.Struct.pack_into" = some Builtin.«_struct.Struct.pack_into» := by first | exact entryFor_of_tree (by kernel_rfl) | exact entryFor_of_fast (by kernel_rfl)
theorem es_held : entryFor table "_struct.pack_into.held" = some Builtin.«_struct.pack_into.held» := by first | exact entryFor_of_tree (by kernel_rfl) | exact entryFor_of_fast (by kernel_rfl)
theorem es_unpack : entryFor table "_struct.Struct.unpack_from" = some Builtin.«_struct.Struct.unpack_from» := by first | exact entryFor_of_tree (by kernel_rfl) | exact entryFor_of_fast (by kernel_rfl)
theorem as_pack (a b c d : Value) : argsOk "_struct.Struct.pack_into" ⟨[a, b, c, d], []⟩ := by unfold argsOk; kernel_rfl
theorem as_unpack (a b c : Value) : argsOk "_struct.Struct.unpack_from" ⟨[a, b, c], []⟩ := by unfold argsOk; kernel_rfl
def IsSt (h : Heap) (a : Addr) (f : Array UInt8) : Prop := ∃ t, h.get? a = some ⟨.type "_struct.Struct", none, .fields #[.bytes f t], #[]⟩
theorem IsSt.type {s : Shared} {a : Addr} {f : Array UInt8} (h : IsSt s.heap a f) : s.TypeIs (.ref a) "_struct.Struct" := let ⟨t, ho⟩ := h; ⟨_, ho, rfl⟩

/-- raw laid from place p on -/
def plc (out : Array UInt8) (p : Nat) (raw : Array UInt8) : Array UInt8 := raw.toList.zipIdx.foldl (fun out (c, k) => out.setIfInBounds (p + k) c) out
theorem fold_get (p : Nat) : ∀ (l : List UInt8) (n : Nat) (out : Array UInt8) (j : Nat), p + n + l.length ≤ out.size →
    ((l.zipIdx n).foldl (fun (out : Array UInt8) (x : UInt8 × Nat) => out.setIfInBounds (p + x.2) x.1) out)[j]? = if p + n ≤ j ∧ j < p + n + l.length then l[j - (p + n)]? else out[j]?
  | [], n, out, j, _ => by
    rw [if_neg (by simp only [List.length_nil]; omega)]; rfl
  | c :: r, n, out, j, h => by
    rw [List.zipIdx_cons, List.foldl_cons]
    rw [fold_get p r (n + 1) _ j (by rw [Array.size_setIfInBounds]; rw [List.length_cons] at h; omega)]
    rw [List.length_cons] at *
    rw [Array.getElem?_setIfInBounds]
    by_cases h1 : j = p + n
    · subst h1
      rw [if_neg (by omega), if_pos rfl, if_pos (by omega), if_pos (by omega)]
      simp
    · by_cases h2 : p + (n + 1) ≤ j ∧ j < p + (n + 1) + r.length
      · rw [if_pos h2, if_pos (by omega)]
        rw [show j - (p + n) = (j - (p + (n + 1))) + 1 by omega, List.getElem?_cons_succ]
      · rw [if_neg h2, if_neg (by omega), if_neg (by omega)]
theorem plc_get {out raw : Array UInt8} {p : Nat} (h : p + raw.size ≤ out.size) (j : Nat) : (plc out p raw)[j]? = if p ≤ j ∧ j < p + raw.size then raw[j - p]? else out[j]? := by
  have := fold_get p raw.toList 0 out j (by simpa using h)
  simpa [plc] using this
theorem fold_size (p : Nat) : ∀ (l : List UInt8) (n : Nat) (out : Array UInt8), ((l.zipIdx n).foldl (fun (out : Array UInt8) (x : UInt8 × Nat) => out.setIfInBounds (p + x.2) x.1) out).size = out.size
  | [], _, _ => rfl
  | c :: r, n, out => by rw [List.zipIdx_cons, List.foldl_cons, fold_size p r (n + 1), Array.size_setIfInBounds]
theorem plc_size (out raw : Array UInt8) (p : Nat) : (plc out p raw).size = out.size := fold_size p raw.toList 0 out
theorem put_get {b v : Array UInt8} {p : Nat} (h : p + v.size ≤ b.size) (j : Nat) : (put b v p (p + v.size : Nat))[j]? = if p ≤ j ∧ j < p + v.size then v[j - p]? else b[j]? := by
  unfold put
  rw [show (max (p : Int) ((p + v.size : Nat) : Int)).toNat = p + v.size by omega, show ((p : Int)).toNat = p by omega]
  have e1 : (b.extract 0 p).size = p := by rw [Array.size_extract]; omega
  rw [Array.getElem?_append, Array.getElem?_append]
  simp only [Array.size_append, e1]
  by_cases h1 : j < p
  · rw [if_pos (by omega), if_pos h1, if_neg (by omega), Array.getElem?_extract, if_pos (by omega)]
    simp
  · by_cases h2 : j < p + v.size
    · rw [if_pos h2, if_neg h1, if_pos (by omega)]
    · rw [if_neg h2, if_neg (by omega), Array.getElem?_extract]
      by_cases h3 : j < b.size
      · rw [if_pos (by omega)]
        congr 1; omega
      · rw [if_neg (by omega), Array.getElem?_eq_none (by omega)]
theorem plc_put {b z raw : Array UInt8} {p : Nat} (hz : z.size = raw.size) (h : p + raw.size ≤ b.size) : plc (plc b p z) p raw = put b raw p (p + raw.size : Nat) := by
  apply Array.ext_getElem?
  intro j
  rw [plc_get (by rw [plc_size]; exact h), put_get h]
  by_cases h1 : p ≤ j ∧ j < p + raw.size
  · rw [if_pos h1, if_pos h1]
  · rw [if_neg h1, if_neg h1, plc_get (by omega), if_neg (by omega)]
section
variable {prog : Program} {w : World} {A : Around} {E : Value → Shared → Prop} {s : Shared} {d st : Addr} {b f : Array UInt8}
theorem placeIn_ok {nm vb nr : String} {F : Struct.Format} {len : Nat} {i : Int} (h0 : 0 ≤ i) (h1 : i + F.size ≤ len) : Struct.placeIn nm vb nr F len i = pure i.toNat := by
  unfold Struct.placeIn
  rw [if_neg (by omega)]
  dsimp only
  rw [if_neg (show ¬ (i < 0) by omega), if_neg (by omega)]
theorem form_st {F : Struct.Format} {Q : Array UInt8 × Struct.Format → Shared → Prop} (hs : IsSt s.heap st f) (hf : Struct.parse f = pure F) (h : Q (f, F) s) : wpAny (model prog w) A (Struct.structFormat (.ref st)) Q E s := by
  obtain ⟨t, ho⟩ := hs
  unfold Struct.structFormat
  refine wpAny_bind (wpAny_field (i := 0) ho rfl rfl ?_)
  rw [if_neg (by exact Bool.false_ne_true)]
  refine wpAny_bind (wpAny_of_eq (a := f) rfl ?_)
  rw [hf]
  exact wpAny_bind (wpAny_pure (wpAny_pure h))
theorem tl_ba_buf : typeLookup (.type "bytearray") "__buffer__" = pure (some (.builtin "bytearray.__buffer__")) := bl_buf
end
open PySem.Builtin
inductive PK : Array UInt8 → Char → Nat → Int → Int → Prop
  | B : PK #[60, 66] 'B' 1 0 255
  | H : PK #[60, 72] 'H' 2 0 65535
  | I : PK #[60, 73] 'I' 4 0 4294967295
  | Q : PK #[60, 81] 'Q' 8 0 18446744073709551615
  | b : PK #[60, 98] 'b' 1 (-128) 127
  | h : PK #[60, 104] 'h' 2 (-32768) 32767
  | i : PK #[60, 105] 'i' 4 (-2147483648) 2147483647
  | q : PK #[60, 113] 'q' 8 (-9223372036854775808) 9223372036854775807
theorem PK.parse {f : Array UInt8} {ch : Char} {w : Nat} {lo hi : Int} (k : PK f ch w lo hi) : Struct.parse f = pure (fm ch w) := by
  cases k
  · exact parse_B
  · exact parse_H
  · exact parse_I
  · exact parse_Q
  · exact parse_b
  · exact parse_h
  · exact parse_i
  · exact parse_q
theorem PK.pos {f : Array UInt8} {ch : Char} {w : Nat} {lo hi : Int} (k : PK f ch w lo hi) : 1 ≤ w ∧ w ≤ 8 := by cases k <;> decide
/-- an int's bytes, the least first -/
def enc (w : Nat) (n : Int) : Array UInt8 := Struct.intBytes false w n
theorem enc_size (w : Nat) (n : Int) : (enc w n).size = w := by simp [enc, Struct.intBytes, Memoryview.toLittleEndian]
theorem low_B : ('B').isLower = false := by decide
theorem low_H : ('H').isLower = false := by decide
theorem low_I : ('I').isLower = false := by decide
theorem low_Q : ('Q').isLower = false := by decide
theorem low_b : ('b').isLower = true := by decide
theorem low_h : ('h').isLower = true := by decide
theorem low_i : ('i').isLower = true := by decide
theorem low_q : ('q').isLower = true := by decide
section
variable {prog : Program} {w : World} {A : Around} {E : Value → Shared → Prop} {s : Shared} {d st : Addr} {b f : Array UInt8}
theorem PK.nx {ch : Char} {wd : Nat} {lo hi : Int} (k : PK f ch wd lo hi) : ¬ (ch == 'x') = true := by cases k <;> decide
theorem PK.ns {ch : Char} {wd : Nat} {lo hi : Int} (k : PK f ch wd lo hi) : ¬ (ch == 's' || ch == 'p') = true := by cases k <;> decide
theorem wpAny_for1 {α σ : Type} {M : _} {c : α} {b : σ} {g : α → σ → Sem (ForInStep σ)} {Q : σ → Shared → Prop} (h : wpAny M A (g c b) (fun r s' => match r with | .done b' => Q b' s' | .yield b' => Q b' s') E s) : wpAny M A (forIn [c] b g) Q E s := by
  rw [List.forIn_cons]
  refine wpAny_bind (wpAny_mono h (fun r s' hr => ?_) fun _ _ h => h)
  cases r <;> exact wpAny_pure hr
theorem wpAny_rng1 {σ : Type} {M : _} {b : σ} {g : Nat → σ → Sem (ForInStep σ)} {Q : σ → Shared → Prop} (h : wpAny M A (g 0 b) (fun r s' => match r with | .done b' => Q b' s' | .yield b' => Q b' s') E s) : wpAny M A (forIn [0:1] b g) Q E s := by
  rw [Std.Legacy.Range.forIn_eq_forIn_range']
  exact wpAny_for1 h
set_option maxHeartbeats 8000000 in
theorem pack_any {ch : Char} {wd : Nat} {lo hi : Int} {i : Int} {n : Int} {t u : Tok} {R : Result → Shared → Prop} (k : PK f ch wd lo hi) (hs : IsSt s.heap st f) (hd : IsBa s.heap d b) (h0 : 0 ≤ i) (h1 : i + wd ≤ b.size) (hz : b.size ≤ 2 ^ 24) (hn0 : lo ≤ n) (hn1 : n ≤ hi)
    (h : ∀ h', (∀ a o, a ≠ d → s.heap.get? a = some o → h'.get? a = some o) → IsBa h' d (put b (enc wd n) i (i + wd)) → R (.ok (.ret .none)) { s with heap := h' }) :
  codeAny (model prog w) A (.call (.builtin "_struct.Struct.pack_into") ⟨[.ref st, .ref d, .int i t, .int n u], []⟩) R s := by
  have hw := k.pos
  refine codeAny_call_builtin ss_pack.plain es_pack (ss_pack.check _ _ _ _ _ _ _ _ hs.type (as_pack _ _ _ _) ?_)
  unfold Builtin.«_struct.Struct.pack_into»
  dsimp only
  refine wpAny_bind (wpAny_of_eq rfl ?_)
  refine wpAny_bind (form_st hs k.parse ?_)
  obtain ⟨tt, ho⟩ := id hs
  refine wpAny_bind (wpAny_field (i := 0) ho rfl rfl ?_)
  unfold Struct.packInto
  dsimp only [fm]
  refine aifN (by exact Bool.false_ne_true) ?_
  refine wpAny_bind (wpAny_specialOf hd.type bl_buf ?_)
  refine wpAny_bind (payload_ba hd ?_)
  refine wpAny_bind (wpAny_pure ?_)
  refine wpAny_pure ⟨Code.quiet_builtin _ (by decide +kernel), codeAny_builtin es_held ?_⟩
  unfold Builtin.«_struct.pack_into.held»
  dsimp only [rawInt]
  refine wpAny_bind (wpAny_of_eq (a := f) rfl ?_)
  refine wpAny_bind (wpAny_of_eq k.parse ?_)
  unfold Struct.packHeld
  refine wpAny_bind (wpAny_of_eq (a := i) rfl ?_)
  refine aifN (by simp only [Bytes.fitsIndex]; simp; omega) ?_
  refine wpAny_bind (wpAny_of_eq (placeIn_ok h0 (by show i + wd ≤ (((b.size : Int).toNat : Nat) : Int); omega)) ?_)
  have e0 : ((0 : Nat) : Int).toNat + i.toNat = i.toNat := by simp
  have hsz : ∀ raw p, (plc b p raw).size ≤ sizeLine := fun raw p => by rw [plc_size]; exact hz
  refine wpAny_bind (write_ba hd (by exact hsz _ _) ?_)
  have hd1 := hd.upd (fun x => plc x (((0 : Nat) : Int).toNat + i.toNat) (Array.replicate wd 0))
  have hfin : ∀ h', (∀ a o, a ≠ d → s.heap.get? a = some o → h'.get? a = some o) → IsBa h' d (plc (plc b (((0 : Nat) : Int).toNat + i.toNat) (Array.replicate wd 0)) (((0 : Nat) : Int).toNat + i.toNat + (0 + 0 * wd)) (enc wd n)) → R (.ok (.ret .none)) { s with heap := h' } := by
    intro h' kp hb
    refine h h' kp ?_
    have e1 : ((0 : Nat) : Int).toNat + i.toNat + (0 + 0 * wd) = i.toNat := by simp
    rw [e1, e0, plc_put (by rw [enc_size]; simp) (by rw [enc_size]; omega), enc_size] at hb
    rw [show (i + (wd : Int)) = ((i.toNat + wd : Nat) : Int) by omega]
    rw [show (i : Int) = ((i.toNat : Nat) : Int) by omega]
    exact hb
  unfold Struct.packEach
  refine wpAny_bind (wpAny_bind (wpAny_for1 ?_))
  refine aifN k.nx ?_
  refine aifN k.ns ?_
  refine wpAny_bind (wpAny_rng1 ?_)
  refine wpAny_bind (wpAny_of_eq (a := enc wd n) ?one ?_)
  case one =>
    clear hfin hd1 hsz e0 h ho

    cases k
    all_goals
      refine if_neg ?_

      simp [low_B, low_H, low_I, low_Q, low_b, low_h, low_i, low_q]; omega
  refine wpAny_bind (write_ba hd1 (by exact Nat.le_trans (Nat.le_of_eq (plc_size _ _ _)) (hsz _ _)) ?_)
  refine wpAny_pure (wpAny_pure (wpAny_pure (wpAny_pure ?_)))
  exact hfin _ (fun a o hne ha => IsBa.other _ hne (IsBa.other _ hne ha)) (hd1.upd _)
end
open PySem.Builtin
/-- the int that w bytes from place p on stand for -/
def dec (b : Array UInt8) (p w : Nat) (sg : Bool) : Int :=
  let n := Memoryview.littleEndian (b.extract p (p + w))
  if sg && n ≥ 2 ^ (8 * w - 1) then (n : Int) - 2 ^ (8 * w) else n
theorem bind_2 (a b : Value) : Bytes.bindOptional "_struct.Struct.unpack_from" "unpack_from" ["buffer", "offset"] [a, b] [] = pure [some a, some b] := by kernel_rfl
theorem buf_ends2 : ("bytearray.__buffer__").endsWith ("." ++ "__buffer__") = true := by decide +kernel
theorem buf_drop2 : ("bytearray.__buffer__").dropRight ("__buffer__".length + 1) = "bytearray" := by decide +kernel
section
variable {prog : Program} {w : World} {A : Around} {E : Value → Shared → Prop} {s : Shared} {d st : Addr} {b f : Array UInt8}
theorem own_buffer2 {Q : Bool → Shared → Prop} (hd : IsBa s.heap d b) (h : Q true s) : wpAny (model prog w) A (Bytes.slotIsOwn (.ref d) "__buffer__") Q E s := by
  unfold Bytes.slotIsOwn
  refine wpAny_bind (wpAny_specialOf hd.type bl_buf ?_)
  dsimp only
  rw [if_neg (by rw [buf_ends2]; decide), buf_drop2]
  exact wpAny_isInstance hd.type bsub h
theorem buffer_ba {i : String} {full : Bool} {Q : Option (Array UInt8) → Shared → Prop} (hd : IsBa s.heap d b) (h : Q (some b) s) : wpAny (model prog w) A (Bytes.buffer? i (.ref d) full) Q E s := by
  unfold Bytes.buffer?
  refine wpAny_bind (wpAny_specialOf hd.type bl_buf ?_)
  refine wpAny_bind (own_buffer2 hd ?_)
  rw [if_neg (by decide)]
  refine wpAny_bind (wpAny_specialOf hd.type bl_buf ?_)
  refine wpAny_bind (ba_ownRelease hd ?_)
  rw [if_neg (by decide)]
  exact wpAny_bind (payload_ba hd (wpAny_pure h))
theorem bytesLike_ba {i : String} {Q : Array UInt8 → Shared → Prop} (hd : IsBa s.heap d b) (h : Q b s) : wpAny (model prog w) A (Bytes.bytesLike i (.ref d)) Q E s := by
  unfold Bytes.bytesLike
  exact wpAny_bind (buffer_ba hd (wpAny_pure h))
theorem rng1 {σ : Type} (b : σ) (g : Nat → σ → Sem (ForInStep σ)) : forIn [0:1] b g = g 0 b >>= fun r => match r with | .done b => pure b | .yield b => pure b := by
  rw [Std.Legacy.Range.forIn_eq_forIn_range']; rfl
theorem wpAny_eq {α : Type} {M : _} {t t' : Sem α} {Q : α → Shared → Prop} (e : t = t') (h : wpAny M A t' Q E s) : wpAny M A t Q E s := e ▸ h
set_option maxHeartbeats 8000000 in
theorem unpack_any {ch : Char} {wd : Nat} {lo hi : Int} {i : Int} {t : Tok} {Q : Value → Shared → Prop} (k : PK f ch wd lo hi) (hs : IsSt s.heap st f) (hd : IsBa s.heap d b) (h0 : 0 ≤ i) (h1 : i + wd ≤ b.size) (hz : b.size ≤ 2 ^ 24)
    (h : Q (.ref s.heap.objs.size) { s with heap := s.heap.push { cls := .type "tuple", data := .seq #[.int (dec b i.toNat wd ch.isLower) s.toks] }, toks := s.toks + 1 }) :
  wpAny (model prog w) A (call (.builtin "_struct.Struct.unpack_from") [.ref st, .ref d, .int i t]) Q E s := by
  have hw := k.pos
  refine wpAny_call_entry ss_unpack hs.type es_unpack ?_ (as_unpack _ _ _)
  unfold Builtin.«_struct.Struct.unpack_from»
  dsimp only
  refine wpAny_bind (wpAny_of_eq (bind_2 _ _) ?_)
  dsimp only
  unfold Struct.unpackFrom
  refine wpAny_bind (bytesLike_ba hd ?_)
  dsimp only
  unfold Bytes.indexHeld
  refine wpAny_bind (wpAny_bind (wpAny_of_eq (a := some i) rfl ?_))
  refine aifP (by simp) ?_
  refine wpAny_of_eq (a := i) rfl ?_
  refine aifN (by simp only [Bytes.fitsIndex]; simp; omega) ?_
  refine wpAny_bind (wpAny_pure ?_)
  refine wpAny_bind (wpAny_bind (form_st hs k.parse (wpAny_pure ?_)))
  refine aifP rfl ?_
  refine wpAny_bind (bytesLike_ba hd ?_)
  refine wpAny_bind (wpAny_of_eq (placeIn_ok h0 (by show i + wd ≤ ((b.size : Nat) : Int); omega)) ?_)
  unfold Struct.unpacked
  have e1 : b.extract (i.toNat + 0 + 0 * wd) (i.toNat + 0 + (0 + 1) * wd) = b.extract i.toNat (i.toNat + wd) := by congr 1 <;> omega
  refine wpAny_bind (wpAny_bind (wpAny_for1 (wpAny_eq (t' := Bind.bind (mkInt (dec b i.toNat wd ch.isLower)) fun v => pure (.yield #[v])) ?one ?_)))
  case one =>
    unfold dec
    rw [← e1]
    clear h e1
    cases k
    all_goals
      refine Eq.trans (if_neg (by decide)) ?_
      refine Eq.trans (congrArg (Bind.bind · _) (rng1 _ _)) ?_
      rfl
  refine wpAny_bind (wpAny_mkInt (wpAny_pure ?_))
  refine wpAny_newTuple (hsz := ?hz) ?_
  case hz => exact (by decide : 1 ≤ 2 ^ 24)
  exact wpAny_pure ⟨_, rfl, h⟩
end
/-- a value, its token left out -/
inductive PV where
  | i (n : Int)
  | y (b : List UInt8)
  | s (x : Str)
  | v (u : Value)
def rel : PV → Value → Prop
  | .i n, v => ∃ t, v = .int n t
  | .y b, v => ∃ t, v = .bytes b.toArray t
  | .s x, v => ∃ t, v = .str x t
  | .v u, v => v = u
def relL : List PV → List Value → Prop
  | [], [] => True
  | p :: ps, v :: vs => rel p v ∧ relL ps vs
  | _, _ => False
def relE : Option PV → Option Value → Prop
  | none, none => True
  | some p, some v => rel p v
  | _, _ => False
def relS : List (Option PV) → List (Option Value) → Prop
  | [], [] => True
  | p :: ps, v :: vs => relE p v ∧ relS ps vs
  | _, _ => False
/-- an object -/
inductive PO where
  | sq (c : String) (l : List PV)
  | ins (C dx : Addr) (l : List (Option PV))
  | ba (b : List UInt8)
  | cell (p : PV)
  | raw (o : Obj)
  | is (P : Obj → Prop)
def relO : PO → Obj → Prop
  | .sq c l, o => ∃ vs n, relL l vs ∧ o = { cls := .type c, data := .seq vs.toArray n }
  | .ins C dx l, o => ∃ vs, relS l vs ∧ o = ⟨.ref C, some dx, .plain, vs.toArray⟩
  | .ba b, o => o = baO b.toArray
  | .cell p, o => ∃ v, rel p v ∧ o.data = .cell (some v) ∧ o.isFreed = false
  | .raw u, o => o = u
  | .is P, o => P o
def relH : List (Addr × PO) → List (Addr × Obj) → Prop
  | [], [] => True
  | p :: ps, v :: vs => p.1 = v.1 ∧ relO p.2 v.2 ∧ relH ps vs
  | _, _ => False
theorem relH_keys : ∀ {l : List (Addr × PO)} {m : List (Addr × Obj)}, relH l m → l.map (·.1) = m.map (·.1)
  | [], [], _ => rfl
  | p :: ps, v :: vs, h => by rw [List.map_cons, List.map_cons, h.1, relH_keys h.2.2]
  | [], _ :: _, h => h.elim
  | _ :: _, [], h => h.elim
theorem relH_mem : ∀ {l : List (Addr × PO)} {m : List (Addr × Obj)} {a : Addr} {o : PO}, relH l m → (a, o) ∈ l → ∃ u, relO o u ∧ (a, u) ∈ m
  | p :: ps, v :: vs, a, o, h, hm => by
    rcases List.mem_cons.mp hm with e | hm
    · subst e; exact ⟨v.2, h.2.1, by rw [show a = v.1 from h.1]; exact .head _⟩
    · obtain ⟨u, hu, hm'⟩ := relH_mem h.2.2 hm
      exact ⟨u, hu, .tail _ hm'⟩
  | [], [], _, _, _, hm => nomatch hm
  | [], _ :: _, _, _, h, _ => h.elim
  | _ :: _, [], _, _, h, _ => h.elim
theorem relH_app : ∀ {l l' : List (Addr × PO)} {m : List (Addr × Obj)}, relH (l ++ l') m → ∃ u u', m = u ++ u' ∧ relH l u ∧ relH l' u'
  | [], _, m, h => ⟨[], m, rfl, trivial, h⟩
  | p :: ps, l', v :: vs, h => by
    obtain ⟨u, u', e, a, b⟩ := relH_app (l := ps) h.2.2
    exact ⟨v :: u, u', by rw [e]; rfl, ⟨h.1, h.2.1, a⟩, b⟩
  | _ :: _, _, [], h => h.elim
theorem relH_mk : ∀ {l l' : List (Addr × PO)} {u u' : List (Addr × Obj)}, relH l u → relH l' u' → relH (l ++ l') (u ++ u')
  | [], _, [], _, _, h => h
  | p :: ps, _, v :: vs, _, h, h' => ⟨h.1, h.2.1, relH_mk h.2.2 h'⟩
  | [], _, _ :: _, _, h, _ => h.elim
  | _ :: _, _, [], _, h, _ => h.elim
theorem relL_len : ∀ {l : List PV} {m : List Value}, relL l m → l.length = m.length
  | [], [], _ => rfl
  | _ :: _, _ :: _, h => by rw [List.length_cons, List.length_cons, relL_len h.2]
  | [], _ :: _, h => h.elim
  | _ :: _, [], h => h.elim
theorem relL_get : ∀ {l : List PV} {m : List Value} {i : Nat} {p : PV}, relL l m → l[i]? = some p → ∃ v, m[i]? = some v ∧ rel p v
  | p :: _, v :: _, 0, _, h, e => by cases e; exact ⟨v, rfl, h.1⟩
  | _ :: _, _ :: _, i + 1, _, h, e => by
    obtain ⟨v, a, b⟩ := relL_get (i := i) h.2 (by simpa using e)
    exact ⟨v, by simpa using a, b⟩
  | [], _, _, _, _, e => by cases e
  | _ :: _, [], _, _, h, _ => h.elim
theorem relE_some {p : PV} {o : Option Value} (h : relE (some p) o) : ∃ v, o = some v ∧ rel p v := by
  cases o with
  | none => exact h.elim
  | some v => exact ⟨v, rfl, h⟩
theorem relS_get : ∀ {l : List (Option PV)} {m : List (Option Value)} {i : Nat} {p : PV}, relS l m → l[i]? = some (some p) → ∃ v, m[i]? = some (some v) ∧ rel p v
  | x :: _, y :: _, 0, p, h, e => by
    rw [List.getElem?_cons_zero] at e
    cases e
    obtain ⟨v, rfl, r⟩ := relE_some h.1
    exact ⟨v, rfl, r⟩
  | _ :: _, _ :: _, i + 1, _, h, e => by
    rw [List.getElem?_cons_succ] at e
    obtain ⟨v, a, b⟩ := relS_get (i := i) h.2 e
    exact ⟨v, by rw [List.getElem?_cons_succ]; exact a, b⟩
  | [], _, _, _, _, e => by cases e
  | _ :: _, [], _, _, h, _ => h.elim
theorem relS_set : ∀ {l : List (Option PV)} {m : List (Option Value)} {i : Nat} {p : PV} {v : Value}, relS l m → rel p v → relS (l.set i (some p)) (m.set i (some v))
  | [], [], _, _, _, _, _ => trivial
  | _ :: _, _ :: _, 0, _, _, h, r => ⟨r, h.2⟩
  | _ :: _, _ :: _, i + 1, _, _, h, r => ⟨h.1, relS_set (i := i) h.2 r⟩
  | [], _ :: _, _, _, _, h, _ => h.elim
  | _ :: _, [], _, _, _, h, _ => h.elim
theorem relS_len : ∀ {l : List (Option PV)} {m : List (Option Value)}, relS l m → l.length = m.length
  | [], [], _ => rfl
  | _ :: _, _ :: _, h => by rw [List.length_cons, List.length_cons, relS_len h.2]
  | [], _ :: _, h => h.elim
  | _ :: _, [], h => h.elim

theorem relL_nil {vs : List Value} (h : relL [] vs) : vs = [] := by
  cases vs with
  | nil => rfl
  | cons _ _ => exact h.elim
theorem relL_cons {p : PV} {ps : List PV} {vs : List Value} (h : relL (p :: ps) vs) : ∃ v us, vs = v :: us ∧ rel p v ∧ relL ps us := by
  cases vs with
  | nil => exact h.elim
  | cons v us => exact ⟨v, us, rfl, h.1, h.2⟩
theorem relL_1 {p : PV} {vs : List Value} (h : relL [p] vs) : ∃ v, vs = [v] ∧ rel p v := by
  obtain ⟨v, us, rfl, r, h⟩ := relL_cons h
  obtain rfl := relL_nil h
  exact ⟨v, rfl, r⟩
theorem relL_2 {p q : PV} {vs : List Value} (h : relL [p, q] vs) : ∃ v u, vs = [v, u] ∧ rel p v ∧ rel q u := by
  obtain ⟨v, us, rfl, r, h⟩ := relL_cons h
  obtain ⟨u, rfl, r'⟩ := relL_1 h
  exact ⟨v, u, rfl, r, r'⟩
theorem relL_3 {p q o : PV} {vs : List Value} (h : relL [p, q, o] vs) : ∃ v u w, vs = [v, u, w] ∧ rel p v ∧ rel q u ∧ rel o w := by
  obtain ⟨v, us, rfl, r, h⟩ := relL_cons h
  obtain ⟨u, w, rfl, r', r''⟩ := relL_2 h
  exact ⟨v, u, w, rfl, r, r', r''⟩
theorem relL_4 {p q o n : PV} {vs : List Value} (h : relL [p, q, o, n] vs) : ∃ v u w x, vs = [v, u, w, x] ∧ rel p v ∧ rel q u ∧ rel o w ∧ rel n x := by
  obtain ⟨v, us, rfl, r, h⟩ := relL_cons h
  obtain ⟨u, w, x, rfl, r1, r2, r3⟩ := relL_3 h
  exact ⟨v, u, w, x, rfl, r, r1, r2, r3⟩
theorem len_0 {vs : List Value} (h : vs.length = 0) : vs = [] := List.length_eq_zero_iff.mp h
theorem len_1 {vs : List Value} (h : vs.length = 1) : ∃ a, vs = [a] := by
  cases vs with
  | nil => cases h
  | cons a l => exact ⟨a, by rw [len_0 (Nat.succ.inj h)]⟩
theorem len_2 {vs : List Value} (h : vs.length = 2) : ∃ a b, vs = [a, b] := by
  cases vs with
  | nil => cases h
  | cons a l => obtain ⟨b, rfl⟩ := len_1 (Nat.succ.inj h); exact ⟨a, b, rfl⟩
theorem len_3 {vs : List Value} (h : vs.length = 3) : ∃ a b c, vs = [a, b, c] := by
  cases vs with
  | nil => cases h
  | cons a l => obtain ⟨b, c, rfl⟩ := len_2 (Nat.succ.inj h); exact ⟨a, b, c, rfl⟩
theorem len_4 {vs : List Value} (h : vs.length = 4) : ∃ a b c d, vs = [a, b, c, d] := by
  cases vs with
  | nil => cases h
  | cons a l => obtain ⟨b, c, d, rfl⟩ := len_3 (Nat.succ.inj h); exact ⟨a, b, c, d, rfl⟩

/-- what is fixed while a frame runs -/
structure Cn where
  q : Str
  sc : Scope
  fu : Option Addr
  cd : Value
  fr : Option Addr
  cl : List (Str × Addr)
  w : World
  A : Around
  h₀ : Heap
  L : Addr
  mg : Str → Option Value
  mb : Str → Option Value
  os : OsState
  gens : Array GenState
  k : Nat
abbrev Cn.env (C : Cn) : Env := { scope := C.sc, locals := C.L, globals := mainGlobals, cells := C.cl, qual := C.q, func := C.fu, code := C.cd, frame := C.fr, builtins := builtinsNs }
noncomputable abbrev Cn.M (C : Cn) : Model := model pw C.w
structure Cn.Ok (C : Cn) : Prop where
  X : KIn C.w C.h₀
  T : TR C.mg C.mb C.h₀
  R : Room C.A C.k
  fn : C.sc.kind = .function
abbrev Lc := List (Str × PV)
abbrev Ld := List (Addr × PO)
structure St (C : Cn) (lc : Lc) (ld : Ld) (s : Shared) : Prop where
  ex : ∃ m news, Fr C.h₀ C.L s.heap m ∧ News C.h₀ C.L s.heap news ∧ relH ld news ∧ ∀ x p, lc.lookup x = some p → ∃ v, m x = some v ∧ rel p v
  nd : (ld.map (·.1)).Nodup
  os : s.os = C.os
  gens : s.gens = C.gens
theorem St.el {C : Cn} {lc : Lc} {ld : Ld} {s : Shared} {g : Prop} (I : St C lc ld s) (h : ∀ m news, Fr C.h₀ C.L s.heap m → News C.h₀ C.L s.heap news → relH ld news → (∀ x p, lc.lookup x = some p → ∃ v, m x = some v ∧ rel p v) → (ld.map (·.1)).Nodup → s.os = C.os → s.gens = C.gens → g) : g := by
  obtain ⟨⟨m, news, F, N, H, l⟩, nd, os, gens⟩ := I
  exact h m news F N H l nd os gens
theorem elC {α : Type} {A B D : α → Prop} {g : Prop} (h : ∃ c, A c ∧ B c ∧ D c) (k : ∀ c, A c → B c → D c → g) : g := by
  obtain ⟨c, a, b, d⟩ := h; exact k c a b d
theorem St.tok {C : Cn} {lc : Lc} {ld : Ld} {s : Shared} {t : Nat} (I : St C lc ld s) : St C lc ld { s with toks := t } := ⟨I.ex, I.nd, I.os, I.gens⟩
/-- an expression: its value, the ledger after it -/
def Ex (C : Cn) (lc : Lc) (ld : Ld) (e : Expr) (P : PV → Ld → Prop) : Prop :=
  C.Ok → ∀ s, St C lc ld s → ∀ (Q : Value → Shared → Prop) (E : Value → Shared → Prop), (∀ v p ld' s', St C lc ld' s' → rel p v → P p ld' → Q v s') → wpN C.M C.A (eval e C.env) Q E s
/-- an expression that leaves all as it is -/
def Ev (C : Cn) (lc : Lc) (ld : Ld) (e : Expr) (p : PV) : Prop :=
  C.Ok → ∀ s, St C lc ld s → ∀ (Q : Value → Shared → Prop) (E : Value → Shared → Prop), (∀ v s', St C lc ld s' → rel p v → Q v s') → wpN C.M C.A (eval e C.env) Q E s
/-- a name or a constant: the same under wpAny -/
def Ea (C : Cn) (lc : Lc) (ld : Ld) (e : Expr) (p : PV) : Prop :=
  C.Ok → ∀ s, St C lc ld s → ∀ (Q : Value → Shared → Prop) (E : Value → Shared → Prop), (∀ v s', St C lc ld s' → rel p v → Q v s') → wpAny C.M C.A (eval e C.env) Q E s
/-- a test -/
def Tr (C : Cn) (lc : Lc) (ld : Ld) (e : Expr) (c : Bool) : Prop :=
  C.Ok → ∀ s, St C lc ld s → ∀ (Q : Bool → Shared → Prop) (E : Value → Shared → Prop), (∀ s', St C lc ld s' → Q c s') → wpN C.M C.A (isTrue e C.env (eval e C.env)) Q E s
/-- arguments in a row -/
def Ag (C : Cn) (lc : Lc) (ld : Ld) (es : List Expr) (P : List PV → Ld → Prop) : Prop :=
  C.Ok → ∀ s, St C lc ld s → ∀ (pos : Pos) (Q : List Value → Shared → Prop) (E : Value → Shared → Prop), (∀ vs ps ld' s', St C lc ld' s' → relL ps vs → P ps ld' → Q vs s') → wpN C.M C.A (spliced (backTo pos (starEach es C.env))) Q E s
inductive Fl where
  | next | cont | brk
  | ret (p : PV)
def relF : Fl → Flow → Prop
  | .next, .next => True
  | .cont, .cont => True
  | .brk, .brk => True
  | .ret p, .ret v => rel p v
  | _, _ => False
/-- statements -/
def Bl (C : Cn) (lc : Lc) (ld : Ld) (b : List Stmt) (K : Fl → Lc → Ld → Prop) : Prop :=
  C.Ok → ∀ s, St C lc ld s → ∀ (Q : Flow → Shared → Prop) (E : Value → Shared → Prop), (∀ fl f lc' ld' s', St C lc' ld' s' → relF f fl → K f lc' ld' → Q fl s') → wpN C.M C.A (execs b C.env) Q E s
/-- a def: what its call gives -/
def Fn (f : Addr) (k : Nat) (ps : List PV) (ld : Ld) (P : PV → Ld → Prop) : Prop :=
  ∀ (C : Cn), C.Ok → k ≤ C.k → ∀ lc s, St C lc ld s → ∀ vs, relL ps vs → ∀ (R : Result → Shared → Prop), (∀ v p ld' s', St C lc ld' s' → rel p v → P p ld' → R (.ok (.ret v)) s') →
    codeN C.M C.A (.call (.ref f) ⟨vs, []⟩) R s
section
variable {C : Cn} {lc : Lc} {ld : Ld}
theorem Ea.ev {e : Expr} {p : PV} (h : Ea C lc ld e p) : Ev C lc ld e p := fun ok s I Q E k => N_any (h ok s I Q E k)
theorem Ev.ex {e : Expr} {p : PV} (h : Ev C lc ld e p) : Ex C lc ld e (fun p' ld' => p' = p ∧ ld' = ld) := fun ok s I Q E k => h ok s I Q E fun v s' I' r => k v p ld s' I' r ⟨rfl, rfl⟩
theorem Ex.ev {e : Expr} {p : PV} {P : PV → Ld → Prop} (h : Ex C lc ld e P) (hP : ∀ p' ld', P p' ld' → p' = p ∧ ld' = ld) : Ev C lc ld e p := fun ok s I Q E k => h ok s I Q E fun v p' ld' s' I' r hp => by
  obtain ⟨rfl, rfl⟩ := hP _ _ hp
  exact k v s' I' r
theorem Ex.mono {e : Expr} {P P' : PV → Ld → Prop} (h : Ex C lc ld e P) (hP : ∀ p ld, P p ld → P' p ld) : Ex C lc ld e P' := fun ok s I Q E k => h ok s I Q E fun v p ld' s' I' r hp => k v p ld' s' I' r (hP _ _ hp)
theorem Ea_int {n : Int} {k : Nat} {pos : Pos} : Ea C lc ld (.Constant (.int n) k pos) (.i n) := fun _ s I Q E h => wpAny_Constant_int (h _ _ I.tok ⟨_, rfl⟩)
theorem Ea_none {k : Nat} {pos : Pos} : Ea C lc ld (.Constant .none k pos) (.v .none) := fun _ s I Q E h => wpAny_pure (h _ _ I rfl)
theorem Ea_bool {b : Bool} {k : Nat} {pos : Pos} : Ea C lc ld (.Constant (.bool b) k pos) (.v (.bool b)) := fun _ s I Q E h => wpAny_pure (h _ _ I rfl)
theorem Ea_bytes {b : List UInt8} {k : Nat} {pos : Pos} : Ea C lc ld (.Constant (.bytes b) k pos) (.y b) := fun _ s I Q E h => (show wpAny _ _ (constValue C.env (.bytes b)) _ _ _ from fun Γ p hΓ => h _ _ I.tok ⟨_, rfl⟩)
theorem Ea_str {x : Str} {k : Nat} {pos : Pos} : Ea C lc ld (.Constant (.str x) k pos) (.s x) := fun _ s I Q E h => (show wpAny _ _ (constValue C.env (.str x)) _ _ _ from wpAny_mkText (h _ _ I.tok ⟨_, rfl⟩))
theorem Ea_loc {x : Str} {pos : Pos} {p : PV} (hl : lc.lookup x = some p) (hx : C.env.kindOf x = some .local) (hd : (x == ("__debug__" : Str)) = false := by decide) : Ea C lc ld (.Name x pos) p := fun ok s I Q E h => by
  obtain ⟨m, news, F, N, H, l⟩ := I.ex
  obtain ⟨v, hv, r⟩ := l x p hl
  exact wpAny_Name (wpAny_loadName_local ok.fn hx F.ns hv (h v s I r)) hd
theorem Ea_glob {x : Str} {pos : Pos} {v : Value} (e : ∀ P, nsIn (frag P) mainGlobals x = some (some v)) (hx : C.env.kindOf x = some .globalImplicit) (hd : (x == ("__debug__" : Str)) = false := by decide) : Ea C lc ld (.Name x pos) (.v v) := fun ok s I Q E h => by
  obtain ⟨m, news, F, N, H, l⟩ := I.ex
  exact Name_function_global ok.fn hx (loadGlobal_global (env := C.env) (ok.T.g.keeps F.keep) (mg_of ok.X ok.T.g (e _)) (h v s I rfl)) hd
theorem Ea_bi {x : Str} {pos : Pos} {v : Value} (e : ∀ P, nsIn (frag P) mainGlobals x = some none) (hv : bootBuiltins x = some v) (hn : x ≠ "__name__") (hx : C.env.kindOf x = some .globalImplicit) (hd : (x == ("__debug__" : Str)) = false := by decide) : Ea C lc ld (.Name x pos) (.v v) := fun ok s I Q E h => by
  obtain ⟨m, news, F, N, H, l⟩ := I.ex
  exact Name_function_global ok.fn hx (loadGlobal_builtin (env := C.env) (ok.T.g.keeps F.keep) (mg_none_of ok.X ok.T.g (e _)) (ok.T.b.keeps F.keep) ((ok.T.builtins x hn).trans hv) (h v s I rfl)) hd
theorem Ea_cell {x : Str} {pos : Pos} {c : Addr} {p : PV} (hc : C.cl.lookup x = some c) (hm : (c, PO.cell p) ∈ ld) (hx : C.env.kindOf x = some .cell) (hd : (x == ("__debug__" : Str)) = false := by decide) : Ea C lc ld (.Name x pos) p := fun ok s I Q E h => by
  obtain ⟨m, news, F, N, H, l⟩ := I.ex
  obtain ⟨o, ⟨v, r, hd', _⟩, hm'⟩ := relH_mem H hm
  exact wpAny_Name (wpAny_loadName_cell ok.fn hx hc ⟨o, N.get hm', hd'⟩ (h v s I r)) hd
/-- reading an attribute -/
def At (C : Cn) (lc : Lc) (ld : Ld) (o : PV) (a : Str) (p : PV) : Prop :=
  C.Ok → ∀ s, St C lc ld s → ∀ v, rel o v → ∀ (x : Bool) (Q : Value → Shared → Prop) (E : Value → Shared → Prop), (∀ v s', St C lc ld s' → rel p v → Q v s') → wpAny C.M C.A (getAttr v a x) Q E s
theorem Ea_attr {x : Str} {xp pos : Pos} {a : Str} {o p : PV} (h : Ea C lc ld (.Name x xp) o) (ha : At C lc ld o a p) : Ea C lc ld (.Attribute (.Name x xp) a pos) p := fun ok s I Q E k =>
  Attribute_name (h ok s I _ E fun v s₁ I₁ r => ha ok s₁ I₁ v r true Q E k)
theorem St.keeps (ok : C.Ok) {s : Shared} (I : St C lc ld s) : (frag C.w.params).In s.heap := by
  obtain ⟨m, news, F, N, H, l⟩ := I.ex
  exact ok.X.keeps F.keep
theorem At_slot {x dx c : Addr} {sl : List (Option PV)} {a : Str} {i : Nat} {p : PV} {od : Obj} (hm : (x, PO.ins c dx sl) ∈ ld) (hd : (dx, PO.raw od) ∈ ld) (hok : ∀ P, slotOk (frag P) c a i = true) (hi : sl[i]? = some (some p)) (hh : ∀ v, rel p v → handedIn v = true) : At C lc ld (.v (.ref x)) a p := fun ok s I u r y Q E k => by
  subst r
  obtain ⟨m, news, F, N, H, l⟩ := I.ex
  obtain ⟨o, ⟨vs, hs, rfl⟩, hm'⟩ := relH_mem H hm
  obtain ⟨o', rfl, hd'⟩ := relH_mem H hd
  obtain ⟨v, hv, rv⟩ := relS_get hs hi
  refine gSlot F ok.X ⟨N.get hm', rfl, rfl, N.get hd'⟩ (hok _) (v := v) ?_ (hh v rv) (k _ _ I.tok rv)
  show (vs.toArray[i]?).join = some v
  rw [List.getElem?_toArray, hv]; rfl
end
section
variable {α : Type} {M : Model} {A : Around} {E : Value → Shared → Prop} {s : Shared} {env : Env}
theorem N_operate {vs : List Value} {m : Sem Value} {Q : Value → Shared → Prop} (h : wpN M A m Q E s) : wpN M A (operate vs m) Q E s := fun Γ p hΓ h1 h2 => by
  rw [Sem.wp_operate]; exact h Γ p hΓ h1 h2
theorem N_keep {vs : List Value} {m : Sem α} {Q : α → Shared → Prop} (h : wpN M A m Q E s) : wpN M A (m.keep vs) Q E s := fun Γ p hΓ h1 h2 => by
  rw [Sem.wp_keep]; exact h Γ p hΓ h1 h2
theorem N_release {vs ks : List Value} {Q : Unit → Shared → Prop} (h : Q () s) : wpN M A (release vs ks) Q E s := fun Γ p hΓ h1 h2 => by
  rw [Sem.wp_release]; exact h
theorem N_point {Q : Unit → Shared → Prop} (h : Q () s) : wpN M A point Q E s := fun Γ p hΓ h1 h2 => by
  rw [Sem.wp_cmd_point]; exact h
theorem N_bindName {x : Str} {v : Value} {Q : Unit → Shared → Prop} (h : wpN M A (storeName env x v) Q E s) : wpN M A (bindName env x v) Q E s := fun Γ p hΓ h1 h2 => by
  rw [Sem.wp_bindName]; exact h Γ p hΓ h1 h2
theorem N_execs_cons {st : Stmt} {rest : List Stmt} {Q : Flow → Shared → Prop}
    (h : wpN M A (exec st env) (fun f s' => match f with | .next => wpN M A (execs rest env) Q E s' | f => Q f s') E s) : wpN M A (execs (st :: rest) env) Q E s := by
  rw [execs_cons]
  refine N_bind (N_mono h (fun f s' h' => ?_) fun _ _ h' => h')
  cases f <;> first | exact h' | exact N_pure h'
theorem N_spliced_cons {x : Sem Value} {rest : List (Bool × Sem Value)} {Q : List Value → Shared → Prop}
    (h : wpN M A x (fun v s₁ => wpN M A (spliced rest) (fun vs s₂ => Q (v :: vs) s₂) E s₁) E s) : wpN M A (spliced ((false, x) :: rest)) Q E s := by
  rw [spliced]
  refine N_bind (N_mono h (fun v s₁ h₁ => ?_) fun _ _ x => x)
  simp only [Bool.false_eq_true, if_false]
  exact N_bind (N_pure (N_bind (N_holding (N_mono h₁ (fun vs s₂ h₂ => N_pure h₂) fun _ _ x => x))))
theorem N_evalAll_cons {x : Sem Value} {rest : List (Sem Value)} {Q : List Value → Shared → Prop}
    (h : wpN M A x (fun v s₁ => wpN M A (evalAll rest) (fun vs s₂ => Q (v :: vs) s₂) E s₁) E s) : wpN M A (evalAll (x :: rest)) Q E s := by
  rw [evalAll]
  exact N_bind (N_mono h (fun v s₁ h₁ => N_bind (N_holding (N_mono h₁ (fun vs s₂ h₂ => N_pure h₂) fun _ _ x => x))) fun _ _ x => x)
theorem N_evalAll_nil {Q : List Value → Shared → Prop} (h : Q [] s) : wpN M A (evalAll []) Q E s := N_pure h
theorem N_spliced_nil {Q : List Value → Shared → Prop} (h : Q [] s) : wpN M A (spliced []) Q E s := N_pure h
/-- arguments that open with no star -/
theorem N_evalArgs {f : Value} {args : List (Bool × Sem Value)} {kws : List (Option Str × Sem Value)} {Q : Args → Shared → Prop} (hpl : args.any (·.1) = false) (hall : kws.all (·.1.isSome) = true)
    (h : wpN M A (spliced args) (fun vs s₁ => wpN M A (evalAll (kws.map (·.2))) (fun ks s₂ => Q ⟨vs, (kws.filterMap (·.1)).zip ks⟩ s₂) E s₁) E s) : wpN M A (evalArgs f true args kws) Q E s := by
  unfold evalArgs
  match args, hpl with
  | [], _ =>
    show wpN M A (spliced [] >>= _) Q E s
    refine N_bind (N_mono h (fun vs s₁ h₁ => ?_) fun _ _ x => x)
    refine N_bind (N_pure (N_holding ?_))
    simp only [hall, if_true]
    refine N_bind (N_mono h₁ (fun ks s₂ h₂ => ?_) fun _ _ x => x)
    exact N_bind (N_pure (N_pure h₂))
  | [(false, x)], _ =>
    show wpN M A (spliced [(false, x)] >>= _) Q E s
    refine N_bind (N_mono h (fun vs s₁ h₁ => ?_) fun _ _ x => x)
    refine N_bind (N_pure (N_holding ?_))
    simp only [hall, if_true]
    refine N_bind (N_mono h₁ (fun ks s₂ h₂ => ?_) fun _ _ x => x)
    exact N_bind (N_pure (N_pure h₂))
  | (false, x) :: y :: r, _ =>
    show wpN M A (spliced ((false, x) :: y :: r) >>= _) Q E s

    refine N_bind (N_mono h (fun vs s₁ h₁ => ?_) fun _ _ x => x)
    refine N_bind (N_pure (N_holding ?_))
    simp only [hall, if_true]
    refine N_bind (N_mono h₁ (fun ks s₂ h₂ => ?_) fun _ _ x => x)
    exact N_bind (N_pure (N_pure h₂))
theorem N_callWith {pos : Pos} {f : Value} {first : List Value} {args : List (Bool × Sem Value)} {kws : List (Option Str × Sem Value)} {Q : Value → Shared → Prop} (hpl : args.any (·.1) = false) (hall : kws.all (·.1.isSome) = true)
    (h : wpN M A (spliced args) (fun vs s₁ => wpN M A (evalAll (kws.map (·.2))) (fun ks s₂ => (∃ k, (k = Keeper.frame ∨ k = Keeper.machine ∨ k = Keeper.boundFrame) ∧ Looks M s₂.heap (keeperOf f) k) ∧
      wpN M A (call f (first ++ vs) ((kws.filterMap (·.1)).zip ks)) Q E s₂) E s₁) E s) : wpN M A (callWith pos f first args kws) Q E s := by
  have hn : (args.any (·.1) || kws.any (·.1.isNone)) = false := by
    rw [hpl, Bool.false_or, List.any_eq_false]
    intro x hx
    have := List.all_eq_true.mp hall x hx
    cases hx1 : x.1 with
    | none => rw [hx1] at this; cases this
    | some _ => simp
  unfold callWith
  refine N_bind (N_holding (N_evalArgs hpl hall (N_mono h (fun vs s₁ h₁ => N_mono h₁ (fun ks s₂ h₂ => N_bind (N_standAt ?_)) fun _ _ x => x) fun _ _ x => x)))
  obtain ⟨⟨k, hk', L⟩, h₂⟩ := h₂
  simp only [hn]
  refine N_bind (N_any (L.here ?_))
  have tail : ∀ {t : Sem Value}, wpN M A t Q E s₂ → wpN M A (t >>= fun r => holding [r] point >>= fun _ => pure r) Q E s₂ :=
    fun ht => N_bind (N_mono ht (fun r s₂ hr => N_bind (N_holding (N_point (N_pure hr)))) fun _ _ x => x)
  have marked (mk : Value) : wpN M A (callMarked mk f (first ++ vs) ((kws.filterMap (·.1)).zip ks)) Q E s₂ := by unfold callMarked; exact N_keep h₂
  rcases hk' with rfl | rfl | rfl <;> dsimp only <;> first | exact tail h₂ | (split <;> first | exact tail h₂ | exact tail (marked _))
end
section
variable {C : Cn} {lc : Lc} {ld : Ld}
/-- a binary operation on two values -/
def Op (t : Value → Value → Sem Value) (A : Around) (a b c : PV) (w : World) : Prop :=
  ∀ (s : Shared) (v u : Value), rel a v → rel b u → ∀ (Q : Value → Shared → Prop) (E : Value → Shared → Prop), (∀ r k, rel c r → Q r { s with toks := k }) → wpAny (model pw w) A (t v u) Q E s
theorem Ev_bin {l r : Expr} {op : Operator} {pos : Pos} {a b c : PV} (hl : Ev C lc ld l a) (hr : Ev C lc ld r b) (ho : Op (binaryOp op) C.A a b c C.w) : Ev C lc ld (.BinOp l op r pos) c := fun ok s I Q E h => by
  rw [eval_BinOp]
  refine N_bind (hl ok s I _ _ fun v s₁ I₁ rv => N_bind (N_holding (hr ok s₁ I₁ _ _ fun u s₂ I₂ ru => N_bind (N_standAt (N_operate (N_any ?_))))))
  exact ho s₂ v u rv ru _ _ fun x k rx => h x _ I₂.tok rx
theorem Ev_un {e : Expr} {op : UnaryOp} {pos : Pos} {a c : PV} (hl : Ev C lc ld e a) (ho : Op (fun v _ => unaryOp op v) C.A a a c C.w) : Ev C lc ld (.UnaryOp op e pos) c := fun ok s I Q E h => by
  rw [arm_eval_UnaryOp]
  refine N_bind (hl ok s I _ _ fun v s₁ I₁ rv => N_bind (N_standAt (N_holding (N_any ?_))))
  exact ho s₁ v v rv rv _ _ fun x k rx => h x _ I₁.tok rx
theorem op_add {A : Around} {w : World} {a b : Int} : Op (binaryOp .Add) A (.i a) (.i b) (.i (a + b)) w := fun s v u ⟨t, hv⟩ ⟨t', hu⟩ Q E h => by subst hv hu; exact add_int (h _ _ ⟨_, rfl⟩)
theorem op_sub {A : Around} {w : World} {a b : Int} : Op (binaryOp .Sub) A (.i a) (.i b) (.i (a - b)) w := fun s v u ⟨t, hv⟩ ⟨t', hu⟩ Q E h => by subst hv hu; exact sub_int (h _ _ ⟨_, rfl⟩)
theorem op_mul {A : Around} {w : World} {a b : Int} (hb : -(2 ^ 64) < b ∧ b < 2 ^ 64 ∨ -(2 ^ 64) < a ∧ a < 2 ^ 64) : Op (binaryOp .Mult) A (.i a) (.i b) (.i (a * b)) w := fun s v u ⟨t, hv⟩ ⟨t', hu⟩ Q E h => by
  subst hv hu; exact mul_int (h _ _ ⟨_, rfl⟩) (hb.elim (fun x => IntMulOk.of_right (intBits_le_64 x.1 x.2)) fun x => IntMulOk.of_left (intBits_le_64 x.1 x.2))
theorem op_mod {A : Around} {w : World} {a b : Int} (hb : b ≠ 0) : Op (binaryOp .Mod) A (.i a) (.i b) (.i (a.fmod b)) w := fun s v u ⟨t, hv⟩ ⟨t', hu⟩ Q E h => by subst hv hu; exact mod_int' hb (h _ _ ⟨_, rfl⟩)
theorem op_div {A : Around} {w : World} {a b : Int} (hb : b ≠ 0) (hs : b.natAbs < 1073741824) : Op (binaryOp .FloorDiv) A (.i a) (.i b) (.i (a.fdiv b)) w := fun s v u ⟨t, hv⟩ ⟨t', hu⟩ Q E h => by
  subst hv hu; exact floordiv_int hb (h _ _ ⟨_, rfl⟩) (Or.inl (PyProof.noPylong_small hs))
theorem op_pow {A : Around} {w : World} {a b : Int} (h0 : 0 ≤ b) (hb : b ≤ 1000000) (ha : a.natAbs < 2 ^ 64) : Op (binaryOp .Pow) A (.i a) (.i b) (.i (a ^ b.toNat)) w := fun s v u ⟨t, hv⟩ ⟨t', hu⟩ Q E h => by
  subst hv hu; exact pow_int_small h0 hb ha (h _ _ ⟨_, rfl⟩)
theorem op_inv {A : Around} {w : World} {a : Int} : Op (fun v _ => unaryOp .Invert v) A (.i a) (.i a) (.i (Builtin.bitNot a)) w := fun s v u ⟨t, hv⟩ _ Q E h => by subst hv; exact invert_int (h _ _ ⟨_, rfl⟩)
theorem op_neg {A : Around} {w : World} {a : Int} : Op (fun v _ => unaryOp .USub v) A (.i a) (.i a) (.i (-a)) w := fun s v u ⟨t, hv⟩ _ Q E h => by subst hv; exact neg_int (h _ _ ⟨_, rfl⟩)
theorem op_iadd {A : Around} {w : World} {a b : Int} : Op (inplaceOp .Add) A (.i a) (.i b) (.i (a + b)) w := fun s v u ⟨t, hv⟩ ⟨t', hu⟩ Q E h => by subst hv hu; exact iadd_int (h _ _ ⟨_, rfl⟩)
theorem op_isub {A : Around} {w : World} {a b : Int} : Op (inplaceOp .Sub) A (.i a) (.i b) (.i (a - b)) w := fun s v u ⟨t, hv⟩ ⟨t', hu⟩ Q E h => by subst hv hu; exact isub_int (h _ _ ⟨_, rfl⟩)
theorem op_imul {A : Around} {w : World} {a b : Int} (hb : -(2 ^ 64) < b ∧ b < 2 ^ 64) : Op (inplaceOp .Mult) A (.i a) (.i b) (.i (a * b)) w := fun s v u ⟨t, hv⟩ ⟨t', hu⟩ Q E h => by
  subst hv hu; exact imul_int (h _ _ ⟨_, rfl⟩) (IntMulOk.of_right (intBits_le_64 hb.1 hb.2))
theorem op_iand {A : Around} {w : World} {a b : Int} : Op (inplaceOp .BitAnd) A (.i a) (.i b) (.i (Builtin.bitAnd a b)) w := fun s v u ⟨t, hv⟩ ⟨t', hu⟩ Q E h => by subst hv hu; exact iand_int (h _ _ ⟨_, rfl⟩)
theorem op_zeros {A : Around} {w : World} {n : Int} (h0 : 0 ≤ n) (hn : n ≤ 1048576) : Op (binaryOp .Mult) A (.y [0]) (.i n) (.y (List.replicate n.toNat 0)) w := fun s v u ⟨t, hv⟩ ⟨t', hu⟩ Q E h => by
  subst hv hu
  refine PySem.W.bytes_mul_any (by simp) (by omega) hn (by simp) fun t' k => h _ _ ⟨t', ?_⟩
  rw [show ∀ n : Nat, (List.replicate n [(0 : UInt8)]).flatten = List.replicate n 0 from fun n => by induction n with | zero => rfl | succ n ih => rw [List.replicate_succ, List.flatten_cons, ih]; rfl]
/-- a comparison of two values -/
def Cp (op : CmpOp) (A : Around) (a b : PV) (c : Bool) (w : World) : Prop :=
  ∀ (s : Shared) (v u : Value), rel a v → rel b u → ∀ (Q : Value → Shared → Prop) (E : Value → Shared → Prop), Q (.bool c) s → wpAny (model pw w) A (compareOp op v u) Q E s
theorem Ev_cmp {l r : Expr} {op : CmpOp} {pos : Pos} {a b : PV} {c : Bool} (hl : Ev C lc ld l a) (hr : Ev C lc ld r b) (ho : Cp op C.A a b c C.w) (hm : behindInMarks op r = false := by rfl) : Ev C lc ld (.Compare l [op] [r] pos) (.v (.bool c)) := fun ok s I Q E h => by
  rw [eval_Compare1, markedBehindIn_of_false hm]
  refine N_bind (hl ok s I _ _ fun v s₁ I₁ rv => N_bind (N_holding (hr ok s₁ I₁ _ _ fun u s₂ I₂ ru => N_bind (N_standAt (N_operate (N_any ?_))))))
  exact ho s₂ v u rv ru _ _ (h _ _ I₂ rfl)
theorem Tr_cmp {l r : Expr} {op : CmpOp} {pos : Pos} {a b : PV} {c : Bool} (hl : Ev C lc ld l a) (hr : Ev C lc ld r b) (ho : Cp op C.A a b c C.w) (hm : behindInMarks op r = false := by rfl) : Tr C lc ld (.Compare l [op] [r] pos) c := fun ok s I Q E h => by
  rw [isTrue_Compare1, markedBehindIn_of_false hm]
  refine N_bind (hl ok s I _ _ fun v s₁ I₁ rv => N_bind (N_holding (hr ok s₁ I₁ _ _ fun u s₂ I₂ ru => N_bind (N_standAt (N_bind (N_operate (N_any ?_)))))))
  exact ho s₂ v u rv ru _ _ (N_holding (N_any (wpAny_truthy_bool (h _ I₂))))
theorem cp_lt {A : Around} {w : World} {a b : Int} : Cp .Lt A (.i a) (.i b) (decide (a < b)) w := fun s v u ⟨t, hv⟩ ⟨t', hu⟩ Q E h => by subst hv hu; exact PyProof.Rows.lt_int h
theorem cp_le {A : Around} {w : World} {a b : Int} : Cp .LtE A (.i a) (.i b) (decide (a ≤ b)) w := fun s v u ⟨t, hv⟩ ⟨t', hu⟩ Q E h => by subst hv hu; exact PyProof.Rows.le_int h
theorem cp_gt {A : Around} {w : World} {a b : Int} : Cp .Gt A (.i a) (.i b) (decide (b < a)) w := fun s v u ⟨t, hv⟩ ⟨t', hu⟩ Q E h => by subst hv hu; exact PyProof.Rows.gt_int h
theorem cp_ge {A : Around} {w : World} {a b : Int} : Cp .GtE A (.i a) (.i b) (decide (b ≤ a)) w := fun s v u ⟨t, hv⟩ ⟨t', hu⟩ Q E h => by subst hv hu; exact PyProof.Rows.ge_int h
theorem cp_eq {A : Around} {w : World} {a b : Int} : Cp .Eq A (.i a) (.i b) (decide (a = b)) w := fun s v u ⟨t, hv⟩ ⟨t', hu⟩ Q E h => by subst hv hu; exact PyProof.Rows.eq_int h
theorem cp_ne {A : Around} {w : World} {a b : Int} : Cp .NotEq A (.i a) (.i b) (!decide (a = b)) w := fun s v u ⟨t, hv⟩ ⟨t', hu⟩ Q E h => by subst hv hu; exact PyProof.Rows.ne_int h
theorem cp_isnone {A : Around} {w : World} {a : PV} {c : Bool} (hc : ∀ v, rel a v → (v == Value.none) = c) : Cp .Is A a (.v .none) c w := fun s v u hv hu Q E h => by
  have hu : u = .none := hu
  subst hu
  refine is_none_gen ?_
  rw [hc v hv]; exact h
theorem cp_isnt {A : Around} {w : World} {a : PV} {c : Bool} (hc : ∀ v, rel a v → (v == Value.none) = !c) : Cp .IsNot A a (.v .none) c w := fun s v u hv hu Q E h => by
  have hu : u = .none := hu
  subst hu
  refine isnot_none_gen ?_
  rw [hc v hv, Bool.not_not]; exact h
theorem none_i {n : Int} : ∀ v, rel (.i n) v → (v == Value.none) = false := fun v ⟨t, h⟩ => by subst h; rfl
theorem none_y {b : List UInt8} : ∀ v, rel (.y b) v → (v == Value.none) = false := fun v ⟨t, h⟩ => by subst h; rfl
theorem none_n : ∀ v, rel (.v .none) v → (v == Value.none) = true := fun v h => by subst h; rfl
/-- the truth of a value -/
def Th (A : Around) (w : World) (p : PV) (c : Bool) : Prop := ∀ (s : Shared) (v : Value), rel p v → ∀ (Q : Bool → Shared → Prop) (E : Value → Shared → Prop), Q c s → wpAny (model pw w) A (truthy v) Q E s
theorem th_bool {A : Around} {w : World} {b : Bool} : Th A w (.v (.bool b)) b := fun s v h Q E k => by subst h; exact wpAny_truthy_bool k
theorem th_int {A : Around} {w : World} {n : Int} : Th A w (.i n) (!decide (n = 0)) := fun s v ⟨t, h⟩ Q E k => by subst h; exact PyProof.Rows.truthy_int k
theorem th_none {A : Around} {w : World} : Th A w (.v .none) false := fun s v h Q E k => by subst h; exact truthy_none k
theorem Tr_ev {e : Expr} {p : PV} {c : Bool} (h : Ev C lc ld e p) (hc : Th C.A C.w p c) (he : ∀ env whole, PySem.isTrue e env whole = (do let v ← whole; standAt (Expr.pos e); holding [v] (truthy v)) := by intros; rfl) : Tr C lc ld e c := fun ok s I Q E k => by
  rw [he]
  exact N_bind (h ok s I _ _ fun v s₁ I₁ r => N_bind (N_standAt (N_holding (N_any (hc s₁ v r _ _ (k _ I₁))))))
theorem Tr_not {e : Expr} {pos : Pos} {c : Bool} (h : Tr C lc ld e c) : Tr C lc ld (.UnaryOp .Not e pos) (!c) := fun ok s I Q E k => by
  rw [arm_isTrue_UnaryOp]
  exact N_bind (h ok s I _ _ fun s₁ I₁ => N_pure (k _ I₁))
theorem Tr_and2 {a b : Expr} {pos : Pos} {c d : Bool} (h : Tr C lc ld a c) (h' : c = true → Tr C lc ld b d) : Tr C lc ld (.BoolOp .And [a, b] pos) (c && d) := fun ok s I Q E k => by
  show wpN _ _ (allTrue .And [a, b] C.env) _ _ _
  rw [arm_allTrue_cons]
  refine N_bind (h ok s I _ _ fun s₁ I₁ => ?_)
  cases c with
  | false => exact N_pure (k _ I₁)
  | true =>
    dsimp only
    rw [arm_allTrue_cons]
    refine N_bind (h' rfl ok s₁ I₁ _ _ fun s₂ I₂ => ?_)
    cases d with
    | false => exact N_pure (k _ I₂)
    | true => dsimp only; rw [arm_allTrue_nil]; exact N_pure (k _ I₂)
theorem Tr_or2 {a b : Expr} {pos : Pos} {c d : Bool} (h : Tr C lc ld a c) (h' : c = false → Tr C lc ld b d) : Tr C lc ld (.BoolOp .Or [a, b] pos) (c || d) := fun ok s I Q E k => by
  show wpN _ _ (allTrue .Or [a, b] C.env) _ _ _
  rw [arm_allTrue_cons]
  refine N_bind (h ok s I _ _ fun s₁ I₁ => ?_)
  cases c with
  | true => exact N_pure (k _ I₁)
  | false =>
    dsimp only
    rw [arm_allTrue_cons]
    refine N_bind (h' rfl ok s₁ I₁ _ _ fun s₂ I₂ => ?_)
    cases d with
    | true => exact N_pure (k _ I₂)
    | false => dsimp only; rw [arm_allTrue_nil]; exact N_pure (k _ I₂)
theorem Ev_ite {t a b : Expr} {pos : Pos} {c : Bool} {p : PV} (h : Tr C lc ld t c) (ha : c = true → Ev C lc ld a p) (hb : c = false → Ev C lc ld b p) : Ev C lc ld (.IfExp t a b pos) p := fun ok s I Q E k => by
  rw [arm_eval_IfExp]
  refine N_bind (h ok s I _ _ fun s₁ I₁ => ?_)
  cases c with
  | true => rw [if_pos rfl]; exact ha rfl ok s₁ I₁ Q E k
  | false => rw [if_neg Bool.false_ne_true]; exact hb rfl ok s₁ I₁ Q E k
theorem Ex_ite {t a b : Expr} {pos : Pos} {c : Bool} {P : PV → Ld → Prop} (h : Tr C lc ld t c) (ha : c = true → Ex C lc ld a P) (hb : c = false → Ex C lc ld b P) : Ex C lc ld (.IfExp t a b pos) P := fun ok s I Q E k => by
  rw [arm_eval_IfExp]
  refine N_bind (h ok s I _ _ fun s₁ I₁ => ?_)
  cases c with
  | true => rw [if_pos rfl]; exact ha rfl ok s₁ I₁ Q E k
  | false => rw [if_neg Bool.false_ne_true]; exact hb rfl ok s₁ I₁ Q E k
/-- a <= x <= b -/
theorem Tr_chain {l m r : Expr} {o1 o2 : CmpOp} {pos : Pos} {a b c : PV} {d e : Bool} (hl : Ev C lc ld l a) (hm : Ev C lc ld m b) (hr : Ev C lc ld r c) (h1 : Cp o1 C.A a b d C.w) (h2 : Cp o2 C.A b c e C.w)
    (hk : lastMarks [o1, o2] [m, r] = false := by rfl) : Tr C lc ld (.Compare l [o1, o2] [m, r] pos) (d && e) := fun ok s I Q E k => by
  have e0 : PySem.isTrue (.Compare l [o1, o2] [m, r] pos) C.env (eval (.Compare l [o1, o2] [m, r] pos) C.env) = (do testChain pos (← eval l C.env) [o1, o2] (markedEach [o1, o2] [m, r] (evalEach [m, r] C.env))) := rfl
  rw [e0, markedEach_of_false _ _ _ hk]
  refine N_bind (hl ok s I _ _ fun v s₁ I₁ rv => ?_)
  show wpN _ _ (do
    let rv ← holding [v] (eval m C.env)
    standAt pos
    let c ← holding [v, rv] (compareOp o1 v rv)
    release [v, rv] [c]
    if ← holding [c, rv] (truthy c) then testChain pos rv [o2] [eval r C.env] else pure false) _ _ _
  refine N_bind (N_holding (hm ok s₁ I₁ _ _ fun u s₂ I₂ ru => N_bind (N_standAt (N_bind (N_holding (N_any (h1 s₂ v u rv ru _ _ (N_bind (N_release (N_bind (N_holding (N_any (wpAny_truthy_bool ?_)))))))))))))
  cases d with
  | false => rw [if_neg Bool.false_ne_true]; exact N_pure (k _ I₂)
  | true =>
    rw [if_pos rfl]
    show wpN _ _ (do
      let rv ← holding [u] (eval r C.env)
      standAt pos
      let c ← operate [u, rv] (compareOp o2 u rv)
      holding [c] (truthy c)) _ _ _
    exact N_bind (N_holding (hr ok s₂ I₂ _ _ fun x s₃ I₃ rx => N_bind (N_standAt (N_bind (N_operate (N_any (h2 s₃ u x ru rx _ _ (N_holding (N_any (wpAny_truthy_bool (k _ I₃)))))))))))
end
section
variable {C : Cn} {lc : Lc} {ld : Ld} {s : Shared}
theorem ns_of {h h' : Heap} {L : Addr} {m : Str → Option Value} (n : h.Ns L m) (k : ∀ o, h.get? L = some o → h'.get? L = some o) : h'.Ns L m := by
  obtain ⟨o, es, ep, e, r⟩ := n
  exact ⟨o, es, ep, k o e, r⟩
theorem relH_split : ∀ {pre post : Ld} {x : Addr} {o : PO} {news : List (Addr × Obj)}, relH (pre ++ (x, o) :: post) news → ∃ u ob w, news = u ++ (x, ob) :: w ∧ relH pre u ∧ relO o ob ∧ relH post w := by
  intro pre post x o news h
  obtain ⟨u, u', e, a, b⟩ := relH_app h
  cases u' with
  | nil => exact b.elim
  | cons v w =>
    obtain ⟨b1, b2, b3⟩ := b
    refine ⟨u, v.2, w, ?_, a, b2, b3⟩
    rw [e, show v = (x, v.2) from Prod.ext b1.symm rfl]
theorem St.change {pre post : Ld} {x : Addr} {o o' : PO} {h' : Heap} {ob : Obj} {t : Nat} (I : St C lc (pre ++ (x, o) :: post) s) (hk : ∀ a ob, a ≠ x → s.heap.get? a = some ob → h'.get? a = some ob)
    (hx : h'.get? x = some ob) (ho : relO o' ob) : St C lc (pre ++ (x, o') :: post) { s with heap := h', toks := t } := by
  refine St.el I fun m news F N H l nd os gens => ?_
  obtain ⟨u, ob₀, w, rfl, Hu, _, Hw⟩ := relH_split H
  have hn := N (x, ob₀) (by simp)
  have nd' : ((u ++ (x, ob₀) :: w).map (·.1)).Nodup := relH_keys H ▸ nd
  rw [List.map_append, List.map_cons] at nd'
  have n1 : ∀ p ∈ u, p.1 ≠ x := fun p hp e => (List.nodup_append.mp nd').2.2 p.1 (List.mem_map_of_mem hp) x (.head _) e
  have n2 : ∀ p ∈ w, p.1 ≠ x := fun p hp e => (List.nodup_cons.mp (List.nodup_append.mp nd').2.1).1 (List.mem_map.mpr ⟨p, hp, e⟩)
  have key : (pre ++ (x, o') :: post).map (·.1) = (pre ++ (x, o) :: post).map (·.1) := by simp
  refine ⟨⟨m, u ++ (x, ob) :: w, ⟨ns_of F.ns fun o e => hk _ _ (Ne.symm hn.2.1) e, fun b ob' e => hk b ob' (fun q => ?_) (F.keep b ob' e), F.above⟩, fun p hp => ?_, relH_mk Hu ⟨rfl, ho, Hw⟩, l⟩, key ▸ nd, os, gens⟩
  · rw [q, hn.2.2] at e; cases e
  · rcases List.mem_append.mp hp with hp | hp
    · have z := N p (List.mem_append_left _ hp)
      exact ⟨hk _ _ (n1 p hp) z.1, z.2⟩
    · rcases List.mem_cons.mp hp with rfl | hp
      · exact ⟨hx, hn.2⟩
      · have z := N p (List.mem_append_right _ (.tail _ hp))
        exact ⟨hk _ _ (n2 p hp) z.1, z.2⟩
theorem St.keep {h' : Heap} {t : Nat} (I : St C lc ld s) (hk : ∀ a ob, s.heap.get? a = some ob → h'.get? a = some ob) : St C lc ld { s with heap := h', toks := t } := by
  refine St.el I fun m news F N H l nd os gens => ?_
  exact ⟨⟨m, news, ⟨ns_of F.ns fun o e => hk _ _ e, fun b ob' e => hk b ob' (F.keep b ob' e), F.above⟩, fun p hp => ⟨hk _ _ (N p hp).1, (N p hp).2⟩, H, l⟩, nd, os, gens⟩
theorem St.grow {h' : Heap} {t : Nat} {a : Addr} {o : PO} {ob : Obj} (I : St C lc ld s) (hk : ∀ a ob, s.heap.get? a = some ob → h'.get? a = some ob) (ha : s.heap.get? a = none) (hx : h'.get? a = some ob) (ho : relO o ob) : St C lc ((a, o) :: ld) { s with heap := h', toks := t } := by
  refine St.el I fun m news F N H l nd os gens => ?_
  obtain ⟨oL, es, ep, hL, r⟩ := F.ns
  have nL : a ≠ C.L := fun q => by rw [q, hL] at ha; cases ha
  have n0 : C.h₀.get? a = none := by
    cases q : C.h₀.get? a with
    | none => rfl
    | some o => rw [F.keep _ _ q] at ha; cases ha
  refine ⟨⟨m, (a, ob) :: news, ⟨⟨oL, es, ep, hk _ _ hL, r⟩, fun b ob' e => hk b ob' (F.keep b ob' e), F.above⟩, fun p hp => ?_, ⟨rfl, ho, H⟩, l⟩, ?_, os, gens⟩
  · rcases List.mem_cons.mp hp with rfl | hp
    · exact ⟨hx, nL, n0⟩
    · exact ⟨hk _ _ (N p hp).1, (N p hp).2⟩
  · rw [List.map_cons, List.nodup_cons]
    refine ⟨fun hm => ?_, nd⟩
    rw [relH_keys H] at hm
    obtain ⟨p, hp, e⟩ := List.mem_map.mp hm
    have := (N p hp).1
    rw [e, ha] at this; cases this
theorem St.at_ {x : Addr} {o : PO} (I : St C lc ld s) (hm : (x, o) ∈ ld) : ∃ ob, s.heap.get? x = some ob ∧ relO o ob := by
  refine St.el I fun m news F N H l nd os gens => ?_
  obtain ⟨u, hu, hm'⟩ := relH_mem H hm
  exact ⟨u, (N _ hm').1, hu⟩
/-- fewer locals, fewer objects -/
theorem St.less {lc' : Lc} {ld' : Ld} (I : St C lc ld s) (hl : ∀ x p, lc'.lookup x = some p → lc.lookup x = some p) (hd : ld'.Sublist ld) : St C lc' ld' s := by
  refine St.el I fun m news F N H l nd os gens => ?_
  have key : ∀ {a b : Ld} {n : List (Addr × Obj)}, a.Sublist b → relH b n → ∃ n', relH a n' ∧ ∀ p ∈ n', p ∈ n := by
    intro a b n h
    induction h generalizing n with
    | slnil => intro h; exact ⟨n, h, fun _ h => h⟩
    | cons x _ ih =>
      intro h
      cases n with
      | nil => exact h.elim
      | cons y n =>
        obtain ⟨n', a, b⟩ := ih h.2.2
        exact ⟨n', a, fun p hp => .tail _ (b p hp)⟩
    | cons_cons x _ ih =>
      intro h
      cases n with
      | nil => exact h.elim
      | cons y n =>
        obtain ⟨n', a, b⟩ := ih h.2.2
        refine ⟨y :: n', ⟨h.1, h.2.1, a⟩, fun p hp => ?_⟩
        rcases List.mem_cons.mp hp with rfl | hp
        · exact .head _
        · exact .tail _ (b p hp)
  obtain ⟨n', h1, h2⟩ := key hd H
  exact ⟨⟨m, n', F, fun p hp => N p (h2 p hp), h1, fun x p e => l x p (hl x p e)⟩, (hd.map _).nodup nd, os, gens⟩
theorem St.store {x : Str} {p : PV} {v : Value} (I : St C lc ld s) (ok : C.Ok) (r : rel p v) (hx : C.env.kindOf x = some .local) {Q : Unit → Shared → Prop} {E : Value → Shared → Prop} (h : ∀ s', St C ((x, p) :: lc) ld s' → Q () s') :
    wpAny C.M C.A (storeName C.env x v) Q E s := by
  refine St.el I fun m news F N H l nd os gens => ?_
  refine wpAny_storeName_local hx F.ns (fun h' hn hs => h _ ⟨⟨_, news, F.set hn hs, N.set hs, H, fun y q hq => ?_⟩, nd, os, gens⟩) (by show (C.sc.kind == .class || (C.sc.kind == .module && C.L != mainGlobals)) = false; rw [ok.fn]; rfl)
  by_cases e : y = x
  · subst e
    rw [List.lookup_cons_self] at hq
    cases hq
    exact ⟨v, if_pos rfl, r⟩
  · rw [List.lookup_cons, show (y == x) = false from beq_eq_false_iff_ne.mpr e] at hq
    obtain ⟨v', hv, rv⟩ := l y q hq
    exact ⟨v', by rw [if_neg e]; exact hv, rv⟩
end
section
variable {C : Cn} {lc : Lc} {ld : Ld} {K : Fl → Lc → Ld → Prop} {rest : List Stmt}
theorem Bl_nil (h : K .next lc ld) : Bl C lc ld [] K := fun ok s I Q E k => N_any (wpAny_execs_nil (k .next .next lc ld s I trivial h))
theorem Bl_less {lc' : Lc} {ld' : Ld} {b : List Stmt} (h : Bl C lc' ld' b K) (hl : ∀ x p, lc'.lookup x = some p → lc.lookup x = some p) (hd : ld'.Sublist ld) : Bl C lc ld b K := fun ok s I Q E k => h ok s (I.less hl hd) Q E k
theorem Bl_mono {K' : Fl → Lc → Ld → Prop} {b : List Stmt} (h : Bl C lc ld b K') (hK : ∀ f l d, K' f l d → K f l d) : Bl C lc ld b K := fun ok s I Q E k => h ok s I Q E fun fl f lc' ld' s' I' r hk => k fl f lc' ld' s' I' r (hK _ _ _ hk)
theorem Bl_asgx {x : Str} {xp pos : Pos} {e : Expr} {P : PV → Ld → Prop} (he : Ex C lc ld e P) (h : ∀ p ld', P p ld' → Bl C ((x, p) :: lc) ld' rest K) (hx : C.env.kindOf x = some .local)
    (hs : swapsWith e (some (.Name x xp)) pos.line C.env = pure false := by rfl) : Bl C lc ld (.Assign [.Name x xp] e pos :: rest) K := fun ok s I Q E k => by
  refine N_execs_cons ?_
  rw [exec_Assign_Name C.env x xp e pos hs]
  exact N_bind (N_standAt (N_bind (he ok s I _ _ fun v p ld' s₁ I₁ r hp => N_bind (N_standAt (N_bind (N_bindName (N_any (I₁.store ok r hx fun s₂ I₂ => N_pure (h p ld' hp ok s₂ I₂ Q E k)))))))))
theorem Bl_asg {x : Str} {xp pos : Pos} {e : Expr} {p : PV} (he : Ev C lc ld e p) (h : Bl C ((x, p) :: lc) ld rest K) (hx : C.env.kindOf x = some .local)
    (hs : swapsWith e (some (.Name x xp)) pos.line C.env = pure false := by rfl) : Bl C lc ld (.Assign [.Name x xp] e pos :: rest) K :=
  Bl_asgx he.ex (fun p' ld' ⟨a, b⟩ => by subst a b; exact h) hx hs
theorem Bl_aug {x : Str} {xp pos : Pos} {op : Operator} {e : Expr} {a b c : PV} (hl : lc.lookup x = some a) (he : Ev C lc ld e b) (ho : Op (inplaceOp op) C.A a b c C.w) (h : Bl C ((x, c) :: lc) ld rest K) (hx : C.env.kindOf x = some .local) :
    Bl C lc ld (.AugAssign (.Name x xp) op e pos :: rest) K := fun ok s I Q E k => by
  refine N_execs_cons ?_
  rw [exec_AugAssign_Name]
  refine N_bind (N_standAt (N_bind ?_))
  obtain ⟨m, news, F, N, H, l⟩ := I.ex
  obtain ⟨v, hv, r⟩ := l x a hl
  refine N_any (wpAny_loadName_local ok.fn hx F.ns hv ?_)
  refine N_bind (N_holding (he ok s I _ _ fun u s₁ I₁ ru => N_bind (N_standAt (N_bind (N_operate (N_any (ho s₁ v u r ru _ _ fun z t rz => ?_)))))))
  exact N_bind (N_standAt (N_bind (N_bindName (N_any (I₁.tok.store ok rz hx fun s₂ I₂ => N_pure (h ok s₂ I₂ Q E k))))))
abbrev Kr (C : Cn) (rest : List Stmt) (K : Fl → Lc → Ld → Prop) : Fl → Lc → Ld → Prop := fun f l d => match f with | .next => Bl C l d rest K | f => K f l d
theorem Bl_if {t : Expr} {b o : List Stmt} {pos : Pos} {c : Bool} (ht : Tr C lc ld t c) (h1 : c = true → Bl C lc ld b (Kr C rest K)) (h2 : c = false → Bl C lc ld o (Kr C rest K)) :
    Bl C lc ld (.If t b o pos :: rest) K := fun ok s I Q E k => by
  refine N_execs_cons ?_
  rw [exec_If]
  refine N_bind (N_standAt (N_bind (ht ok s I _ _ fun s₁ I₁ => ?_)))
  have fin : ∀ (bb : List Stmt), Bl C lc ld bb (fun f l d => match f with | .next => Bl C l d rest K | f => K f l d) → wpN C.M C.A (execs bb C.env) (fun f s' => match f with | .next => wpN C.M C.A (execs rest C.env) Q E s' | f => Q f s') E s₁ := fun bb hb =>
    hb ok s₁ I₁ _ _ fun fl f lc' ld' s' I' r hk => by
      cases fl <;> cases f <;> first | exact r.elim | exact hk ok s' I' Q E k | exact k _ _ _ _ _ I' r hk
  cases c with
  | true => rw [if_pos rfl]; exact fin b (h1 rfl)
  | false => rw [if_neg Bool.false_ne_true]; exact fin o (h2 rfl)
theorem Bl_retx {e : Expr} {pos : Pos} {P : PV → Ld → Prop} (he : Ex C lc ld e P) (h : ∀ p ld', P p ld' → K (.ret p) lc ld') : Bl C lc ld (.Return (some e) pos :: rest) K := fun ok s I Q E k => by
  refine N_execs_cons ?_
  rw [exec_Return_some]
  exact N_bind (N_standAt (N_bind (he ok s I _ _ fun v p ld' s₁ I₁ r hp => N_pure (k (.ret v) (.ret p) lc ld' s₁ I₁ r (h p ld' hp)))))
theorem Bl_ret {e : Expr} {pos : Pos} {p : PV} (he : Ev C lc ld e p) (h : K (.ret p) lc ld) : Bl C lc ld (.Return (some e) pos :: rest) K := Bl_retx he.ex fun p' ld' ⟨a, b⟩ => by subst a b; exact h
theorem Bl_retn {pos : Pos} (h : K (.ret (.v .none)) lc ld) : Bl C lc ld (.Return none pos :: rest) K := fun ok s I Q E k => by
  refine N_execs_cons ?_
  rw [exec_Return_none]
  exact N_bind (N_standAt (N_pure (k _ (.ret (.v .none)) lc ld s I rfl h)))
def notRef : PV → Prop
  | .v (.ref _) => False
  | _ => True
theorem notRef_of {p : PV} {v : Value} (h : notRef p) (r : rel p v) : ∀ a, v ≠ .ref a := fun a e => by
  subst e
  cases p with
  | i n => obtain ⟨t, e⟩ := r; cases e
  | y b => obtain ⟨t, e⟩ := r; cases e
  | s b => obtain ⟨t, e⟩ := r; cases e
  | v u => have : Value.ref a = u := r; subst this; exact h
theorem Bl_ex {e : Expr} {pos : Pos} {P : PV → Ld → Prop} (he : Ex C lc ld e P) (h : ∀ p ld', P p ld' → notRef p ∧ Bl C lc ld' rest K)
    (hi : interactive C.env = false := by rfl) (hs : swapsWith e none pos.line C.env = pure false := by rfl) : Bl C lc ld (.Expr e pos :: rest) K := fun ok s I Q E k => by
  refine N_execs_cons ?_
  rw [exec_Expr C.env e pos hi hs]
  refine N_bind (N_standAt (N_bind (he ok s I _ _ fun v p ld' s₁ I₁ r hp => ?_)))
  rw [dropValue_plain (notRef_of (h p ld' hp).1 r)]
  exact N_pure ((h p ld' hp).2 ok s₁ I₁ Q E k)
/-- self.a = e, the object somewhere in the ledger -/
theorem Bl_sta {o : Str} {op ap pos : Pos} {a : Str} {e : Expr} {P : PV → Ld → Prop} {x dx c : Addr} {i : Nat} (he : Ex C lc ld e P) (ho : ∀ ld', Ea C lc ld' (.Name o op) (.v (.ref x)))
    (h : ∀ p ld', P p ld' → ∃ pre post sl od, ld' = pre ++ (x, PO.ins c dx sl) :: post ∧ (dx, PO.raw od) ∈ ld' ∧ i < sl.length ∧ Bl C lc (pre ++ (x, .ins c dx (sl.set i (some p))) :: post) rest K) (hi : i < 1000)
    (hok : ∀ P, slotOk (frag P) c a i = true)
    (hs : swapsWith e (some (.Attribute (.Name o op) a ap)) pos.line C.env = pure false := by rfl) : Bl C lc ld (.Assign [.Attribute (.Name o op) a ap] e pos :: rest) K := fun ok s I Q E k => by
  refine N_execs_cons ?_
  rw [plainObj_exec_Assign_Attribute _ _ _ _ _ hs]
  refine N_bind (N_standAt (N_bind (he ok s I _ _ fun v p ld' s₁ I₁ r hp => ?_)))
  obtain ⟨pre, post, sl, od, rfl, hd, hl, hb⟩ := h p ld' hp
  refine N_bind ?_
  rw [arm_assign_Attribute]
  refine N_bind (N_holding (N_any (ho _ ok s₁ I₁ _ _ fun ov s₂ I₂ ro => ?_)))
  have ro : ov = .ref x := ro
  subst ro
  refine N_bind (N_standAt (N_bind (N_holding (N_any ?_))))
  refine St.el I₂ fun m news F N H l nd os gens => ?_
  obtain ⟨u, ob, w, rfl, Hu, ⟨vs, hvs, rfl⟩, Hw⟩ := relH_split H
  obtain ⟨od', rfl, hd'⟩ := relH_mem H hd
  have nd' : ((u ++ (x, (⟨.ref c, some dx, .plain, vs.toArray⟩ : Obj)) :: w).map (·.1)).Nodup := relH_keys H ▸ nd
  rw [List.map_append, List.map_cons] at nd'
  have n1 : ∀ p ∈ u, p.1 ≠ x := fun p hp e => (List.nodup_append.mp nd').2.2 p.1 (List.mem_map_of_mem hp) x (.head _) e
  have n2 : ∀ p ∈ w, p.1 ≠ x := fun p hp e => (List.nodup_cons.mp (List.nodup_append.mp nd').2.1).1 (List.mem_map.mpr ⟨p, hp, e⟩)
  have U : Upd x (⟨.ref c, some dx, .plain, vs.toArray⟩ : Obj) (⟨.ref c, some dx, .plain, (vs.set i (some v)).toArray⟩ : Obj) (u ++ (x, ⟨.ref c, some dx, .plain, vs.toArray⟩) :: w) (u ++ (x, ⟨.ref c, some dx, .plain, (vs.set i (some v)).toArray⟩) :: w) := by
    clear hd' N H nd' hvs Hu
    induction u with
    | nil => exact .head n2
    | cons q u ih => exact .tail (n1 q (.head _)) (ih fun p hp => n1 p (.tail _ hp))
  have key : (pre ++ (x, PO.ins c dx (sl.set i (some p))) :: post).map (·.1) = (pre ++ (x, PO.ins c dx sl) :: post).map (·.1) := by simp
  refine sSlot F ok.X N ⟨N.get (by simp), rfl, rfl, N.get hd'⟩ (hok _) hi (ox' := ⟨.ref c, some dx, .plain, (vs.set i (some v)).toArray⟩) ?_ rfl U fun h' F' N' => ?_
  · have : i + 1 - vs.toArray.size = 0 := by rw [List.size_toArray, ← relS_len hvs]; omega
    simp only [this]
    simp
  · refine N_release (N_pure ?_)
    have H' : relH (pre ++ (x, PO.ins c dx (sl.set i (some p))) :: post) (u ++ (x, (⟨.ref c, some dx, .plain, (vs.set i (some v)).toArray⟩ : Obj)) :: w) := relH_mk Hu ⟨rfl, ⟨_, relS_set hvs r, rfl⟩, Hw⟩
    have I' : St C lc (pre ++ (x, PO.ins c dx (sl.set i (some p))) :: post) { s₂ with heap := h', toks := s₂.toks + 1 } := ⟨⟨m, _, F', N', H', l⟩, key ▸ nd, os, gens⟩
    exact hb ok _ I' Q E k
end
section
variable {prog : Program} {w : World} {A : Around} {s : Shared} {R : Result → Shared → Prop}
theorem codeN_func {body : List Stmt} {env : Env} (h : wpN (model prog w) (A.deeper env) (execs body env) (fun f s' => R (.ok (.ret (match f with | .ret v => v | _ => .none))) s') (fun _ _ => False) s) : codeN (model prog w) A (.func body env) R s := by
  refine codeN_of_tree rfl ?_
  show wpN _ (A.deeper env) (do point; match ← (execs body env).onRaise (leaving env) with | .ret v => ret v | _ => ret .none) _ _ s
  refine N_bind (N_point (N_bind (N_onRaise (N_mono h (fun f s' h' => ?_) fun _ _ h' => h'.elim))))
  cases f <;> exact N_pure h'
theorem codeN_call_function {a : Addr} {args : Args} {o : Obj} {fd : FuncData} {body : List Stmt} (hroom : A.depth < recursionLimit) (ho : s.heap.get? a = some o)
    (hd' : o.data = .func fd) (hco : fd.scope.isCoroutine = false) (hgen : fd.scope.isGenerator = false) (hbody : fd.body = .stmts body) (hcd : s.heap.CodeRec fd.code fd.qualname)
    (h : wpAny (model prog w) A.in1 (bindArgs fd args) (fun binds s₁ =>
      wpAny (model prog w) A.in1 (newFunctionEnv fd.scope fd.globals fd.closure binds (fd.qualname ++ ".<locals>.") (some a) fd.code none fd.builtins)
        (fun env s₂ => s₂.heap.NoLimit ∧ codeN (model prog w) A (.func body env) R s₂) (fun _ _ => False) s₁) (fun _ _ => False) s) :
    codeN (model prog w) A (.call (.ref a) args) R s := by
  refine codeN_of_tree rfl ?_
  show wpN _ A.in1 (callAny (.ref a) args) _ _ s
  simp only [callAny]
  refine N_any (wpAny_bind (wpAny_load ho ?_))
  obtain ⟨c, oc, vs, tq, hc, hoc, hdc, hq⟩ := hcd
  simp only [hd', callFunction, hco, hgen, hbody, hc]
  rw [hc] at h
  refine wpAny_bind (m := field (.ref c) 1) (wpAny_field hoc hdc hq (wpAny_bind (wpAny_pure ?_)))
  exact wpAny_bind (wpAny_mono h (fun binds s₁ h₁ => wpAny_bind (wpAny_mono h₁ (fun env s₂ h₂ => wpAny_bind (wpAny_enterFrame h₂.1 hroom
    (wpAny_pure (And.intro rfl h₂.2)))) fun _ _ h' => h'.elim)) fun _ _ h' => h'.elim)
end
/-- the arguments of a def, by name -/
def relB (lc : Lc) (binds : List (Str × Value)) : Prop := ∀ x p, lc.lookup x = some p → ∃ v, binds.reverse.lookup x = some v ∧ rel p v
theorem lookup_rev {α : Type} : ∀ {l : List (Str × α)}, (l.map (·.1)).Nodup → ∀ x, l.reverse.lookup x = l.lookup x
  | [], _, _ => rfl
  | (k, v) :: l, h, x => by
    rw [List.map_cons, List.nodup_cons] at h
    rw [List.reverse_cons, List.lookup_append, lookup_rev h.2, List.lookup_cons]
    by_cases e : x = k
    · subst e
      have : l.lookup x = none := by
        rw [List.lookup_eq_none_iff]
        intro p hp
        exact bne_iff_ne.mpr fun q => h.1 (List.mem_map.mpr ⟨p, hp, q.symm⟩)
      rw [this]; simp
    · have hb : (x == k) = false := beq_eq_false_iff_ne.mpr e
      rw [hb, List.lookup_cons, hb]
      cases l.lookup x <;> rfl
theorem zip_keys {α : Type} : ∀ (names : List Str) (vs : List α), ((names.zip vs).map (·.1)).Sublist names
  | [], _ => List.Sublist.slnil
  | n :: ns, [] => List.nil_sublist _
  | n :: ns, v :: vs => (zip_keys ns vs).cons_cons n
theorem relB_zip {names : List Str} (hn : names.Nodup) : ∀ {ps : List PV} {vs : List Value}, relL ps vs → relB (names.zip ps) (names.zip vs) := fun {ps vs} h x p hp => by
  have key : ((names.zip vs).map (·.1)).Nodup := by
    exact List.Sublist.nodup (zip_keys names vs) hn
  rw [lookup_rev key]
  clear key hn
  induction names generalizing ps vs with
  | nil => cases hp
  | cons n ns ih =>
    cases ps with
    | nil => cases hp
    | cons q qs =>
      cases vs with
      | nil => exact h.elim
      | cons v vs =>
        rw [List.zip_cons_cons, List.lookup_cons] at hp ⊢
        cases hx : x == n with
        | true => rw [hx] at hp; cases hp; exact ⟨v, rfl, h.1⟩
        | false => rw [hx] at hp; exact ih h.2 hp
/-- a def with keywords -/
def FnK (f : Addr) (k : Nat) (ps : List PV) (kn : List Str) (ks : List PV) (ld : Ld) (P : PV → Ld → Prop) : Prop :=
  ∀ (C : Cn), C.Ok → k ≤ C.k → ∀ lc s, St C lc ld s → ∀ vs us, relL ps vs → relL ks us → ∀ (R : Result → Shared → Prop), (∀ v p ld' s', St C lc ld' s' → rel p v → P p ld' → R (.ok (.ret v)) s') →
    codeN C.M C.A (.call (.ref f) ⟨vs, kn.zip us⟩) R s
theorem Fn.kw {f : Addr} {k : Nat} {ps : List PV} {ld : Ld} {P : PV → Ld → Prop} (h : Fn f k ps ld P) : FnK f k ps [] [] ld P := fun C ok hk lc s I vs us hv hu R r => h C ok hk lc s I vs hv R r
theorem Fn.mono {f : Addr} {k k' : Nat} {ps : List PV} {ld : Ld} {P P' : PV → Ld → Prop} (h : Fn f k ps ld P) (hk : k ≤ k') (hP : ∀ p ld', P p ld' → P' p ld') : Fn f k' ps ld P' := fun C ok hk' lc s I vs hv R r => h C ok (Nat.le_trans hk hk') lc s I vs hv R fun v p ld' s' I' rv hp => r v p ld' s' I' rv (hP _ _ hp)
abbrev Out (P : PV → Ld → Prop) : Fl → Lc → Ld → Prop := fun fl _ ld' => match fl with | .ret p => P p ld' | .next => P (.v .none) ld' | _ => False
theorem FnK_intro {f : Addr} {k : Nat} {ps : List PV} {kn : List Str} {ks : List PV} {ld : Ld} {P : PV → Ld → Prop} {name qual : Str} {params : Arguments} {body : List Stmt} {scope : Scope} {dV kV doc pm cdv ct oc : Value} {an od : Option Addr} {osl : Array (Option Value)} {lc₀ : Lc}
    (ho : ∀ P, (frag P).lookup f = some ⟨oc, od, .func (fnOf name qual params body scope dV kV doc pm an cdv ct), osl⟩) (hcd : ∀ P, codeIn (frag P) cdv qual = true) (binds : List Value → List Value → List (Str × Value))
    (hbind : ∀ (P : Params) s vs us, (frag P).In s.heap → relL ps vs → relL ks us → BindsTo s (fnOf name qual params body scope dV kV doc pm an cdv ct) ⟨vs, kn.zip us⟩ (binds vs us) ∧ relB lc₀ (binds vs us) ∧ ∀ y ∈ binds vs us, scope.names.lookup y.1 = some .local)
    (hb : ∀ (w : World) (A : Around) (h₀ : Heap) (L : Addr) (mg mb : Str → Option Value) (os : OsState) (gens : Array GenState) (k' : Nat), k ≤ k' →
      Bl ⟨qual ++ ".<locals>.", scope, some f, cdv, some L, [], w, A, h₀, L, mg, mb, os, gens, k'⟩ lc₀ ld body (Out P))
    (hco : scope.isCoroutine = false := by rfl) (hgen : scope.isGenerator = false := by rfl) (hk : scope.kind = .function := by rfl) (hcell : ∀ x ∈ scope.names, x.2 ≠ .cell := by decide) : FnK f (k + 1) ps kn ks ld P := fun C ok hk1 lc s I vs us hv hu R r => by
  refine St.el I fun m news F N H l nd os gens => ?_
  obtain ⟨st, lv⟩ := ground1 (R := R) F N
  have X := ok.X.keeps F.keep
  obtain ⟨b1, b2, b3⟩ := hbind C.w.params s vs us X hv hu
  obtain ⟨k', hk'⟩ : ∃ k', C.k = k' + 1 := ⟨C.k - 1, by omega⟩
  have RM : Room C.A (k' + 1) := hk' ▸ ok.R
  refine codeN_call_function RM.lt (X _ _ (ho _)) rfl hco hgen rfl (codeRec_of X (hcd _)) (b1 _ _ _ _ ?_)
  refine wpAny_newFunctionEnv hcell b3 (fun h₁ hns hsb => ⟨(ok.T.nolimit.keeps F.keep).fresh _ hsb, codeN_func ?_⟩) hk
  have hk₁ : ∀ b o, s.heap.get? b = some o → h₁.get? b = some o := fun b o e => hsb.extBut b o (Nat.ne_of_lt (Heap.lt_size e)) (Heap.get?_push_of_some _ e)
  have ok' : Cn.Ok ⟨qual ++ ".<locals>.", scope, some f, cdv, some s.heap.objs.size, [], C.w, C.A.deeper (envOf qual scope s.heap.objs.size f cdv), hideAll s.heap (news.map (·.1)), s.heap.objs.size, C.mg, C.mb, C.os, C.gens, k'⟩ :=
    ⟨ok.X.keeps st, ok.T.keeps st, RM.down, hk⟩
  refine hb C.w _ _ _ C.mg C.mb C.os C.gens k' (by omega) ok' { s with heap := h₁, toks := s.toks + (binds vs us).length } ⟨⟨_, news, ⟨hns, fun b o e => hk₁ b o (of_hideAll _ e), Nat.le_of_eq (hideAll_size _ _)⟩,
    fun p hp => ⟨hk₁ _ _ (N p hp).1, Nat.ne_of_lt (Heap.lt_size (N p hp).1), hideAll_none _ (List.mem_map_of_mem hp)⟩, H, b2⟩, nd, os, gens⟩ _ _ ?_
  intro fl fa lc' ld' s' I' rf hP
  refine St.el I' fun m' news' F' N' H' l' nd' os' gens' => ?_
  have fin : ∀ v p, rel p v → P p ld' → R (.ok (.ret v)) s' := fun v p rv hp => lv v s' ⟨_, _, _, F', N', fun F₂ N₂ => r v p ld' s' ⟨⟨m, news', F₂, N₂, H', l⟩, nd', os', gens'⟩ rv hp⟩
  cases fa with
  | next => cases fl <;> first | exact rf.elim | exact fin _ (.v .none) rfl hP
  | ret p => cases fl <;> first | exact rf.elim | exact fin _ _ rf hP
  | cont => exact hP.elim
  | brk => exact hP.elim
/-- a def whose arguments are all given -/
theorem Fn_intro {f : Addr} {k : Nat} {ps : List PV} {ld : Ld} {P : PV → Ld → Prop} {name qual : Str} {params : Arguments} {body : List Stmt} {scope : Scope} {dV kV doc pm cdv ct oc : Value} {an od : Option Addr} {osl : Array (Option Value)} (names : List Str)
    (ho : ∀ P, (frag P).lookup f = some ⟨oc, od, .func (fnOf name qual params body scope dV kV doc pm an cdv ct), osl⟩) (hcd : ∀ P, codeIn (frag P) cdv qual = true)
    (hbind : ∀ vs, vs.length = ps.length → bindArgs (fnOf name qual params body scope dV kV doc pm an cdv ct) ⟨vs, []⟩ = pure (names.zip vs))
    (hloc : (names.all fun x => decide (scope.names.lookup x = some .local)) = true) (hn : names.Nodup)
    (hb : ∀ (w : World) (A : Around) (h₀ : Heap) (L : Addr) (mg mb : Str → Option Value) (os : OsState) (gens : Array GenState) (k' : Nat), k ≤ k' →
      Bl ⟨qual ++ ".<locals>.", scope, some f, cdv, some L, [], w, A, h₀, L, mg, mb, os, gens, k'⟩ (names.zip ps) ld body (Out P))
    (hco : scope.isCoroutine = false := by rfl) (hgen : scope.isGenerator = false := by rfl) (hk : scope.kind = .function := by rfl) (hcell : ∀ x ∈ scope.names, x.2 ≠ .cell := by decide) : Fn f (k + 1) ps ld P := fun C ok hk1 lc s I vs hv R r =>
  FnK_intro (ps := ps) (kn := []) (ks := []) (lc₀ := names.zip ps) ho hcd (fun vs _ => names.zip vs) (fun P s vs us X hv _ => ⟨BindsTo.of_eq (hbind vs (relL_len hv).symm), relB_zip hn hv, fun y hy => by
    have := List.all_eq_true.mp hloc y.1 (List.of_mem_zip hy).1
    exact of_decide_eq_true this⟩) hb hco hgen hk hcell C ok hk1 lc s I vs [] hv trivial R r
def isStar : Expr → Bool
  | .Starred .. => true
  | _ => false
theorem star_cons {e : Expr} {es : List Expr} {env : Env} (h : isStar e = false) : starEach (e :: es) env = (false, eval e env) :: starEach es env := by
  cases e <;> first | rfl | cases h
theorem star_plain {env : Env} {pos : Pos} : ∀ {es : List Expr}, (es.all fun e => !isStar e) = true → (backTo pos (starEach es env)).all (!·.1) = true
  | [], _ => rfl
  | e :: es, h => by
    rw [List.all_cons, Bool.and_eq_true, Bool.not_eq_true'] at h
    rw [star_cons h.1]
    show (!false && (backTo pos (starEach es env)).all (!·.1)) = true
    rw [star_plain h.2]; rfl
theorem star_any {l : List (Bool × Sem Value)} (h : l.all (!·.1) = true) : l.any (·.1) = false := by
  rw [List.any_eq_false]
  intro x hx
  have := List.all_eq_true.mp h x hx
  simpa using this
def methOk (args : List Expr) (apos pos : Pos) : Bool := (args.all fun e => !isStar e) && Nat.blt args.length 30 && apos.endLine == pos.line
theorem meth_eq {o : Str} {op apos pos : Pos} {nm : Str} {args : List Expr} {env : Env} (h : methOk args apos pos = true) : ∃ pl, eval (.Call (.Attribute (.Name o op) nm apos) args [] pos) env = (do
      let ov ← eval (.Name o op) env
      standAt apos.atName
      let (f, first) ← holding [ov] (getMethod ov nm pl)
      callWith pos f first (backTo pos (starEach args env)) (backToKw pos (keywordEach [] env))) := by
  unfold methOk at h
  rw [Bool.and_eq_true, Bool.and_eq_true] at h
  obtain ⟨⟨h1, h2⟩, h3⟩ := h
  refine ⟨(do return (← importBound (.Name o op) env).getD true), ?_⟩
  rw [arm_eval_Call]
  have e1 : methodCallForm (args.length + ([] : List Keyword).length) (backTo pos (starEach args env)) (backToKw pos (keywordEach [] env)) = true := by
    unfold methodCallForm
    rw [star_plain h1]
    show (true && true && decide (args.length + 0 + (if true = true then 0 else 1) < 30)) = true
    have : args.length < 30 := Nat.le_of_ble_eq_true h2
    simp; omega
  unfold methodCall
  rw [e1]
  have e2 : methodCallPos true (.Name o op) env apos pos = pure pos := by
    unfold methodCallPos
    rw [h3]; rfl
  rw [e2]
  rfl
section
variable {C : Cn} {lc : Lc} {ld : Ld}
theorem Ag_nil : Ag C lc ld [] (fun ps ld' => ps = [] ∧ ld' = ld) := fun ok s I pos Q E k => N_spliced_nil (k [] [] ld s I trivial ⟨rfl, rfl⟩)
theorem Ag_cons {e : Expr} {es : List Expr} {P : PV → Ld → Prop} {P' : List PV → Ld → Prop} (h : Ex C lc ld e P) (hr : ∀ p ld', P p ld' → Ag C lc ld' es (fun ps ld'' => P' (p :: ps) ld'')) (hs : isStar e = false := by rfl) :
    Ag C lc ld (e :: es) P' := fun ok s I pos Q E k => by
  rw [star_cons hs]
  show wpN _ _ (spliced ((false, eval e C.env) :: backTo pos (starEach es C.env))) _ _ _
  refine N_spliced_cons (h ok s I _ _ fun v p ld' s₁ I₁ r hp => ?_)
  exact hr p ld' hp ok s₁ I₁ pos _ _ fun vs ps ld'' s₂ I₂ rs hp' => k (v :: vs) (p :: ps) ld'' s₂ I₂ ⟨r, rs⟩ hp'
theorem Ag_1 {e : Expr} {es : List Expr} {p : PV} {P' : List PV → Ld → Prop} (h : Ev C lc ld e p) (hr : Ag C lc ld es (fun ps ld'' => P' (p :: ps) ld'')) (hs : isStar e = false := by rfl) : Ag C lc ld (e :: es) P' :=
  Ag_cons h.ex (fun p' ld' ⟨a, b⟩ => by subst a b; exact hr) hs
theorem Ag_end {P : List PV → Ld → Prop} (h : P [] ld) : Ag C lc ld [] P := fun ok s I pos Q E k => N_spliced_nil (k [] [] ld s I trivial h)
/-- the method nm of class c is the def f -/
def mthOk (K : Frag) (c : Addr) (nm : Str) (f : Addr) : Bool := findIn K (.ref c) "__getattribute__" == some (some (.builtin "object.__getattribute__")) && findIn K (.ref c) "__getattr__" == some none &&
  findIn K (.ref c) nm == some (some (.ref f)) && typeIn K (.ref f) == some (.type "function") && keepIn K (.ref f)
theorem Ex_meth {o nm : Str} {op apos pos : Pos} {args : List Expr} {x dx c f : Addr} {k : Nat} {sl : List (Option PV)} {od : Obj} {P₁ : List PV → Ld → Prop} {P : PV → Ld → Prop} (ho : Ea C lc ld (.Name o op) (.v (.ref x)))
    (hx : (x, PO.ins c dx sl) ∈ ld) (hd : (dx, PO.raw od) ∈ ld) (hm : ∀ P, mthOk (frag P) c nm f = true) (hsh : shadowIn (some od) nm = some false) (ha : Ag C lc ld args P₁)
    (hf : ∀ ps ld', P₁ ps ld' → Fn f k (.v (.ref x) :: ps) ld' P) (hk : k ≤ C.k)
    (hp : methOk args apos pos = true := by rfl) : Ex C lc ld (.Call (.Attribute (.Name o op) nm apos) args [] pos) P := fun ok s I Q E q => by
  obtain ⟨pl, he⟩ := meth_eq (o := o) (op := op) (nm := nm) (env := C.env) hp
  have hpl : ∀ pos : Pos, (backTo pos (starEach args C.env)).any (·.1) = false := fun pos => by
    unfold methOk at hp
    rw [Bool.and_eq_true, Bool.and_eq_true] at hp
    exact star_any (star_plain hp.1.1)
  rw [he]
  have hm' := hm C.w.params
  unfold mthOk at hm'
  simp only [Bool.and_eq_true, beq_iff_eq] at hm'
  obtain ⟨⟨⟨⟨m1, m2⟩, m3⟩, m4⟩, m5⟩ := hm'
  refine N_bind (N_any (ho ok s I _ _ fun ov s₁ I₁ ro => ?_))
  have ro : ov = .ref x := ro
  subst ro
  obtain ⟨ob, hob, ⟨vs, hvs, rfl⟩⟩ := I₁.at_ hx
  obtain ⟨od', hod, rfl⟩ := I₁.at_ hd
  refine N_bind (N_standAt (N_bind (N_holding (N_any (method_fn (I₁.keeps ok) ⟨hob, rfl, rfl, hod⟩ m1 m2 m3 m4 hsh ?_)))))
  refine N_callWith (hpl _) rfl (ha ok s₁ I₁ _ _ _ fun us ps ld' s₂ I₂ rs hp => N_evalAll_nil ⟨keeps_K m5 _ (I₂.keeps ok), ?_⟩)
  exact N_call (hf ps ld' hp C ok hk lc s₂ I₂ (.ref x :: us) ⟨rfl, rs⟩ _ q)
end
/-- a built-in's call -/
def Bi (C : Cn) (f : Value) (ps : List PV) (ld : Ld) (P : PV → Ld → Prop) : Prop :=
  C.Ok → ∀ lc s, St C lc ld s → ∀ vs, relL ps vs → ∀ (Q : Value → Shared → Prop) (E : Value → Shared → Prop), (∀ v p ld' s', St C lc ld' s' → rel p v → P p ld' → Q v s') → wpN C.M C.A (call f vs) Q E s
section
variable {C : Cn} {lc : Lc} {ld : Ld}
def machineOk : Value → Bool
  | .builtin _ => true
  | .type _ => true
  | _ => false
theorem looks_machine {M : Model} {h : Heap} {f : Value} (hf : machineOk f = true) : ∃ k, (k = Keeper.frame ∨ k = Keeper.machine ∨ k = Keeper.boundFrame) ∧ Looks M h (keeperOf f) k := by
  cases f <;> first | exact ⟨.machine, .inr (.inl rfl), .now⟩ | cases hf
theorem Ex_bi {x : Str} {xp pos : Pos} {args : List Expr} {f : Value} {P₁ : List PV → Ld → Prop} {P : PV → Ld → Prop} (hx : Ea C lc ld (.Name x xp) (.v f)) (ha : Ag C lc ld args P₁) (hf : ∀ ps ld', P₁ ps ld' → Bi C f ps ld' P)
    (hm : machineOk f = true := by rfl) (hpl : (args.all fun e => !isStar e) = true := by rfl) : Ex C lc ld (.Call (.Name x xp) args [] pos) P := fun ok s I Q E q => by
  rw [arm_eval_Call_Name']
  refine N_bind (N_any (hx ok s I _ _ fun f' s₁ I₁ r => ?_))
  have r : f' = f := r
  subst r
  exact N_callWith (star_any (star_plain hpl)) rfl (ha ok s₁ I₁ _ _ _ fun us ps ld' s₂ I₂ rs hp => N_evalAll_nil ⟨looks_machine hm, hf ps ld' hp ok lc s₂ I₂ us rs Q E q⟩)
/-- a def of the module, by its name -/
theorem Ex_fn {x : Str} {xp pos : Pos} {args : List Expr} {f : Addr} {k : Nat} {P₁ : List PV → Ld → Prop} {P : PV → Ld → Prop} (hx : Ea C lc ld (.Name x xp) (.v (.ref f))) (ha : Ag C lc ld args P₁) (hf : ∀ ps ld', P₁ ps ld' → Fn f k ps ld' P) (hk : k ≤ C.k)
    (hm : ∀ P, keepIn (frag P) (.ref f) = true) (hpl : (args.all fun e => !isStar e) = true := by rfl) : Ex C lc ld (.Call (.Name x xp) args [] pos) P := fun ok s I Q E q => by
  rw [arm_eval_Call_Name']
  refine N_bind (N_any (hx ok s I _ _ fun f' s₁ I₁ r => ?_))
  have r : f' = .ref f := r
  subst r
  exact N_callWith (star_any (star_plain hpl)) rfl (ha ok s₁ I₁ _ _ _ fun us ps ld' s₂ I₂ rs hp => N_evalAll_nil ⟨keeps_K (hm _) _ (I₂.keeps ok), N_call (hf ps ld' hp C ok hk lc s₂ I₂ us rs _ q)⟩)
theorem bi_len {d : Addr} {bs : List UInt8} (hd : (d, PO.ba bs) ∈ ld) (hz : bs.length < 2 ^ 40) : Bi C (.builtin "len") [.v (.ref d)] ld (fun p ld' => p = .i bs.length ∧ ld' = ld) := fun ok lc s I vs rs Q E q => by
  obtain ⟨v, rfl, r⟩ := relL_1 rs
  next =>
    have r : v = .ref d := r
    subst r
    obtain ⟨ob, hob, rfl⟩ := I.at_ hd
    refine N_any (len_ba (b := bs.toArray) hob (by simpa using hz) (q _ (.i bs.length) ld _ I.tok ⟨s.toks + 1, ?_⟩ ⟨rfl, rfl⟩))
    rw [List.size_toArray]
/-- int(n), n an int -/
theorem bi_int {n : Int} : Bi C (.type "int") [.i n] ld (fun p ld' => p = .i n ∧ ld' = ld) := fun ok lc s I vs rs Q E q => by
  obtain ⟨v, rfl, ⟨t, r⟩⟩ := relL_1 rs
  next =>
    subst r
    refine N_any (call_int_int ?_)
    exact q _ (.i n) ld _ I ⟨_, rfl⟩ ⟨rfl, rfl⟩
theorem cut_some {k : Int} {d : Int} {n : Nat} (h0 : 0 ≤ k) (h1 : k ≤ n) : cut (some k) d n = k := by
  unfold cut
  dsimp only
  rw [if_neg (by omega)]; omega
theorem put_list {bs v : List UInt8} {lo hi : Int} (h0 : 0 ≤ lo) (h1 : lo ≤ hi) (h2 : hi ≤ bs.length) : put bs.toArray v.toArray lo hi = (bs.take lo.toNat ++ v ++ bs.drop hi.toNat).toArray := by
  unfold put
  rw [show max lo hi = hi by omega]
  simp [List.extract_eq_take_drop]
  exact List.take_of_length_le (by rw [List.length_drop]; omega)
theorem newSlice {l u : Value} {s : Shared} {A : Around} {M : Model} {E : Value → Shared → Prop} {Q : Value → Shared → Prop} (h : ∀ h', (∀ a o, s.heap.get? a = some o → h'.get? a = some o) → s.heap.get? s.heap.objs.size = none → IsSl h' s.heap.objs.size l u → Q (.ref s.heap.objs.size) { s with heap := h' }) :
    wpAny M A (newFields "slice" [l, u, .none]) Q E s := by
  unfold newFields
  refine wpAny_newObj_type (h _ (fun a o e => Heap.get?_push_of_some _ e) ?_ ⟨_, Heap.get?_push_size _ rfl, rfl, rfl⟩) (by show 3 ≤ sizeLine + 2; rw [sizeLine_eq]; decide)
  cases q : s.heap.get? s.heap.objs.size with
  | none => rfl
  | some o => exact absurd (Heap.lt_size q) (Nat.lt_irrefl _)
variable {K : Fl → Lc → Ld → Prop} {rest : List Stmt}
/-- o[a:b] = value, o a bytearray, value bytes -/
theorem Bl_slb {o a b value : Expr} {sp slp pos : Pos} {pre post : Ld} {d : Addr} {bs v : List UInt8} {lo hi : Int} (hv : Ev C lc (pre ++ (d, .ba bs) :: post) value (.y v)) (ho : Ev C lc (pre ++ (d, .ba bs) :: post) o (.v (.ref d)))
    (ha : Ev C lc (pre ++ (d, .ba bs) :: post) a (.i lo)) (hb : Ev C lc (pre ++ (d, .ba bs) :: post) b (.i hi)) (h0 : 0 ≤ lo) (h1 : lo ≤ hi) (h2 : hi ≤ bs.length) (hl : (v.length : Int) = hi - lo) (hz : bs.length ≤ 2 ^ 20)
    (h : Bl C lc (pre ++ (d, .ba (bs.take lo.toNat ++ v ++ bs.drop hi.toNat)) :: post) rest K)
    (hs : swapsWith value (some (.Subscript o (.Slice (some a) (some b) none slp) sp)) pos.line C.env = pure false := by rfl) :
    Bl C lc (pre ++ (d, .ba bs) :: post) (.Assign [.Subscript o (.Slice (some a) (some b) none slp) sp] value pos :: rest) K := fun ok s I Q E k => by
  refine N_execs_cons ?_
  rw [exec_Assign_Subscript (o := o) (i := .Slice (some a) (some b) none slp) (pos' := sp) (value := value) (pos := pos) (hs := hs)]
  refine N_bind (N_standAt (N_bind (hv ok s I _ _ fun vv s₁ I₁ ⟨tv, rv⟩ => N_bind ?_)))
  subst rv
  rw [arm_assign_Subscript]
  refine N_bind (N_holding (ho ok s₁ I₁ _ _ fun ov s₂ I₂ ro => N_bind (N_holding ?_)))
  have ro : ov = .ref d := ro
  subst ro
  rw [arm_eval_Slice]
  refine N_bind (ha ok s₂ I₂ _ _ fun va s₃ I₃ ⟨ta, ra⟩ => N_bind (N_holding (hb ok s₃ I₃ _ _ fun vb s₄ I₄ ⟨tb, rb⟩ => N_bind (N_holding (N_pure (N_any (newSlice fun h' kp _ hsl => ?_)))))))
  subst ra rb
  have I₅ := I₄.keep (t := s₄.toks) kp
  obtain ⟨ob, hob, rfl⟩ := I₅.at_ (x := d) (o := .ba bs) (by simp)
  have c1 : cut (some lo) 0 bs.toArray.size = lo := cut_some h0 (by simp; omega)
  have c2 : cut (some hi) bs.toArray.size bs.toArray.size = hi := cut_some (by omega) (by simpa using h2)
  have hsz : sizeLine = 2 ^ 62 ∨ 2 ^ 21 ≤ sizeLine := .inr (by rw [sizeLine_eq]; decide)
  refine N_bind (N_standAt (N_bind (N_holding (set_ba_bytes (b := bs.toArray) (v := v.toArray) hob hsl (.int _ _) (.int _ _) ?_ ?_ ?_ fun h'' k2 hba => N_release (N_pure ?_)))))
  · simp; omega
  · rw [c1, c2]; simp; omega
  · rw [c1, c2, put_list h0 h1 h2, List.size_toArray, sizeLine_eq]; simp; exact slb_z (slb_v h0 h2 hl) hz
  · rw [c1, c2, put_list h0 h1 h2] at hba
    exact h ok _ (I₅.change (t := s₄.toks) k2 hba rfl) Q E k
end
section
variable {C : Cn} {lc : Lc} {ld : Ld} {l r : Expr} {pos : Pos} {a b : Int}
theorem Ev_add (hl : Ev C lc ld l (.i a)) (hr : Ev C lc ld r (.i b)) : Ev C lc ld (.BinOp l .Add r pos) (.i (a + b)) := Ev_bin hl hr op_add
theorem Ev_sub (hl : Ev C lc ld l (.i a)) (hr : Ev C lc ld r (.i b)) : Ev C lc ld (.BinOp l .Sub r pos) (.i (a - b)) := Ev_bin hl hr op_sub
theorem Ev_mul (hl : Ev C lc ld l (.i a)) (hr : Ev C lc ld r (.i b)) (hb : -(2 ^ 64) < b ∧ b < 2 ^ 64 ∨ -(2 ^ 64) < a ∧ a < 2 ^ 64) : Ev C lc ld (.BinOp l .Mult r pos) (.i (a * b)) := Ev_bin hl hr (op_mul hb)
theorem Ev_mod (hl : Ev C lc ld l (.i a)) (hr : Ev C lc ld r (.i b)) (hb : b ≠ 0) : Ev C lc ld (.BinOp l .Mod r pos) (.i (a.fmod b)) := Ev_bin hl hr (op_mod hb)
theorem Ev_div (hl : Ev C lc ld l (.i a)) (hr : Ev C lc ld r (.i b)) (hb : b ≠ 0) (hs : b.natAbs < 1073741824) : Ev C lc ld (.BinOp l .FloorDiv r pos) (.i (a.fdiv b)) := Ev_bin hl hr (op_div hb hs)
theorem Ev_pow (hl : Ev C lc ld l (.i a)) (hr : Ev C lc ld r (.i b)) (h0 : 0 ≤ b) (hb : b ≤ 1000000) (ha : a.natAbs < 2 ^ 64) : Ev C lc ld (.BinOp l .Pow r pos) (.i (a ^ b.toNat)) := Ev_bin hl hr (op_pow h0 hb ha)
theorem Ev_inv (hl : Ev C lc ld l (.i a)) : Ev C lc ld (.UnaryOp .Invert l pos) (.i (Builtin.bitNot a)) := Ev_un hl op_inv
theorem Ev_neg (hl : Ev C lc ld l (.i a)) : Ev C lc ld (.UnaryOp .USub l pos) (.i (-a)) := Ev_un hl op_neg
theorem Ev_zeros (hl : Ev C lc ld l (.y [0])) (hr : Ev C lc ld r (.i b)) (h0 : 0 ≤ b) (hn : b ≤ 1048576) : Ev C lc ld (.BinOp l .Mult r pos) (.y (List.replicate b.toNat 0)) := Ev_bin hl hr (op_zeros h0 hn)
theorem Tr_lt (hl : Ev C lc ld l (.i a)) (hr : Ev C lc ld r (.i b)) (hm : behindInMarks .Lt r = false := by rfl) : Tr C lc ld (.Compare l [.Lt] [r] pos) (decide (a < b)) := Tr_cmp hl hr cp_lt hm
theorem Tr_le (hl : Ev C lc ld l (.i a)) (hr : Ev C lc ld r (.i b)) (hm : behindInMarks .LtE r = false := by rfl) : Tr C lc ld (.Compare l [.LtE] [r] pos) (decide (a ≤ b)) := Tr_cmp hl hr cp_le hm
theorem Tr_gt (hl : Ev C lc ld l (.i a)) (hr : Ev C lc ld r (.i b)) (hm : behindInMarks .Gt r = false := by rfl) : Tr C lc ld (.Compare l [.Gt] [r] pos) (decide (b < a)) := Tr_cmp hl hr cp_gt hm
theorem Tr_ge (hl : Ev C lc ld l (.i a)) (hr : Ev C lc ld r (.i b)) (hm : behindInMarks .GtE r = false := by rfl) : Tr C lc ld (.Compare l [.GtE] [r] pos) (decide (b ≤ a)) := Tr_cmp hl hr cp_ge hm
theorem Tr_eq (hl : Ev C lc ld l (.i a)) (hr : Ev C lc ld r (.i b)) (hm : behindInMarks .Eq r = false := by rfl) : Tr C lc ld (.Compare l [.Eq] [r] pos) (decide (a = b)) := Tr_cmp hl hr cp_eq hm
theorem Tr_ne (hl : Ev C lc ld l (.i a)) (hr : Ev C lc ld r (.i b)) (hm : behindInMarks .NotEq r = false := by rfl) : Tr C lc ld (.Compare l [.NotEq] [r] pos) (!decide (a = b)) := Tr_cmp hl hr cp_ne hm
theorem Ev_lt (hl : Ev C lc ld l (.i a)) (hr : Ev C lc ld r (.i b)) (hm : behindInMarks .Lt r = false := by rfl) : Ev C lc ld (.Compare l [.Lt] [r] pos) (.v (.bool (decide (a < b)))) := Ev_cmp hl hr cp_lt hm
theorem Ev_eq (hl : Ev C lc ld l (.i a)) (hr : Ev C lc ld r (.i b)) (hm : behindInMarks .Eq r = false := by rfl) : Ev C lc ld (.Compare l [.Eq] [r] pos) (.v (.bool (decide (a = b)))) := Ev_cmp hl hr cp_eq hm
theorem Tr_isnone {p : PV} {c : Bool} (hl : Ev C lc ld l p) (hr : Ev C lc ld r (.v .none)) (hc : ∀ v, rel p v → (v == Value.none) = c) (hm : behindInMarks .Is r = false := by rfl) : Tr C lc ld (.Compare l [.Is] [r] pos) c := Tr_cmp hl hr (cp_isnone hc) hm
theorem Tr_isnt {p : PV} {c : Bool} (hl : Ev C lc ld l p) (hr : Ev C lc ld r (.v .none)) (hc : ∀ v, rel p v → (v == Value.none) = !c) (hm : behindInMarks .IsNot r = false := by rfl) : Tr C lc ld (.Compare l [.IsNot] [r] pos) c := Tr_cmp hl hr (cp_isnt hc) hm
end
theorem f349 (P : Params) : (frag P).lookup 349 = some (o349 P) := by kernel_rfl
theorem c349 (P : Params) : codeIn (frag P) (.ref 348) "Builder.Output" = true := by kernel_rfl
theorem f356 (P : Params) : (frag P).lookup 356 = some (o356 P) := by kernel_rfl
theorem c356 (P : Params) : codeIn (frag P) (.ref 355) "Builder.StartObject" = true := by kernel_rfl
theorem f363 (P : Params) : (frag P).lookup 363 = some (o363 P) := by kernel_rfl
theorem c363 (P : Params) : codeIn (frag P) (.ref 362) "Builder.WriteVtable" = true := by kernel_rfl
theorem f370 (P : Params) : (frag P).lookup 370 = some (o370 P) := by kernel_rfl
theorem c370 (P : Params) : codeIn (frag P) (.ref 369) "Builder.EndObject" = true := by kernel_rfl
theorem f377 (P : Params) : (frag P).lookup 377 = some (o377 P) := by kernel_rfl
theorem c377 (P : Params) : codeIn (frag P) (.ref 376) "Builder.GrowByteBuffer" = true := by kernel_rfl
theorem f391 (P : Params) : (frag P).lookup 391 = some (o391 P) := by kernel_rfl
theorem c391 (P : Params) : codeIn (frag P) (.ref 390) "Builder.Offset" = true := by kernel_rfl
theorem f398 (P : Params) : (frag P).lookup 398 = some (o398 P) := by kernel_rfl
theorem c398 (P : Params) : codeIn (frag P) (.ref 397) "Builder.Pad" = true := by kernel_rfl
theorem f405 (P : Params) : (frag P).lookup 405 = some (o405 P) := by kernel_rfl
theorem c405 (P : Params) : codeIn (frag P) (.ref 404) "Builder.Prep" = true := by kernel_rfl
theorem f412 (P : Params) : (frag P).lookup 412 = some (o412 P) := by kernel_rfl
theorem c412 (P : Params) : codeIn (frag P) (.ref 411) "Builder.PrependSOffsetTRelative" = true := by kernel_rfl
theorem f419 (P : Params) : (frag P).lookup 419 = some (o419 P) := by kernel_rfl
theorem c419 (P : Params) : codeIn (frag P) (.ref 418) "Builder.PrependUOffsetTRelative" = true := by kernel_rfl
theorem f426 (P : Params) : (frag P).lookup 426 = some (o426 P) := by kernel_rfl
theorem c426 (P : Params) : codeIn (frag P) (.ref 425) "Builder.StartVector" = true := by kernel_rfl
theorem f434 (P : Params) : (frag P).lookup 434 = some (o434 P) := by kernel_rfl
theorem c434 (P : Params) : codeIn (frag P) (.ref 433) "Builder.EndVector" = true := by kernel_rfl
theorem f455 (P : Params) : (frag P).lookup 455 = some (o455 P) := by kernel_rfl
theorem c455 (P : Params) : codeIn (frag P) (.ref 454) "Builder.CreateByteVector" = true := by kernel_rfl
theorem f462 (P : Params) : (frag P).lookup 462 = some (o462 P) := by kernel_rfl
theorem c462 (P : Params) : codeIn (frag P) (.ref 461) "Builder.assertNested" = true := by kernel_rfl
theorem f469 (P : Params) : (frag P).lookup 469 = some (o469 P) := by kernel_rfl
theorem c469 (P : Params) : codeIn (frag P) (.ref 468) "Builder.assertNotNested" = true := by kernel_rfl
theorem f476 (P : Params) : (frag P).lookup 476 = some (o476 P) := by kernel_rfl
theorem c476 (P : Params) : codeIn (frag P) (.ref 475) "Builder.assertStructIsInline" = true := by kernel_rfl
theorem f483 (P : Params) : (frag P).lookup 483 = some (o483 P) := by kernel_rfl
theorem c483 (P : Params) : codeIn (frag P) (.ref 482) "Builder.Slot" = true := by kernel_rfl
theorem f491 (P : Params) : (frag P).lookup 491 = some (o491 P) := by kernel_rfl
theorem c491 (P : Params) : codeIn (frag P) (.ref 490) "Builder.__Finish" = true := by kernel_rfl
theorem f499 (P : Params) : (frag P).lookup 499 = some (o499 P) := by kernel_rfl
theorem c499 (P : Params) : codeIn (frag P) (.ref 498) "Builder.Finish" = true := by kernel_rfl
theorem f507 (P : Params) : (frag P).lookup 507 = some (o507 P) := by kernel_rfl
theorem c507 (P : Params) : codeIn (frag P) (.ref 506) "Builder.FinishSizePrefixed" = true := by kernel_rfl
theorem f514 (P : Params) : (frag P).lookup 514 = some (o514 P) := by kernel_rfl
theorem c514 (P : Params) : codeIn (frag P) (.ref 513) "Builder.Prepend" = true := by kernel_rfl
theorem f598 (P : Params) : (frag P).lookup 598 = some (o598 P) := by kernel_rfl
theorem c598 (P : Params) : codeIn (frag P) (.ref 597) "Builder.PrependUOffsetTRelativeSlot" = true := by kernel_rfl
theorem f605 (P : Params) : (frag P).lookup 605 = some (o605 P) := by kernel_rfl
theorem c605 (P : Params) : codeIn (frag P) (.ref 604) "Builder.PrependStructSlot" = true := by kernel_rfl
theorem f626 (P : Params) : (frag P).lookup 626 = some (o626 P) := by kernel_rfl
theorem c626 (P : Params) : codeIn (frag P) (.ref 625) "Builder.PrependUint8" = true := by kernel_rfl
theorem f633 (P : Params) : (frag P).lookup 633 = some (o633 P) := by kernel_rfl
theorem c633 (P : Params) : codeIn (frag P) (.ref 632) "Builder.PrependUint16" = true := by kernel_rfl
theorem f640 (P : Params) : (frag P).lookup 640 = some (o640 P) := by kernel_rfl
theorem c640 (P : Params) : codeIn (frag P) (.ref 639) "Builder.PrependUint32" = true := by kernel_rfl
theorem f647 (P : Params) : (frag P).lookup 647 = some (o647 P) := by kernel_rfl
theorem c647 (P : Params) : codeIn (frag P) (.ref 646) "Builder.PrependUint64" = true := by kernel_rfl
theorem f654 (P : Params) : (frag P).lookup 654 = some (o654 P) := by kernel_rfl
theorem c654 (P : Params) : codeIn (frag P) (.ref 653) "Builder.PrependInt8" = true := by kernel_rfl
theorem f661 (P : Params) : (frag P).lookup 661 = some (o661 P) := by kernel_rfl
theorem c661 (P : Params) : codeIn (frag P) (.ref 660) "Builder.PrependInt16" = true := by kernel_rfl
theorem f668 (P : Params) : (frag P).lookup 668 = some (o668 P) := by kernel_rfl
theorem c668 (P : Params) : codeIn (frag P) (.ref 667) "Builder.PrependInt32" = true := by kernel_rfl
theorem f675 (P : Params) : (frag P).lookup 675 = some (o675 P) := by kernel_rfl
theorem c675 (P : Params) : codeIn (frag P) (.ref 674) "Builder.PrependInt64" = true := by kernel_rfl
theorem f689 (P : Params) : (frag P).lookup 689 = some (o689 P) := by kernel_rfl
theorem c689 (P : Params) : codeIn (frag P) (.ref 688) "Builder.PrependVOffsetT" = true := by kernel_rfl
theorem f696 (P : Params) : (frag P).lookup 696 = some (o696 P) := by kernel_rfl
theorem c696 (P : Params) : codeIn (frag P) (.ref 695) "Builder.Place" = true := by kernel_rfl
theorem f710 (P : Params) : (frag P).lookup 710 = some (o710 P) := by kernel_rfl
theorem c710 (P : Params) : codeIn (frag P) (.ref 709) "Builder.PlaceSOffsetT" = true := by kernel_rfl
theorem f717 (P : Params) : (frag P).lookup 717 = some (o717 P) := by kernel_rfl
theorem c717 (P : Params) : codeIn (frag P) (.ref 716) "Builder.PlaceUOffsetT" = true := by kernel_rfl
theorem f756 (P : Params) : (frag P).lookup 756 = some (o756 P) := by kernel_rfl
theorem c756 (P : Params) : codeIn (frag P) (.ref 755) "Table.Offset" = true := by kernel_rfl
theorem f777 (P : Params) : (frag P).lookup 777 = some (o777 P) := by kernel_rfl
theorem c777 (P : Params) : codeIn (frag P) (.ref 776) "Table.VectorLen" = true := by kernel_rfl
theorem f784 (P : Params) : (frag P).lookup 784 = some (o784 P) := by kernel_rfl
theorem c784 (P : Params) : codeIn (frag P) (.ref 783) "Table.Vector" = true := by kernel_rfl
theorem f798 (P : Params) : (frag P).lookup 798 = some (o798 P) := by kernel_rfl
theorem c798 (P : Params) : codeIn (frag P) (.ref 797) "Table.Get" = true := by kernel_rfl
theorem f335 (P : Params) : (frag P).lookup 335 = some (o335 P) := by kernel_rfl
theorem c335 (P : Params) : codeIn (frag P) (.ref 334) "Builder.__init__" = true := by kernel_rfl
theorem f749 (P : Params) : (frag P).lookup 749 = some (o749 P) := by kernel_rfl
theorem c749 (P : Params) : codeIn (frag P) (.ref 748) "Table.__init__" = true := by kernel_rfl
theorem f214 (P : Params) : (frag P).lookup 214 = some (o214 P) := by kernel_rfl
theorem c214 (P : Params) : codeIn (frag P) (.ref 213) "enforce_number" = true := by kernel_rfl
theorem f221 (P : Params) : (frag P).lookup 221 = some (o221 P) := by kernel_rfl
theorem c221 (P : Params) : codeIn (frag P) (.ref 220) "Get" = true := by kernel_rfl
theorem f228 (P : Params) : (frag P).lookup 228 = some (o228 P) := by kernel_rfl
theorem c228 (P : Params) : codeIn (frag P) (.ref 227) "Write" = true := by kernel_rfl
theorem f827 (P : Params) : (frag P).lookup 827 = some (o827 P) := by kernel_rfl
theorem c827 (P : Params) : codeIn (frag P) (.ref 826) "_law_prepend" = true := by kernel_rfl
theorem f834 (P : Params) : (frag P).lookup 834 = some (o834 P) := by kernel_rfl
theorem c834 (P : Params) : codeIn (frag P) (.ref 833) "_law_got" = true := by kernel_rfl
theorem f839 (P : Params) : (frag P).lookup 839 = some (o839 P) := by kernel_rfl
theorem c839 (P : Params) : codeIn (frag P) (.ref 838) "_law_form" = true := by kernel_rfl
theorem f846 (P : Params) : (frag P).lookup 846 = some (o846 P) := by kernel_rfl
theorem c846 (P : Params) : codeIn (frag P) (.ref 845) "_law_worths" = true := by kernel_rfl
theorem f851 (P : Params) : (frag P).lookup 851 = some (o851 P) := by kernel_rfl
theorem c851 (P : Params) : codeIn (frag P) (.ref 850) "_law_struct" = true := by kernel_rfl
theorem f858 (P : Params) : (frag P).lookup 858 = some (o858 P) := by kernel_rfl
theorem c858 (P : Params) : codeIn (frag P) (.ref 857) "_law_row" = true := by kernel_rfl
theorem f863 (P : Params) : (frag P).lookup 863 = some (o863 P) := by kernel_rfl
theorem c863 (P : Params) : codeIn (frag P) (.ref 862) "_law_read" = true := by kernel_rfl
theorem f868 (P : Params) : (frag P).lookup 868 = some (o868 P) := by kernel_rfl
theorem c868 (P : Params) : codeIn (frag P) (.ref 867) "_law_struct_right" = true := by kernel_rfl
theorem f875 (P : Params) : (frag P).lookup 875 = some (o875 P) := by kernel_rfl
theorem c875 (P : Params) : codeIn (frag P) (.ref 874) "_law_row_right" = true := by kernel_rfl
theorem f880 (P : Params) : (frag P).lookup 880 = some (o880 P) := by kernel_rfl
theorem c880 (P : Params) : codeIn (frag P) (.ref 879) "law" = true := by kernel_rfl
theorem m349 (P : Params) : mthOk (frag P) 721 "Output" 349 = true := by kernel_rfl
theorem m356 (P : Params) : mthOk (frag P) 721 "StartObject" 356 = true := by kernel_rfl
theorem m363 (P : Params) : mthOk (frag P) 721 "WriteVtable" 363 = true := by kernel_rfl
theorem m370 (P : Params) : mthOk (frag P) 721 "EndObject" 370 = true := by kernel_rfl
theorem m377 (P : Params) : mthOk (frag P) 721 "GrowByteBuffer" 377 = true := by kernel_rfl
theorem m391 (P : Params) : mthOk (frag P) 721 "Offset" 391 = true := by kernel_rfl
theorem m398 (P : Params) : mthOk (frag P) 721 "Pad" 398 = true := by kernel_rfl
theorem m405 (P : Params) : mthOk (frag P) 721 "Prep" 405 = true := by kernel_rfl
theorem m412 (P : Params) : mthOk (frag P) 721 "PrependSOffsetTRelative" 412 = true := by kernel_rfl
theorem m419 (P : Params) : mthOk (frag P) 721 "PrependUOffsetTRelative" 419 = true := by kernel_rfl
theorem m426 (P : Params) : mthOk (frag P) 721 "StartVector" 426 = true := by kernel_rfl
theorem m434 (P : Params) : mthOk (frag P) 721 "EndVector" 434 = true := by kernel_rfl
theorem m455 (P : Params) : mthOk (frag P) 721 "CreateByteVector" 455 = true := by kernel_rfl
theorem m462 (P : Params) : mthOk (frag P) 721 "assertNested" 462 = true := by kernel_rfl
theorem m469 (P : Params) : mthOk (frag P) 721 "assertNotNested" 469 = true := by kernel_rfl
theorem m476 (P : Params) : mthOk (frag P) 721 "assertStructIsInline" 476 = true := by kernel_rfl
theorem m483 (P : Params) : mthOk (frag P) 721 "Slot" 483 = true := by kernel_rfl
theorem m491 (P : Params) : mthOk (frag P) 721 "_Builder__Finish" 491 = true := by kernel_rfl
theorem m499 (P : Params) : mthOk (frag P) 721 "Finish" 499 = true := by kernel_rfl
theorem m507 (P : Params) : mthOk (frag P) 721 "FinishSizePrefixed" 507 = true := by kernel_rfl
theorem m514 (P : Params) : mthOk (frag P) 721 "Prepend" 514 = true := by kernel_rfl
theorem m598 (P : Params) : mthOk (frag P) 721 "PrependUOffsetTRelativeSlot" 598 = true := by kernel_rfl
theorem m605 (P : Params) : mthOk (frag P) 721 "PrependStructSlot" 605 = true := by kernel_rfl
theorem m626 (P : Params) : mthOk (frag P) 721 "PrependUint8" 626 = true := by kernel_rfl
theorem m633 (P : Params) : mthOk (frag P) 721 "PrependUint16" 633 = true := by kernel_rfl
theorem m640 (P : Params) : mthOk (frag P) 721 "PrependUint32" 640 = true := by kernel_rfl
theorem m647 (P : Params) : mthOk (frag P) 721 "PrependUint64" 647 = true := by kernel_rfl
theorem m654 (P : Params) : mthOk (frag P) 721 "PrependInt8" 654 = true := by kernel_rfl
theorem m661 (P : Params) : mthOk (frag P) 721 "PrependInt16" 661 = true := by kernel_rfl
theorem m668 (P : Params) : mthOk (frag P) 721 "PrependInt32" 668 = true := by kernel_rfl
theorem m675 (P : Params) : mthOk (frag P) 721 "PrependInt64" 675 = true := by kernel_rfl
theorem m689 (P : Params) : mthOk (frag P) 721 "PrependVOffsetT" 689 = true := by kernel_rfl
theorem m696 (P : Params) : mthOk (frag P) 721 "Place" 696 = true := by kernel_rfl
theorem m710 (P : Params) : mthOk (frag P) 721 "PlaceSOffsetT" 710 = true := by kernel_rfl
theorem m717 (P : Params) : mthOk (frag P) 721 "PlaceUOffsetT" 717 = true := by kernel_rfl
theorem m756 (P : Params) : mthOk (frag P) 816 "Offset" 756 = true := by kernel_rfl
theorem m777 (P : Params) : mthOk (frag P) 816 "VectorLen" 777 = true := by kernel_rfl
theorem m784 (P : Params) : mthOk (frag P) 816 "Vector" 784 = true := by kernel_rfl
theorem m798 (P : Params) : mthOk (frag P) 816 "Get" 798 = true := by kernel_rfl
theorem k214 (P : Params) : keepIn (frag P) (.ref 214) = true := by kernel_rfl
theorem g214 (P : Params) : nsIn (frag P) mainGlobals "enforce_number" = some (some (.ref 214)) := by kernel_rfl
theorem k221 (P : Params) : keepIn (frag P) (.ref 221) = true := by kernel_rfl
theorem g221 (P : Params) : nsIn (frag P) mainGlobals "Get" = some (some (.ref 221)) := by kernel_rfl
theorem k228 (P : Params) : keepIn (frag P) (.ref 228) = true := by kernel_rfl
theorem g228 (P : Params) : nsIn (frag P) mainGlobals "Write" = some (some (.ref 228)) := by kernel_rfl
theorem k827 (P : Params) : keepIn (frag P) (.ref 827) = true := by kernel_rfl
theorem g827 (P : Params) : nsIn (frag P) mainGlobals "_law_prepend" = some (some (.ref 827)) := by kernel_rfl
theorem k834 (P : Params) : keepIn (frag P) (.ref 834) = true := by kernel_rfl
theorem g834 (P : Params) : nsIn (frag P) mainGlobals "_law_got" = some (some (.ref 834)) := by kernel_rfl
theorem k839 (P : Params) : keepIn (frag P) (.ref 839) = true := by kernel_rfl
theorem g839 (P : Params) : nsIn (frag P) mainGlobals "_law_form" = some (some (.ref 839)) := by kernel_rfl
theorem k846 (P : Params) : keepIn (frag P) (.ref 846) = true := by kernel_rfl
theorem g846 (P : Params) : nsIn (frag P) mainGlobals "_law_worths" = some (some (.ref 846)) := by kernel_rfl
theorem k851 (P : Params) : keepIn (frag P) (.ref 851) = true := by kernel_rfl
theorem g851 (P : Params) : nsIn (frag P) mainGlobals "_law_struct" = some (some (.ref 851)) := by kernel_rfl
theorem k858 (P : Params) : keepIn (frag P) (.ref 858) = true := by kernel_rfl
theorem g858 (P : Params) : nsIn (frag P) mainGlobals "_law_row" = some (some (.ref 858)) := by kernel_rfl
theorem k863 (P : Params) : keepIn (frag P) (.ref 863) = true := by kernel_rfl
theorem g863 (P : Params) : nsIn (frag P) mainGlobals "_law_read" = some (some (.ref 863)) := by kernel_rfl
theorem k868 (P : Params) : keepIn (frag P) (.ref 868) = true := by kernel_rfl
theorem g868 (P : Params) : nsIn (frag P) mainGlobals "_law_struct_right" = some (some (.ref 868)) := by kernel_rfl
theorem k875 (P : Params) : keepIn (frag P) (.ref 875) = true := by kernel_rfl
theorem g875 (P : Params) : nsIn (frag P) mainGlobals "_law_row_right" = some (some (.ref 875)) := by kernel_rfl
theorem k880 (P : Params) : keepIn (frag P) (.ref 880) = true := by kernel_rfl
theorem g880 (P : Params) : nsIn (frag P) mainGlobals "law" = some (some (.ref 880)) := by kernel_rfl
theorem g69 (P : Params) : nsIn (frag P) mainGlobals "Uint8Flags" = some (some (.ref 69)) := by kernel_rfl
theorem g83 (P : Params) : nsIn (frag P) mainGlobals "Uint16Flags" = some (some (.ref 83)) := by kernel_rfl
theorem g97 (P : Params) : nsIn (frag P) mainGlobals "Uint32Flags" = some (some (.ref 97)) := by kernel_rfl
theorem g111 (P : Params) : nsIn (frag P) mainGlobals "Uint64Flags" = some (some (.ref 111)) := by kernel_rfl
theorem g125 (P : Params) : nsIn (frag P) mainGlobals "Int8Flags" = some (some (.ref 125)) := by kernel_rfl
theorem g139 (P : Params) : nsIn (frag P) mainGlobals "Int16Flags" = some (some (.ref 139)) := by kernel_rfl
theorem g153 (P : Params) : nsIn (frag P) mainGlobals "Int32Flags" = some (some (.ref 153)) := by kernel_rfl
theorem g167 (P : Params) : nsIn (frag P) mainGlobals "Int64Flags" = some (some (.ref 167)) := by kernel_rfl
theorem g181 (P : Params) : nsIn (frag P) mainGlobals "SOffsetTFlags" = some (some (.ref 181)) := by kernel_rfl
theorem g193 (P : Params) : nsIn (frag P) mainGlobals "UOffsetTFlags" = some (some (.ref 193)) := by kernel_rfl
theorem g205 (P : Params) : nsIn (frag P) mainGlobals "VOffsetTFlags" = some (some (.ref 205)) := by kernel_rfl
theorem g721 (P : Params) : nsIn (frag P) mainGlobals "Builder" = some (some (.ref 721)) := by kernel_rfl
theorem g816 (P : Params) : nsIn (frag P) mainGlobals "Table" = some (some (.ref 816)) := by kernel_rfl
theorem g54 (P : Params) : nsIn (frag P) mainGlobals "uoffset" = some (some (.ref 54)) := by kernel_rfl
theorem g58 (P : Params) : nsIn (frag P) mainGlobals "soffset" = some (some (.ref 58)) := by kernel_rfl
theorem gGe (P : Params) : nsIn (frag P) mainGlobals "Get_encode" = some (some (.ref 221)) := by kernel_rfl
theorem b_len (P : Params) : nsIn (frag P) mainGlobals "len" = some none := by kernel_rfl
theorem b_min (P : Params) : nsIn (frag P) mainGlobals "min" = some none := by kernel_rfl
theorem b_max (P : Params) : nsIn (frag P) mainGlobals "max" = some none := by kernel_rfl
theorem b_sum (P : Params) : nsIn (frag P) mainGlobals "sum" = some none := by kernel_rfl
theorem b_range (P : Params) : nsIn (frag P) mainGlobals "range" = some none := by kernel_rfl
theorem b_bytearray (P : Params) : nsIn (frag P) mainGlobals "bytearray" = some none := by kernel_rfl
theorem b_bytes (P : Params) : nsIn (frag P) mainGlobals "bytes" = some none := by kernel_rfl
theorem b_int (P : Params) : nsIn (frag P) mainGlobals "int" = some none := by kernel_rfl
theorem b_isinstance (P : Params) : nsIn (frag P) mainGlobals "isinstance" = some none := by kernel_rfl
theorem b_list (P : Params) : nsIn (frag P) mainGlobals "list" = some none := by kernel_rfl
theorem b_tuple (P : Params) : nsIn (frag P) mainGlobals "tuple" = some none := by kernel_rfl
theorem b_reversed (P : Params) : nsIn (frag P) mainGlobals "reversed" = some none := by kernel_rfl
theorem b_all (P : Params) : nsIn (frag P) mainGlobals "all" = some none := by kernel_rfl
theorem b_pow (P : Params) : nsIn (frag P) mainGlobals "pow" = some none := by kernel_rfl
/-- the flag classes -/
inductive FK where
  | u8 | u16 | u32 | u64 | i8 | i16 | i32 | i64 | so | uo | vo
def FK.addr : FK → Addr
  | .u8 => 69 | .u16 => 83 | .u32 => 97 | .u64 => 111 | .i8 => 125 | .i16 => 139 | .i32 => 153 | .i64 => 167 | .so => 181 | .uo => 193 | .vo => 205
def FK.f : FK → Array UInt8
  | .u8 => #[60, 66] | .u16 => #[60, 72] | .u32 => #[60, 73] | .u64 => #[60, 81] | .i8 => #[60, 98] | .i16 => #[60, 104] | .i32 => #[60, 105] | .i64 => #[60, 113] | .so => #[60, 105] | .uo => #[60, 73] | .vo => #[60, 72]
def FK.ch : FK → Char
  | .u8 => 'B' | .u16 => 'H' | .u32 => 'I' | .u64 => 'Q' | .i8 => 'b' | .i16 => 'h' | .i32 => 'i' | .i64 => 'q' | .so => 'i' | .uo => 'I' | .vo => 'H'
def FK.w : FK → Nat
  | .u8 => 1 | .u16 => 2 | .u32 => 4 | .u64 => 8 | .i8 => 1 | .i16 => 2 | .i32 => 4 | .i64 => 8 | .so => 4 | .uo => 4 | .vo => 2
def FK.lo : FK → Int
  | .u8 => 0 | .u16 => 0 | .u32 => 0 | .u64 => 0 | .i8 => -128 | .i16 => -32768 | .i32 => -2147483648 | .i64 => -9223372036854775808 | .so => -2147483648 | .uo => 0 | .vo => 0
def FK.hi : FK → Int
  | .u8 => 255 | .u16 => 65535 | .u32 => 4294967295 | .u64 => 18446744073709551615 | .i8 => 127 | .i16 => 32767 | .i32 => 2147483647 | .i64 => 9223372036854775807 | .so => 2147483647 | .uo => 4294967295 | .vo => 65535
def FK.obj : FK → Addr
  | .u8 => 52 | .u16 => 53 | .u32 => 54 | .u64 => 55 | .i8 => 56 | .i16 => 57 | .i32 => 58 | .i64 => 59 | .so => 58 | .uo => 54 | .vo => 53
theorem FK.pk : ∀ k : FK, PK k.f k.ch k.w k.lo k.hi
  | .u8 => .B | .u16 => .H | .u32 => .I | .u64 => .Q | .i8 => .b | .i16 => .h | .i32 => .i | .i64 => .q | .so => .i | .uo => .I | .vo => .H
def clsVal (K : Frag) (c : Addr) (a : Str) : Option Value := match findCls K (.ref c) (.type "type") a with
  | some (.val v) => some v
  | _ => none
def isInt (v : Option Value) (n : Int) : Bool := match v with
  | some (.int m _) => m == n
  | _ => false
def flagOk (K : Frag) (k : FK) : Bool := readsIn K k.addr (.type "type") && isInt (clsVal K k.addr "bytewidth") k.w && isInt (clsVal K k.addr "min_val") k.lo && isInt (clsVal K k.addr "max_val") k.hi &&
  clsVal K k.addr "packer_type" == some (.ref k.obj)
theorem flag_ok (P : Params) : ∀ k : FK, flagOk (frag P) k = true
  | .u8 => by kernel_rfl
  | .u16 => by kernel_rfl
  | .u32 => by kernel_rfl
  | .u64 => by kernel_rfl
  | .i8 => by kernel_rfl
  | .i16 => by kernel_rfl
  | .i32 => by kernel_rfl
  | .i64 => by kernel_rfl
  | .so => by kernel_rfl
  | .uo => by kernel_rfl
  | .vo => by kernel_rfl

theorem clsVal_of {K : Frag} {c : Addr} {a : Str} {v : Value} (h : clsVal K c a = some v) : findCls K (.ref c) (.type "type") a = some (.val v) := by
  unfold clsVal at h
  split at h
  · rename_i e; cases h; exact e
  · cases h
theorem isInt_of {v : Option Value} {n : Int} (h : isInt v n = true) : ∃ t, v = some (.int n t) := by
  unfold isInt at h
  split at h
  · rw [beq_iff_eq] at h; subst h; exact ⟨_, rfl⟩
  · cases h
section
variable {C : Cn} {lc : Lc} {ld : Ld}
theorem at_int {k : FK} {a : Str} {n : Int} (h : ∀ P, isInt (clsVal (frag P) k.addr a) n = true) : At C lc ld (.v (.ref k.addr)) a (.i n) := fun ok s I u r x Q E q => by
  subst r
  obtain ⟨t, ht⟩ := isInt_of (h C.w.params)
  have h0 := flag_ok C.w.params k
  simp only [flagOk, Bool.and_eq_true] at h0
  exact cls_value (I.keeps ok) h0.1.1.1.1 (clsVal_of ht) rfl (q _ _ I.tok ⟨t, rfl⟩)
theorem at_w {k : FK} : At C lc ld (.v (.ref k.addr)) "bytewidth" (.i k.w) := at_int fun P => by
  have h := flag_ok P k
  simp only [flagOk, Bool.and_eq_true] at h
  exact h.1.1.1.2
theorem at_lo {k : FK} : At C lc ld (.v (.ref k.addr)) "min_val" (.i k.lo) := at_int fun P => by
  have h := flag_ok P k
  simp only [flagOk, Bool.and_eq_true] at h
  exact h.1.1.2
theorem at_hi {k : FK} : At C lc ld (.v (.ref k.addr)) "max_val" (.i k.hi) := at_int fun P => by
  have h := flag_ok P k
  simp only [flagOk, Bool.and_eq_true] at h
  exact h.1.2
theorem ty_int : typeOf (.type "int") = pure (.type "type") := by kernel_rfl
theorem int_noget : typeLookup (.type "type") "__get__" = pure none := by rw [typeLookup_type, builtinLookup_eq_fast]; kernel_rfl
/-- a class's own name that holds the type int -/
def pyOk (K : Frag) (c : Addr) (a : Str) : Bool := findIn K (.type "type") a == some none && findIn K (.ref c) a == some (some (.type "int")) && !(Builtin.heldUnderItsOwnName a (.type "int"))
theorem py_ok (P : Params) : ∀ k : FK, pyOk (frag P) k.addr "py_type" = true
  | .u8 => by kernel_rfl
  | .u16 => by kernel_rfl
  | .u32 => by kernel_rfl
  | .u64 => by kernel_rfl
  | .i8 => by kernel_rfl
  | .i16 => by kernel_rfl
  | .i32 => by kernel_rfl
  | .i64 => by kernel_rfl
  | .so => by kernel_rfl
  | .uo => by kernel_rfl
  | .vo => by kernel_rfl
theorem at_py {k : FK} : At C lc ld (.v (.ref k.addr)) "py_type" (.v (.type "int")) := fun ok s I u r x Q E q => by
  subst r
  have h0 := flag_ok C.w.params k
  simp only [flagOk, Bool.and_eq_true] at h0
  have hr := h0.1.1.1.1
  have hp := py_ok C.w.params k
  simp only [pyOk, Bool.and_eq_true, beq_iff_eq, Bool.not_eq_true'] at hp
  obtain ⟨⟨p1, p2⟩, p3⟩ := hp
  have X := I.keeps ok
  simp only [readsIn, Bool.and_eq_true, beq_iff_eq] at hr
  obtain ⟨⟨⟨⟨a, b⟩, c'⟩, d⟩, f⟩ := hr
  obtain ⟨hk, d⟩ := Option.isSome_iff_exists.mp d
  have ho := looks_opaque (M := C.M) (C := k.addr) X a
  have ht := looks_typeIn (M := C.M) X b
  have hb := looks_hook (M := C.M) X d
  refine wpAny_bind (wpAny_mkText (wpAny_holding (wpAny_bind (ht _ _ _ _ (fun _ _ e => e) (wpAny_bind (looks_findIn X c' _ _ _ _ (fun _ _ e => e) ?_))))))
  dsimp only
  rw [show (onTheHeap (.type "type") && Value.builtin "type.__getattribute__" == Value.builtin "object.__getattribute__") = false from by rw [show (Value.builtin "type.__getattribute__" == Value.builtin "object.__getattribute__") = false from by decide +kernel, Bool.and_false], if_neg (by decide)]
  refine wpAny_bind (hb _ _ _ _ (fun _ _ e => e) (wpAny_bind (wpAny_attempt (wpAny_holding ?_))))
  unfold callGetattribute
  rw [show (x && onTheHeap (Value.builtin "type.__getattribute__")) = false from Bool.and_false _, if_neg (by decide)]
  unfold boundAndCalled
  rw [KF.slot_tga.bind]
  refine wpAny_bind (wpAny_pure ?_)
  show wpAny _ _ (call (.builtin "type.__getattribute__") [.ref k.addr, .str (Str.ofString "py_type") s.toks]) _ _ _
  refine wpAny_call ?_
  refine codeAny_call_builtin KF.slot_tga.plain KF.entry_tga ?_
  refine @check_slot C.M _ _ { s with toks := s.toks + 1 } "type.__getattribute__" "type" "__getattribute__" (.ref k.addr) [.str (Str.ofString "py_type") s.toks] [] _ (by decide +kernel) (by decide +kernel) (ht.andThen (looks_subIn X f)) (KF.args_tga (.ref k.addr) (.str (Str.ofString "py_type") s.toks)) ?_
  unfold Builtin.«type.__getattribute__»
  have X' : (frag C.w.params).In ({ s with toks := s.toks + 1 } : Shared).heap := X
  obtain ⟨hh, g, dd, tt, os⟩ := s
  refine wpAny_bind (wpAny_pure (wpAny_bind (ho.at (wpAny_bind (ht.at (wpAny_bind ((looks_findIn X' p1).at ?_)))))))
  refine wpAny_bind (wpAny_pure ?_)
  refine wpAny_bind ((looks_findIn X' p2).at ?_)
  dsimp only
  rw [p3, if_neg (by decide)]
  refine wpAny_bind (wpAny_of_eq ty_int ?_)
  rw [if_neg (by decide)]
  refine wpAny_bind (wpAny_bind (wpAny_of_eq ty_int (wpAny_of_eq int_noget ?_)))
  refine wpAny_bind (wpAny_of_eq (a := .type "int") rfl (wpAny_pure ?_))
  show wpAny _ _ (handedOut (.type "int")) _ _ _
  exact wpAny_of_eq rfl (q _ _ I.tok rfl)
theorem at_packer {k : FK} : At C lc ld (.v (.ref k.addr)) "packer_type" (.v (.ref k.obj)) := fun ok s I u r x Q E q => by
  subst r
  have h0 := flag_ok C.w.params k
  simp only [flagOk, Bool.and_eq_true, beq_iff_eq] at h0
  exact cls_value (I.keeps ok) h0.1.1.1.1 (clsVal_of h0.2) rfl (q _ _ I.tok rfl)
end
theorem relH_perm {l l' : Ld} (p : l.Perm l') : ∀ {n : List (Addr × Obj)}, relH l n → ∃ n', relH l' n' ∧ ∀ q ∈ n', q ∈ n := by
  induction p with
  | nil => intro n h; exact ⟨n, h, fun _ h => h⟩
  | cons x _ ih =>
    intro n h
    cases n with
    | nil => exact h.elim
    | cons y n =>
      obtain ⟨n', a, b⟩ := ih h.2.2
      refine ⟨y :: n', ⟨h.1, h.2.1, a⟩, fun q hq => ?_⟩
      rcases List.mem_cons.mp hq with rfl | hq
      · exact .head _
      · exact .tail _ (b q hq)
  | swap x y l =>
    intro n h
    match n, h with
    | a :: b :: n, h => exact ⟨b :: a :: n, ⟨h.2.2.1, h.2.2.2.1, h.1, h.2.1, h.2.2.2.2⟩, fun q hq => by
        rcases List.mem_cons.mp hq with rfl | hq
        · exact .tail _ (.head _)
        · rcases List.mem_cons.mp hq with rfl | hq
          · exact .head _
          · exact .tail _ (.tail _ hq)⟩
    | [_], h => exact h.2.2.elim
    | [], h => exact h.elim
  | trans _ _ ih1 ih2 =>
    intro n h
    obtain ⟨n1, a, b⟩ := ih1 h
    obtain ⟨n2, c, d⟩ := ih2 a
    exact ⟨n2, c, fun q hq => b q (d q hq)⟩
section
variable {C : Cn} {lc : Lc} {ld : Ld} {s : Shared}
theorem St.perm {ld' : Ld} (I : St C lc ld s) (p : ld.Perm ld') : St C lc ld' s := by
  refine St.el I fun m news F N H l nd os gens => ?_
  obtain ⟨n', a, b⟩ := relH_perm p H
  exact ⟨⟨m, n', F, fun q hq => N q (b q hq), a, l⟩, (p.map _).nodup_iff.mp nd, os, gens⟩
/-- fewer objects, in another order -/
theorem St.sub {ld' l : Ld} (I : St C lc ld s) (q : l.Sublist ld) (p : l.Perm ld') : St C lc ld' s := (I.less (fun _ _ e => e) q).perm p
theorem Bl_sub {ld' l : Ld} {K : Fl → Lc → Ld → Prop} {b : List Stmt} (q : l.Sublist ld) (p : l.Perm ld') (h : Bl C lc ld' b K) : Bl C lc ld b K := fun ok s I Q E k => h ok s (I.sub q p) Q E k
theorem St.growE {h' : Heap} {t : Nat} {a : Addr} {o : PO} {ob : Obj} (I : St C lc ld s) (hk : ∀ a ob, s.heap.get? a = some ob → h'.get? a = some ob) (ha : s.heap.get? a = none) (hx : h'.get? a = some ob) (ho : relO o ob) : St C lc (ld ++ [(a, o)]) { s with heap := h', toks := t } :=
  (I.grow hk ha hx ho).perm (List.perm_append_singleton _ _).symm
theorem fresh_none (h : Heap) : h.get? h.objs.size = none := by
  cases q : h.get? h.objs.size with
  | none => rfl
  | some o => exact absurd (Heap.lt_size q) (Nat.lt_irrefl _)
theorem bi_min2 {a b : Int} : Bi C (.builtin "min") [.i a, .i b] ld (fun p ld' => p = .i (if b < a then b else a) ∧ ld' = ld) := fun ok lc s I vs rs Q E q => by
  obtain ⟨v, u, rfl, ⟨t, r⟩, ⟨t', r'⟩⟩ := relL_2 rs
  next =>
    subst r r'
    refine St.el I fun m news F N H l nd os gens => ?_
    exact N_any (min_two_N ok.R.handled F N fun h' tk F' N' => q _ (.i _) ld _ ⟨⟨m, news, F', N', H, l⟩, nd, os, gens⟩ ⟨_, rfl⟩ ⟨rfl, rfl⟩)
theorem bi_max2 {a b : Int} : Bi C (.builtin "max") [.i a, .i b] ld (fun p ld' => p = .i (if b > a then b else a) ∧ ld' = ld) := fun ok lc s I vs rs Q E q => by
  obtain ⟨v, u, rfl, ⟨t, r⟩, ⟨t', r'⟩⟩ := relL_2 rs
  next =>
    subst r r'
    refine St.el I fun m news F N H l nd os gens => ?_
    exact N_any (max_two_N ok.R.handled F N fun h' tk F' N' => q _ (.i _) ld _ ⟨⟨m, news, F', N', H, l⟩, nd, os, gens⟩ ⟨_, rfl⟩ ⟨rfl, rfl⟩)
theorem bi_ba {n : Nat} (hn : n ≤ 2 ^ 23) : Bi C (.type "bytearray") [.i n] ld (fun p ld' => ∃ a, p = .v (.ref a) ∧ ld' = ld ++ [(a, .ba (List.replicate n 0))]) := fun ok lc s I vs rs Q E q => by
  obtain ⟨v, rfl, ⟨t, r⟩⟩ := relL_1 rs
  next =>
    subst r
    refine N_ba_int (by omega) (by omega) fun h' kp hb => ?_
    refine q _ (.v (.ref s.heap.objs.size)) _ _ (I.growE (t := s.toks) kp (fresh_none _) hb ?_) rfl ⟨_, rfl, rfl⟩
    show _ = baO (List.replicate n 0).toArray
    rw [Int.toNat_natCast]; simp
/-- o[a:] = value, both bytearrays -/
theorem Bl_slba {K : Fl → Lc → Ld → Prop} {rest : List Stmt} {o a value : Expr} {sp slp pos : Pos} {pre post : Ld} {d d2 : Addr} {bs v : List UInt8} {lo : Int} (hv : Ev C lc (pre ++ (d, .ba bs) :: post) value (.v (.ref d2))) (ho : Ev C lc (pre ++ (d, .ba bs) :: post) o (.v (.ref d)))
    (ha : Ev C lc (pre ++ (d, .ba bs) :: post) a (.i lo)) (hm : (d2, PO.ba v) ∈ pre ++ post) (h0 : 0 ≤ lo) (hl : (v.length : Int) + lo = bs.length) (hz : bs.length ≤ 2 ^ 20)
    (h : Bl C lc (pre ++ (d, .ba (bs.take lo.toNat ++ v)) :: post) rest K)
    (hs : swapsWith value (some (.Subscript o (.Slice (some a) none none slp) sp)) pos.line C.env = pure false := by with_unfolding_all rfl) :
    Bl C lc (pre ++ (d, .ba bs) :: post) (.Assign [.Subscript o (.Slice (some a) none none slp) sp] value pos :: rest) K := fun ok s I Q E k => by
  refine N_execs_cons ?_
  rw [exec_Assign_Subscript (o := o) (i := .Slice (some a) none none slp) (pos' := sp) (value := value) (pos := pos) (hs := hs)]
  refine N_bind (N_standAt (N_bind (hv ok s I _ _ fun vv s₁ I₁ rv => N_bind ?_)))
  have rv : vv = .ref d2 := rv
  subst rv
  rw [arm_assign_Subscript]
  refine N_bind (N_holding (ho ok s₁ I₁ _ _ fun ov s₂ I₂ ro => N_bind (N_holding ?_)))
  have ro : ov = .ref d := ro
  subst ro
  rw [arm_eval_Slice]
  refine N_bind (ha ok s₂ I₂ _ _ fun va s₃ I₃ ⟨ta, ra⟩ => N_bind (N_holding (N_pure (N_bind (N_holding (N_pure (N_any (newSlice fun h' kp _ hsl => ?_))))))))
  subst ra
  have I₅ := I₃.keep (t := s₃.toks) kp
  obtain ⟨ob, hob, rfl⟩ := I₅.at_ (x := d) (o := .ba bs) (by simp)
  have hm2 : (d2, PO.ba v) ∈ pre ++ (d, .ba bs) :: post := by
    rcases List.mem_append.mp hm with q | q
    · exact List.mem_append_left _ q
    · exact List.mem_append_right _ (.tail _ q)
  obtain ⟨ob2, hob2, rfl⟩ := I₅.at_ hm2
  have hne : d ≠ d2 := fun e => by
    subst e
    have nd := I₅.nd
    rw [List.map_append, List.map_cons, List.nodup_append, List.nodup_cons] at nd
    rcases List.mem_append.mp hm with q | q
    · exact nd.2.2 d (List.mem_map.mpr ⟨_, q, rfl⟩) d (.head _) rfl
    · exact nd.2.1.1 (List.mem_map.mpr ⟨_, q, rfl⟩)
  have c1 : cut (some lo) 0 bs.toArray.size = lo := cut_some h0 (by simp; omega)
  have c2 : cut none bs.toArray.size bs.toArray.size = bs.length := by simp [cut]
  refine N_bind (N_standAt (N_bind (N_holding (N_any (set_ba_ba (b := bs.toArray) (v := v.toArray) hob hob2 hne hsl (.int _ _) .none ?_ ?_ fun h'' k2 hba => N_release (N_pure ?_))))))
  · rw [c1, c2]; simp; omega
  · rw [c1, c2, put_list h0 (by omega) (by omega), List.size_toArray, sizeLine_eq]; simp; omega
  · rw [c1, c2, put_list h0 (by omega) (by omega), Int.toNat_natCast, List.drop_length, List.append_nil] at hba
    exact h ok _ (I₅.change (t := s₃.toks) k2 hba rfl) Q E k
end
def Lsub (a b : Lc) : Prop := ∀ x p, a.lookup x = some p → b.lookup x = some p
theorem lsub_nil {b : Lc} : Lsub [] b := fun x p h => by cases h
theorem lsub_cons {k : Str} {p : PV} {a b : Lc} (h : b.lookup k = some p) (r : Lsub a b) : Lsub ((k, p) :: a) b := fun x q e => by
  rw [List.lookup_cons] at e
  cases hx : x == k with
  | true => rw [hx] at e; cases e; rw [beq_iff_eq.mp hx]; exact h
  | false => rw [hx] at e; exact r x q e
section
variable {C : Cn} {lc : Lc} {ld : Ld} {K : Fl → Lc → Ld → Prop} {rest : List Stmt}
theorem Bl_ifj {t : Expr} {b o : List Stmt} {pos : Pos} {c : Bool} (lc' : Lc) (ld' : Ld) (ht : Tr C lc ld t c) (h1 : c = true → Bl C lc ld b (fun f l d => f = .next ∧ Lsub lc' l ∧ d = ld')) (h2 : c = false → Bl C lc ld o (fun f l d => f = .next ∧ Lsub lc' l ∧ d = ld'))
    (h : Bl C lc' ld' rest K) : Bl C lc ld (.If t b o pos :: rest) K :=
  Bl_if ht (fun q => Bl_mono (h1 q) fun f l d ⟨e, a, x⟩ => by subst e x; exact Bl_less h a (List.Sublist.refl _)) (fun q => Bl_mono (h2 q) fun f l d ⟨e, a, x⟩ => by subst e x; exact Bl_less h a (List.Sublist.refl _))
theorem Ev_bi1 {x : Str} {xp pos : Pos} {e : Expr} {f : Value} {p q : PV} (hx : Ea C lc ld (.Name x xp) (.v f)) (h1 : Ev C lc ld e p) (hb : Bi C f [p] ld (fun p' ld' => p' = q ∧ ld' = ld)) (hs : isStar e = false := by with_unfolding_all rfl) (hm : machineOk f = true := by with_unfolding_all rfl) :
    Ev C lc ld (.Call (.Name x xp) [e] [] pos) q :=
  (Ex_bi hx (Ag_1 (P' := fun ps ld' => ps = [p] ∧ ld' = ld) h1 (Ag_end ⟨rfl, rfl⟩) hs) (fun ps ld' h => by obtain ⟨a, b⟩ := h; subst a b; exact hb) hm (by rw [List.all_cons, hs]; rfl)).ev fun _ _ h => h
theorem Ex_bi1 {x : Str} {xp pos : Pos} {e : Expr} {f : Value} {p : PV} {P : PV → Ld → Prop} (hx : Ea C lc ld (.Name x xp) (.v f)) (h1 : Ev C lc ld e p) (hb : Bi C f [p] ld P) (hs : isStar e = false := by with_unfolding_all rfl) (hm : machineOk f = true := by with_unfolding_all rfl) :
    Ex C lc ld (.Call (.Name x xp) [e] [] pos) P :=
  Ex_bi hx (Ag_1 (P' := fun ps ld' => ps = [p] ∧ ld' = ld) h1 (Ag_end ⟨rfl, rfl⟩) hs) (fun ps ld' h => by obtain ⟨a, b⟩ := h; subst a b; exact hb) hm (by rw [List.all_cons, hs]; rfl)
theorem Ev_bi2 {x : Str} {xp pos : Pos} {e e' : Expr} {f : Value} {p p' q : PV} (hx : Ea C lc ld (.Name x xp) (.v f)) (h1 : Ev C lc ld e p) (h2 : Ev C lc ld e' p') (hb : Bi C f [p, p'] ld (fun p'' ld' => p'' = q ∧ ld' = ld)) (hs : isStar e = false := by with_unfolding_all rfl) (hs' : isStar e' = false := by with_unfolding_all rfl)
    (hm : machineOk f = true := by with_unfolding_all rfl) : Ev C lc ld (.Call (.Name x xp) [e, e'] [] pos) q :=
  (Ex_bi hx (Ag_1 (P' := fun ps ld' => ps = [p, p'] ∧ ld' = ld) h1 (Ag_1 (P' := fun ps ld' => p :: ps = [p, p'] ∧ ld' = ld) h2 (Ag_end ⟨rfl, rfl⟩) hs') hs) (fun ps ld' h => by obtain ⟨a, b⟩ := h; subst a b; exact hb) hm (by rw [List.all_cons, hs, List.all_cons, hs']; rfl)).ev fun _ _ h => h
/-- a method, its arguments plain expressions -/
theorem Ex_m0 {o nm : Str} {op apos pos : Pos} {x dx c f : Addr} {k : Nat} {sl : List (Option PV)} {od : Obj} {P : PV → Ld → Prop} (hf : Fn f k [.v (.ref x)] ld P) (ho : Ea C lc ld (.Name o op) (.v (.ref x))) (hx : (x, PO.ins c dx sl) ∈ ld) (hd : (dx, PO.raw od) ∈ ld) (hm : ∀ P, mthOk (frag P) c nm f = true) (hsh : shadowIn (some od) nm = some false)
    (hk : k ≤ C.k) (hp : methOk [] apos pos = true := by with_unfolding_all rfl) : Ex C lc ld (.Call (.Attribute (.Name o op) nm apos) [] [] pos) P :=
  Ex_meth (P₁ := fun ps ld' => ps = [] ∧ ld' = ld) ho hx hd hm hsh Ag_nil (fun ps ld' h => by obtain ⟨a, b⟩ := h; subst a b; exact hf) hk hp
theorem Ex_m1 {o nm : Str} {op apos pos : Pos} {x dx c f : Addr} {k : Nat} {sl : List (Option PV)} {od : Obj} {P : PV → Ld → Prop} {e : Expr} {p : PV} (hf : Fn f k [.v (.ref x), p] ld P) (ho : Ea C lc ld (.Name o op) (.v (.ref x))) (hx : (x, PO.ins c dx sl) ∈ ld) (hd : (dx, PO.raw od) ∈ ld) (hm : ∀ P, mthOk (frag P) c nm f = true) (hsh : shadowIn (some od) nm = some false)
    (hk : k ≤ C.k) (he : Ev C lc ld e p) (hp : methOk [e] apos pos = true := by with_unfolding_all rfl) (hs : isStar e = false := by with_unfolding_all rfl) : Ex C lc ld (.Call (.Attribute (.Name o op) nm apos) [e] [] pos) P :=
  Ex_meth (P₁ := fun ps ld' => ps = [p] ∧ ld' = ld) ho hx hd hm hsh (Ag_1 he (Ag_end ⟨rfl, rfl⟩) hs) (fun ps ld' h => by obtain ⟨a, b⟩ := h; subst a b; exact hf) hk hp
theorem Ex_m2 {o nm : Str} {op apos pos : Pos} {x dx c f : Addr} {k : Nat} {sl : List (Option PV)} {od : Obj} {P : PV → Ld → Prop} {e e' : Expr} {p p' : PV} (hf : Fn f k [.v (.ref x), p, p'] ld P) (ho : Ea C lc ld (.Name o op) (.v (.ref x))) (hx : (x, PO.ins c dx sl) ∈ ld) (hd : (dx, PO.raw od) ∈ ld) (hm : ∀ P, mthOk (frag P) c nm f = true) (hsh : shadowIn (some od) nm = some false)
    (hk : k ≤ C.k) (he : Ev C lc ld e p) (he' : Ev C lc ld e' p') (hp : methOk [e, e'] apos pos = true := by with_unfolding_all rfl) (hs : isStar e = false := by with_unfolding_all rfl) (hs' : isStar e' = false := by with_unfolding_all rfl) : Ex C lc ld (.Call (.Attribute (.Name o op) nm apos) [e, e'] [] pos) P :=
  Ex_meth (P₁ := fun ps ld' => ps = [p, p'] ∧ ld' = ld) ho hx hd hm hsh (Ag_1 he (Ag_1 (P' := fun ps ld' => p :: ps = [p, p'] ∧ ld' = ld) he' (Ag_end ⟨rfl, rfl⟩) hs') hs) (fun ps ld' h => by obtain ⟨a, b⟩ := h; subst a b; exact hf) hk hp
theorem Ex_m3 {o nm : Str} {op apos pos : Pos} {x dx c f : Addr} {k : Nat} {sl : List (Option PV)} {od : Obj} {P : PV → Ld → Prop} {e e' e'' : Expr} {p p' p'' : PV} (hf : Fn f k [.v (.ref x), p, p', p''] ld P) (ho : Ea C lc ld (.Name o op) (.v (.ref x))) (hx : (x, PO.ins c dx sl) ∈ ld) (hd : (dx, PO.raw od) ∈ ld) (hm : ∀ P, mthOk (frag P) c nm f = true) (hsh : shadowIn (some od) nm = some false)
    (hk : k ≤ C.k) (he : Ev C lc ld e p) (he' : Ev C lc ld e' p') (he'' : Ev C lc ld e'' p'') (hp : methOk [e, e', e''] apos pos = true := by with_unfolding_all rfl) (hs : isStar e = false := by with_unfolding_all rfl) (hs' : isStar e' = false := by with_unfolding_all rfl) (hs'' : isStar e'' = false := by with_unfolding_all rfl) : Ex C lc ld (.Call (.Attribute (.Name o op) nm apos) [e, e', e''] [] pos) P :=
  Ex_meth (P₁ := fun ps ld' => ps = [p, p', p''] ∧ ld' = ld) ho hx hd hm hsh (Ag_1 he (Ag_1 (P' := fun ps ld' => p :: ps = [p, p', p''] ∧ ld' = ld) he' (Ag_1 (P' := fun ps ld' => p :: p' :: ps = [p, p', p''] ∧ ld' = ld) he'' (Ag_end ⟨rfl, rfl⟩) hs'') hs') hs) (fun ps ld' h => by obtain ⟨a, b⟩ := h; subst a b; exact hf) hk hp
/-- a def of the module -/
theorem Ex_f1 {x : Str} {xp pos : Pos} {f : Addr} {k : Nat} {P : PV → Ld → Prop} {e : Expr} {p : PV} (hf : Fn f k [p] ld P) (hx : Ea C lc ld (.Name x xp) (.v (.ref f))) (hk : k ≤ C.k) (hm : ∀ P, keepIn (frag P) (.ref f) = true) (he : Ev C lc ld e p) (hs : isStar e = false := by with_unfolding_all rfl) : Ex C lc ld (.Call (.Name x xp) [e] [] pos) P :=
  Ex_fn (P₁ := fun ps ld' => ps = [p] ∧ ld' = ld) hx (Ag_1 he (Ag_end ⟨rfl, rfl⟩) hs) (fun ps ld' h => by obtain ⟨a, b⟩ := h; subst a b; exact hf) hk hm (by rw [List.all_cons, hs]; rfl)
theorem Ex_f2 {x : Str} {xp pos : Pos} {f : Addr} {k : Nat} {P : PV → Ld → Prop} {e e' : Expr} {p p' : PV} (hf : Fn f k [p, p'] ld P) (hx : Ea C lc ld (.Name x xp) (.v (.ref f))) (hk : k ≤ C.k) (hm : ∀ P, keepIn (frag P) (.ref f) = true) (he : Ev C lc ld e p) (he' : Ev C lc ld e' p') (hs : isStar e = false := by with_unfolding_all rfl) (hs' : isStar e' = false := by with_unfolding_all rfl) : Ex C lc ld (.Call (.Name x xp) [e, e'] [] pos) P :=
  Ex_fn (P₁ := fun ps ld' => ps = [p, p'] ∧ ld' = ld) hx (Ag_1 he (Ag_1 (P' := fun ps ld' => p :: ps = [p, p'] ∧ ld' = ld) he' (Ag_end ⟨rfl, rfl⟩) hs') hs) (fun ps ld' h => by obtain ⟨a, b⟩ := h; subst a b; exact hf) hk hm (by rw [List.all_cons, hs, List.all_cons, hs']; rfl)
theorem Ex_f3 {x : Str} {xp pos : Pos} {f : Addr} {k : Nat} {P : PV → Ld → Prop} {e e' e'' : Expr} {p p' p'' : PV} (hf : Fn f k [p, p', p''] ld P) (hx : Ea C lc ld (.Name x xp) (.v (.ref f))) (hk : k ≤ C.k) (hm : ∀ P, keepIn (frag P) (.ref f) = true) (he : Ev C lc ld e p) (he' : Ev C lc ld e' p') (he'' : Ev C lc ld e'' p'')
    (hs : isStar e = false := by with_unfolding_all rfl) (hs' : isStar e' = false := by with_unfolding_all rfl) (hs'' : isStar e'' = false := by with_unfolding_all rfl) : Ex C lc ld (.Call (.Name x xp) [e, e', e''] [] pos) P :=
  Ex_fn (P₁ := fun ps ld' => ps = [p, p', p''] ∧ ld' = ld) hx (Ag_1 he (Ag_1 (P' := fun ps ld' => p :: ps = [p, p', p''] ∧ ld' = ld) he' (Ag_1 (P' := fun ps ld' => p :: p' :: ps = [p, p', p''] ∧ ld' = ld) he'' (Ag_end ⟨rfl, rfl⟩) hs'') hs') hs) (fun ps ld' h => by obtain ⟨a, b⟩ := h; subst a b; exact hf) hk hm (by rw [List.all_cons, hs, List.all_cons, hs', List.all_cons, hs'']; rfl)
theorem Ex_f4 {x : Str} {xp pos : Pos} {f : Addr} {k : Nat} {P : PV → Ld → Prop} {e e' e'' e3 : Expr} {p p' p'' p3 : PV} (hf : Fn f k [p, p', p'', p3] ld P) (hx : Ea C lc ld (.Name x xp) (.v (.ref f))) (hk : k ≤ C.k) (hm : ∀ P, keepIn (frag P) (.ref f) = true) (he : Ev C lc ld e p) (he' : Ev C lc ld e' p') (he'' : Ev C lc ld e'' p'') (he3 : Ev C lc ld e3 p3)
    (hs : isStar e = false := by with_unfolding_all rfl) (hs' : isStar e' = false := by with_unfolding_all rfl) (hs'' : isStar e'' = false := by with_unfolding_all rfl) (hs3 : isStar e3 = false := by with_unfolding_all rfl) : Ex C lc ld (.Call (.Name x xp) [e, e', e'', e3] [] pos) P :=
  Ex_fn (P₁ := fun ps ld' => ps = [p, p', p'', p3] ∧ ld' = ld) hx (Ag_1 he (Ag_1 (P' := fun ps ld' => p :: ps = [p, p', p'', p3] ∧ ld' = ld) he' (Ag_1 (P' := fun ps ld' => p :: p' :: ps = [p, p', p'', p3] ∧ ld' = ld) he'' (Ag_1 (P' := fun ps ld' => p :: p' :: p'' :: ps = [p, p', p'', p3] ∧ ld' = ld) he3 (Ag_end ⟨rfl, rfl⟩) hs3) hs'') hs') hs) (fun ps ld' h => by obtain ⟨a, b⟩ := h; subst a b; exact hf) hk hm (by rw [List.all_cons, hs, List.all_cons, hs', List.all_cons, hs'', List.all_cons, hs3]; rfl)
end
section
variable {C : Cn} {lc : Lc} {ld : Ld} {K : Fl → Lc → Ld → Prop} {rest : List Stmt}
abbrev Kw {α : Type} (lf : α → Lc) (df : α → Ld) (μ : α → Nat) (J : α → Prop) (m : Nat) : Fl → Lc → Ld → Prop := fun f l d => (f = .next ∨ f = .cont) ∧ ∃ y, J y ∧ μ y < m ∧ Lsub (lf y) l ∧ d = df y
/-- a while loop: what its locals and its ledger are, by a state of our own -/
theorem Bl_wh {α : Type} (lf : α → Lc) (df : α → Ld) (μ : α → Nat) (J : α → Prop) {t : Expr} {b : List Stmt} {pos : Pos}
    (turn : ∀ x, J x → ∃ c, Tr C (lf x) (df x) t c ∧ (c = true → Bl C (lf x) (df x) b (Kw lf df μ J (μ x))) ∧ (c = false → Bl C (lf x) (df x) rest K))
    (x : α) (hJ : J x) (hl : Lsub (lf x) lc) (hd : ld = df x) : Bl C lc ld (.While t b [] pos :: rest) K := by
  subst hd
  refine Bl_less (lc' := lf x) ?_ hl (List.Sublist.refl _)
  clear hl
  refine fun ok s I Q E k => ?_
  refine N_execs_cons ?_
  rw [exec_While]
  refine N_bind (N_standAt ?_)
  unfold runOwn
  refine N_onRaise (N_run ?_)
  show codeN C.M C.A _ _ _
  refine codeN_loop rfl rfl (fun n s => ∃ x, J x ∧ μ x = n ∧ St C (lf x) (df x) s) (fun n s hI => ?_) (μ x) ⟨x, hJ, rfl, I⟩
  obtain ⟨x, hJ, rfl, I⟩ := hI
  show wpN _ C.A ((whileTurn t b [] C.env).onRaise (fun x => do noteFrame x C.env; theTreesLotGoes x)) _ _ s
  refine N_onRaise ?_
  unfold whileTurn
  obtain ⟨c, ht, h1, h2⟩ := turn x hJ
  refine N_bind (ht ok s I _ _ fun s₁ I₁ => ?_)
  cases c with
  | false =>
    rw [if_neg Bool.false_ne_true]
    refine N_bind (N_any (wpAny_execs_nil (N_pure ?_)))
    exact h2 rfl ok s₁ I₁ Q E k
  | true =>
    rw [if_pos rfl]
    refine N_bind (h1 rfl ok s₁ I₁ _ _ fun fl f lc' ld' s' I' r hk => ?_)
    obtain ⟨hf, y, hy, hm, hl, rfl⟩ := hk
    have I2 := I'.less hl (List.Sublist.refl _)
    rcases hf with rfl | rfl
    · cases fl <;> first | exact r.elim | exact N_pure (.inl ⟨rfl, μ y, hm, y, hy, rfl, I2⟩)
    · cases fl <;> first | exact r.elim | exact N_pure (.inl ⟨rfl, μ y, hm, y, hy, rfl, I2⟩)
end
theorem pa_struct : PlainAttrs "_struct.Struct" :=
  ⟨⟨"_struct.Struct.__getattribute__", by rw [typeLookup_type, builtinLookup_eq_fast]; kernel_rfl, by decide +kernel⟩, by rw [typeLookup_type, builtinLookup_eq_fast]; kernel_rfl⟩
theorem ty_pack : typeOf (.builtin "_struct.Struct.pack_into") = pure (.type "method_descriptor") := by show builtinType _ = _; rw [builtinType_eq_fast]; kernel_rfl
theorem ty_unpack : typeOf (.builtin "_struct.Struct.unpack_from") = pure (.type "method_descriptor") := by show builtinType _ = _; rw [builtinType_eq_fast]; kernel_rfl
theorem st_lookup (P : Params) : ∀ k : FK, ∃ t, (frag P).lookup k.obj = some ⟨.type "_struct.Struct", none, .fields #[.bytes k.f t], #[]⟩
  | .u8 => ⟨335, by kernel_rfl⟩
  | .u16 => ⟨_, show (frag P).lookup 53 = some (o53 P) from by kernel_rfl⟩
  | .u32 => ⟨_, show (frag P).lookup 54 = some (o54 P) from by kernel_rfl⟩
  | .u64 => ⟨_, show (frag P).lookup 55 = some (o55 P) from by kernel_rfl⟩
  | .i8 => ⟨_, show (frag P).lookup 56 = some (o56 P) from by kernel_rfl⟩
  | .i16 => ⟨_, show (frag P).lookup 57 = some (o57 P) from by kernel_rfl⟩
  | .i32 => ⟨_, show (frag P).lookup 58 = some (o58 P) from by kernel_rfl⟩
  | .i64 => ⟨_, show (frag P).lookup 59 = some (o59 P) from by kernel_rfl⟩
  | .so => ⟨_, show (frag P).lookup 58 = some (o58 P) from by kernel_rfl⟩
  | .uo => ⟨_, show (frag P).lookup 54 = some (o54 P) from by kernel_rfl⟩
  | .vo => ⟨_, show (frag P).lookup 53 = some (o53 P) from by kernel_rfl⟩
section
variable {C : Cn} {lc : Lc} {ld : Ld}
theorem isSt {s : Shared} (ok : C.Ok) (I : St C lc ld s) (k : FK) : IsSt s.heap k.obj k.f := by
  obtain ⟨t, ht⟩ := st_lookup C.w.params k
  exact ⟨t, I.keeps ok _ _ ht⟩
/-- a method of an object of a built-in type -/
theorem Ex_bm {o nm : Str} {op apos pos : Pos} {args : List Expr} {x : Addr} {T id : String} {P₁ : List PV → Ld → Prop} {P : PV → Ld → Prop} (ho : Ea C lc ld (.Name o op) (.v (.ref x)))
    (hT : C.Ok → ∀ s, St C lc ld s → ∃ ob, s.heap.get? x = some ob ∧ ob.cls = .type T ∧ ob.dict = none) (pa : PlainAttrs T) (slot : Slot T nm id) (hty : typeOf (.builtin id) = pure (.type "method_descriptor")) (ha : Ag C lc ld args P₁)
    (hf : ∀ ps ld', P₁ ps ld' → Bi C (.builtin id) (.v (.ref x) :: ps) ld' P) (hp : methOk args apos pos = true := by with_unfolding_all rfl) : Ex C lc ld (.Call (.Attribute (.Name o op) nm apos) args [] pos) P := fun ok s I Q E q => by
  obtain ⟨pl, he⟩ := meth_eq (o := o) (op := op) (nm := nm) (env := C.env) hp
  have hpl : ∀ pos : Pos, (backTo pos (starEach args C.env)).any (·.1) = false := fun pos => by
    unfold methOk at hp
    rw [Bool.and_eq_true, Bool.and_eq_true] at hp
    exact star_any (star_plain hp.1.1)
  rw [he]
  refine N_bind (N_any (ho ok s I _ _ fun ov s₁ I₁ ro => ?_))
  have ro : ov = .ref x := ro
  subst ro
  obtain ⟨ob, hob, hc, hd⟩ := hT ok s₁ I₁
  refine N_bind (N_standAt (N_bind (N_holding (N_any (getMethod_builtin (T := T) ⟨ob, hob, hc⟩ pa slot hty (fun a e => by cases e; exact ⟨ob, hob, hd⟩) ?_)))))
  refine N_callWith (hpl _) rfl (ha ok s₁ I₁ _ _ _ fun us ps ld' s₂ I₂ rs hp => N_evalAll_nil ⟨looks_machine rfl, ?_⟩)
  exact hf ps ld' hp ok lc s₂ I₂ (.ref x :: us) ⟨rfl, rs⟩ Q E q
theorem bi_pack {k : FK} {pre post : Ld} {d : Addr} {bs : List UInt8} {i n : Int} (h0 : 0 ≤ i) (h1 : i + k.w ≤ bs.length) (hz : bs.length ≤ 2 ^ 20) (hn : k.lo ≤ n ∧ n ≤ k.hi) :
    Bi C (.builtin "_struct.Struct.pack_into") [.v (.ref k.obj), .v (.ref d), .i i, .i n] (pre ++ (d, .ba bs) :: post) (fun p ld' => p = .v .none ∧ ld' = pre ++ (d, .ba (bs.take i.toNat ++ (enc k.w n).toList ++ bs.drop (i + k.w).toNat)) :: post) := fun ok lc s I vs rs Q E q => by
  obtain ⟨v1, v2, v3, v4, rfl, r1, r2, ⟨t, r3⟩, ⟨u, r4⟩⟩ := relL_4 rs
  next =>
    have r1 : v1 = .ref k.obj := r1
    have r2 : v2 = .ref d := r2
    subst r1 r2 r3 r4
    obtain ⟨ob, hob, rfl⟩ := I.at_ (x := d) (o := .ba bs) (by simp)
    refine N_any (wpAny_call (pack_any (b := bs.toArray) k.pk (isSt ok I k) hob h0 (by simpa using h1) (by simp; omega) hn.1 hn.2 fun h' kp hb => ?_))
    refine q .none (.v .none) _ _ (I.change (t := s.toks) kp hb ?_) rfl ⟨rfl, rfl⟩
    show _ = baO (bs.take i.toNat ++ (enc k.w n).toList ++ bs.drop (i + k.w).toNat).toArray
    rw [← put_list h0 (by omega) h1]
end
theorem l51 (P : Params) : (frag P).lookup 51 = some (o51 P) := by kernel_rfl
theorem g51 (P : Params) : nsIn (frag P) mainGlobals "binary_types" = some (some (.ref 51)) := by kernel_rfl
theorem e_nested : entryFor table "isinstance.nested" = some Builtin.«isinstance.nested» := by first | exact entryFor_of_fast (by kernel_rfl) | exact entryFor_of_tree (by kernel_rfl)
theorem tup_sub : isSubtype (.type "tuple") (.type "tuple") = pure true := by rw [isSubtype_type]; kernel_rfl
section
variable {C : Cn} {lc : Lc} {ld : Ld}
theorem bi_isi {b : List UInt8} : Bi C (.builtin "isinstance") [.y b, .v (.ref 51)] ld (fun p ld' => p = .v (.bool true) ∧ ld' = ld) := fun ok lc s I vs rs Q E q => by
  obtain ⟨v, u, rfl, ⟨t, r⟩, r'⟩ := relL_2 rs
  next =>
    have r' : u = .ref 51 := r'
    subst r r'
    have ho := I.keeps ok _ _ (l51 _)
    have hT : s.TypeIs (.ref 51) "tuple" := ⟨_, ho, rfl⟩
    refine N_any (call_isinstance_of ?_ (by intro e; cases e))
    unfold Builtin.«isinstance.nested»
    refine wpAny_bind (m := typeOf (.bytes b.toArray t)) (wpAny_typeOf (ty_bytes _ _) ?_)
    refine aifN (by decide) ?_
    refine wpAny_bind (m := typeOf (.ref 51)) (wpAny_typeOf hT ?_)
    refine aifN (by decide) ?_
    refine wpAny_bind (wpAny_bind (m := typeOf (.ref 51)) (wpAny_typeOf hT (aifN (by decide) (wpAny_pure ?_))))
    refine wpAny_bind (wpAny_isInstance hT tup_sub ?_)
    refine aifP rfl ?_
    refine aifN (by decide) ?_
    dsimp only
    refine wpAny_bind ?_
    unfold seqItems?
    refine wpAny_bind (wpAny_load ho ?_)
    refine wpAny_pure ?_
    simp only [Option.getD_some, ← Array.forIn_toList, List.forIn_cons]
    refine wpAny_bind (wpAny_bind (wpAny_bind (wpAny_call ?_)))
    refine codeAny_call_builtin (by decide +kernel) e_nested (wpAny_of_eq (a := ()) (by kernel_rfl) ?_)
    unfold Builtin.«isinstance.nested»
    refine wpAny_bind (m := typeOf (.bytes b.toArray t)) (wpAny_typeOf (ty_bytes _ _) ?_)
    refine aifP (by decide) ?_
    refine wpAny_bind (wpAny_rule (wpAny_bind (wpAny_pure (wpAny_pure ?_))))
    refine wpAny_bind (wpAny_truthy_bool ?_)
    refine aifP rfl ?_
    exact wpAny_bind (wpAny_pure (wpAny_pure (wpAny_pure (wpAny_pure (q _ (.v (.bool true)) ld _ I rfl ⟨rfl, rfl⟩)))))
theorem bi_lenby {b : List UInt8} (hz : b.length ≤ 2 ^ 20) : Bi C (.builtin "len") [.y b] ld (fun p ld' => p = .i b.length ∧ ld' = ld) := fun ok lc s I vs rs Q E q => by
  obtain ⟨v, rfl, ⟨t, r⟩⟩ := relL_1 rs
  next =>
    subst r
    refine N_any (PySem.W.len_bytes (by simp; omega) (q _ (.i b.length) ld _ I.tok ⟨s.toks + 1, ?_⟩ ⟨rfl, rfl⟩))
    rw [List.size_toArray]
end
theorem relL_set : ∀ {l : List PV} {m : List Value} {i : Nat} {p : PV} {v : Value}, relL l m → rel p v → relL (l.set i p) (m.set i v)
  | [], [], _, _, _, _, _ => trivial
  | _ :: _, _ :: _, 0, _, _, h, r => ⟨r, h.2⟩
  | _ :: _, _ :: _, i + 1, _, _, h, r => ⟨h.1, relL_set (i := i) h.2 r⟩
  | [], _ :: _, _, _, _, h, _ => h.elim
  | _ :: _, [], _, _, _, h, _ => h.elim
theorem relL_app : ∀ {l l' : List PV} {m m' : List Value}, relL l m → relL l' m' → relL (l ++ l') (m ++ m')
  | [], _, [], _, _, h => h
  | _ :: _, _, _ :: _, _, h, h' => ⟨h.1, relL_app h.2 h'⟩
  | [], _, _ :: _, _, h, _ => h.elim
  | _ :: _, _, [], _, h, _ => h.elim
section
variable {C : Cn} {lc : Lc} {ld : Ld} {K : Fl → Lc → Ld → Prop} {rest : List Stmt}
theorem upd_get {h : Heap} {a : Addr} {o : Obj} {f : Obj → Obj} (ho : h.get? a = some o) (hf : (f o).isFreed = false) : (∀ b ob, b ≠ a → h.get? b = some ob → (h.update a f).get? b = some ob) ∧ (h.update a f).get? a = some (f o) :=
  ⟨fun b ob hb e => (Heap.get?_update_ne _ _ _ _ hb).trans e, by first | exact Heap.get?_update_self f ho hf | exact Heap.get?_update_self _ ho hf⟩
/-- o[i] = value, o a list -/
theorem Bl_seti {o i value : Expr} {sp pos : Pos} {pre post : Ld} {v : Addr} {l : List PV} {n : Int} {p : PV} (hv : Ev C lc (pre ++ (v, .sq "list" l) :: post) value p) (ho : Ev C lc (pre ++ (v, .sq "list" l) :: post) o (.v (.ref v)))
    (hi : Ev C lc (pre ++ (v, .sq "list" l) :: post) i (.i n)) (h0 : 0 ≤ n) (h1 : n < l.length) (hz : l.length ≤ 2 ^ 20)
    (h : Bl C lc (pre ++ (v, .sq "list" (l.set n.toNat p)) :: post) rest K)
    (hs : swapsWith value (some (.Subscript o i sp)) pos.line C.env = pure false := by with_unfolding_all rfl) :
    Bl C lc (pre ++ (v, .sq "list" l) :: post) (.Assign [.Subscript o i sp] value pos :: rest) K := fun ok s I Q E k => by
  refine N_execs_cons ?_
  rw [exec_Assign_Subscript (o := o) (i := i) (pos' := sp) (value := value) (pos := pos) (hs := hs)]
  refine N_bind (N_standAt (N_bind (hv ok s I _ _ fun vv s₁ I₁ rv => N_bind ?_)))
  rw [arm_assign_Subscript]
  refine N_bind (N_holding (ho ok s₁ I₁ _ _ fun ov s₂ I₂ ro => N_bind (N_holding ?_)))
  have ro : ov = .ref v := ro
  subst ro
  refine hi ok s₂ I₂ _ _ fun iv s₃ I₃ ⟨ti, ri⟩ => ?_
  subst ri
  obtain ⟨ob, hob, vs, c, rl, rfl⟩ := I₃.at_ (x := v) (o := .sq "list" l) (by simp)
  have hl := relL_len rl
  refine N_bind (N_standAt (N_bind (N_holding (N_any (ki_setAt (items := vs.toArray) (n := c) hob h0 (by omega) (by simp; omega) ?_)))))
  obtain ⟨u1, u2⟩ := upd_get (f := Obj.mapSeq (·.setIfInBounds n.toNat vv)) hob rfl
  refine N_release (N_pure (h ok _ (I₃.change (t := s₃.toks) u1 u2 ?_) Q E k))
  refine ⟨vs.set n.toNat vv, c, relL_set rl rv, ?_⟩
  simp [Obj.mapSeq]
end
/-- a builder -/
structure BS where
  d : Addr
  cv : PV
  fi : Bool
  ma : Int
  ne : Bool
  oe : PV
  ve : Option PV
  vt : PV
  jk : List UInt8
  tl : List UInt8
abbrev BS.sh (S : BS) (h : Int) : List (Option PV) := [some (.v (.ref S.d)), some S.cv, some (.v (.bool S.fi)), some (.v (.bool false)), some (.i h), some (.i S.ma), some (.v (.bool S.ne)), some S.oe, some (.v .none), S.ve, some S.vt]
/-- a builder whose head may lag -/
abbrev BH (b dx : Addr) (S : BS) (h : Int) (r : Ld) : Ld := (b, .ins 721 dx (S.sh h)) :: (dx, .raw (dictOf [] 0)) :: (S.d, .ba (S.jk ++ S.tl)) :: r
abbrev B (b dx : Addr) (S : BS) (r : Ld) : Ld := BH b dx S (S.jk.length : Int) r
theorem so_cv (P : Params) : slotOk (frag P) 721 "current_vtable" 1 = true := by kernel_rfl
theorem so_fi (P : Params) : slotOk (frag P) 721 "finished" 2 = true := by kernel_rfl
theorem so_fd (P : Params) : slotOk (frag P) 721 "forceDefaults" 3 = true := by kernel_rfl
theorem so_oe (P : Params) : slotOk (frag P) 721 "objectEnd" 7 = true := by kernel_rfl
theorem so_ss (P : Params) : slotOk (frag P) 721 "sharedStrings" 8 = true := by kernel_rfl
theorem so_ve (P : Params) : slotOk (frag P) 721 "vectorNumElems" 9 = true := by kernel_rfl
theorem so_vt (P : Params) : slotOk (frag P) 721 "vtables" 10 = true := by kernel_rfl
theorem hi_ref {a : Addr} : ∀ v, rel (.v (.ref a)) v → handedIn v = true := fun v h => by subst h; rfl
theorem hi_int {n : Int} : ∀ v, rel (.i n) v → handedIn v = true := fun v ⟨t, h⟩ => by subst h; rfl
theorem hi_bool {n : Bool} : ∀ v, rel (.v (.bool n)) v → handedIn v = true := fun v h => by subst h; rfl
theorem hi_none : ∀ v, rel (.v .none) v → handedIn v = true := fun v h => by subst h; rfl
section
variable {C : Cn} {lc : Lc} {b dx : Addr} {S : BS} {r : Ld} {h : Int}
theorem at_bytes : At C lc (BH b dx S h r) (.v (.ref b)) "Bytes" (.v (.ref S.d)) := At_slot (.head _) (.tail _ (.head _)) so_Bytes rfl hi_ref
theorem at_head : At C lc (BH b dx S h r) (.v (.ref b)) "head" (.i h) := At_slot (.head _) (.tail _ (.head _)) so_head rfl hi_int
theorem at_ma : At C lc (BH b dx S h r) (.v (.ref b)) "minalign" (.i S.ma) := At_slot (.head _) (.tail _ (.head _)) so_minalign rfl hi_int
theorem at_ne : At C lc (BH b dx S h r) (.v (.ref b)) "nested" (.v (.bool S.ne)) := At_slot (.head _) (.tail _ (.head _)) so_nested rfl hi_bool
end
theorem gb_len (P : Params) : nsIn (frag P) mainGlobals "len" = some none := by kernel_rfl
/-- len(name.attr), a bytearray -/
theorem Ev_lenba {C : Cn} {lc : Lc} {ld : Ld} {xp pos : Pos} {e : Expr} {d : Addr} {bs : List UInt8} (he : Ev C lc ld e (.v (.ref d))) (hd : (d, PO.ba bs) ∈ ld) (hz : bs.length < 2 ^ 40) (hx : C.env.kindOf "len" = some .globalImplicit) (hs : isStar e = false := by rfl) : Ev C lc ld (.Call (.Name "len" xp) [e] [] pos) (.i bs.length) :=
  (Ex_bi (Ea_bi gb_len (by rfl) (by decide) hx) (Ag_1 (P' := fun ps ld' => ps = [.v (.ref d)] ∧ ld' = ld) he (Ag_end ⟨rfl, rfl⟩) hs) (fun ps ld' h => by obtain ⟨a, b⟩ := h; subst a b; exact bi_len hd hz) rfl (by rw [List.all_cons, hs]; rfl)).ev fun _ _ h => h
theorem q_u8 (P : Params) : nsIn (frag P) mainGlobals "Uint8Flags" = some (some (.ref FK.u8.addr)) := g69 P
theorem q_u16 (P : Params) : nsIn (frag P) mainGlobals "Uint16Flags" = some (some (.ref FK.u16.addr)) := g83 P
theorem q_u32 (P : Params) : nsIn (frag P) mainGlobals "Uint32Flags" = some (some (.ref FK.u32.addr)) := g97 P
theorem q_u64 (P : Params) : nsIn (frag P) mainGlobals "Uint64Flags" = some (some (.ref FK.u64.addr)) := g111 P
theorem q_i8 (P : Params) : nsIn (frag P) mainGlobals "Int8Flags" = some (some (.ref FK.i8.addr)) := g125 P
theorem q_i16 (P : Params) : nsIn (frag P) mainGlobals "Int16Flags" = some (some (.ref FK.i16.addr)) := g139 P
theorem q_i32 (P : Params) : nsIn (frag P) mainGlobals "Int32Flags" = some (some (.ref FK.i32.addr)) := g153 P
theorem q_i64 (P : Params) : nsIn (frag P) mainGlobals "Int64Flags" = some (some (.ref FK.i64.addr)) := g167 P
theorem q_so (P : Params) : nsIn (frag P) mainGlobals "SOffsetTFlags" = some (some (.ref FK.so.addr)) := g181 P
theorem q_uo (P : Params) : nsIn (frag P) mainGlobals "UOffsetTFlags" = some (some (.ref FK.uo.addr)) := g193 P
theorem q_vo (P : Params) : nsIn (frag P) mainGlobals "VOffsetTFlags" = some (some (.ref FK.vo.addr)) := g205 P
section
variable {C : Cn} {lc : Lc} {ld : Ld} {s : Shared}
theorem N_attempt {α : Type} {M : Model} {A : Around} {E : Value → Shared → Prop} {m : Sem α} {Q : Except Value α → Shared → Prop} (h : wpN M A m (fun a => Q (.ok a)) (fun e => Q (.error e)) s) : wpN M A m.attempt Q E s :=
  fun Γ p hΓ h1 h2 => by rw [Sem.wp_attempt]; exact h Γ p hΓ h1 h2
/-- the object x changes alone -/
theorem St.changeB {pre post : Ld} {x : Addr} {o o' : PO} {h' : Heap} {t : Nat} (I : St C lc (pre ++ (x, o) :: post) s) (hb : Heap.SameBut x s.heap h') (hx : ∃ ob, h'.get? x = some ob ∧ relO o' ob) :
    St C lc (pre ++ (x, o') :: post) { s with heap := h', toks := t } := by
  obtain ⟨ob, hx, ho⟩ := hx
  exact I.change (fun a ob ha e => (hb.2 a ha).trans e) hx ho
theorem St.dropE {pre post : Ld} {x : Addr} {o : PO} {h' : Heap} {t : Nat} (I : St C lc (pre ++ (x, o) :: post) s) (he : Heap.ExtBut x s.heap h') : St C lc (pre ++ post) { s with heap := h', toks := t } := by
  refine St.el I fun m news F N H l nd os gens => ?_
  obtain ⟨u, ob₀, w, rfl, Hu, _, Hw⟩ := relH_split H
  have hn := N (x, ob₀) (by simp)
  have nd' : ((u ++ (x, ob₀) :: w).map (·.1)).Nodup := relH_keys H ▸ nd
  rw [List.map_append, List.map_cons] at nd'
  have n1 : ∀ p ∈ u, p.1 ≠ x := fun p hp e => (List.nodup_append.mp nd').2.2 p.1 (List.mem_map_of_mem hp) x (.head _) e
  have n2 : ∀ p ∈ w, p.1 ≠ x := fun p hp e => (List.nodup_cons.mp (List.nodup_append.mp nd').2.1).1 (List.mem_map.mpr ⟨p, hp, e⟩)
  refine ⟨⟨m, u ++ w, ⟨ns_of F.ns fun o e => he _ _ (Ne.symm hn.2.1) e, fun b ob' e => he b ob' (fun q => ?_) (F.keep b ob' e), F.above⟩, fun p hp => ?_, relH_mk Hu Hw, l⟩, ?_, os, gens⟩
  · rw [q, hn.2.2] at e; cases e
  · rcases List.mem_append.mp hp with hp | hp
    · have z := N p (List.mem_append_left _ hp)
      exact ⟨he _ _ (n1 p hp) z.1, z.2⟩
    · have z := N p (List.mem_append_right _ (.tail _ hp))
      exact ⟨he _ _ (n2 p hp) z.1, z.2⟩
  · refine List.Sublist.nodup ?_ nd
    exact (List.Sublist.append_left (List.sublist_cons_self _ _) _).map _
end
/-- an iterator: its object at it, states o, n items -/
structure Wk (it : Addr) (o : Nat → PO) (n : Nat) (item : Nat → PV) (need : Ld) : Prop where
  step : ∀ (C : Cn), C.Ok → ∀ i, i < n → ∀ lc pre post s, (∀ y ∈ need, y ∈ pre ++ post) → St C lc (pre ++ (it, o i) :: post) s → ∀ (Q : Option Value → Shared → Prop) (E : Value → Shared → Prop),
    (∀ v s', rel (item i) v → St C lc (pre ++ (it, o (i + 1)) :: post) s' → Q (some v) s') → wpAny C.M C.A (pyNext (.ref it)) Q E s
  stop : ∀ (C : Cn), C.Ok → ∀ lc pre post s, (∀ y ∈ need, y ∈ pre ++ post) → St C lc (pre ++ (it, o n) :: post) s → ∀ (Q : Option Value → Shared → Prop) (E : Value → Shared → Prop),
    (∀ s', St C lc (pre ++ post) s' → Q none s') → wpAny C.M C.A (pyNext (.ref it)) Q E s
  self : ∀ (C : Cn), C.Ok → ∀ lc pre post s, St C lc (pre ++ (it, o 0) :: post) s → ∀ (Q : Value → Shared → Prop) (E : Value → Shared → Prop), Q (.ref it) s → wpAny C.M C.A (pyIter (.ref it)) Q E s
/-- a source of a loop -/
def Sc (C : Cn) (lc : Lc) (ld : Ld) (e : Expr) (n : Nat) (item : Nat → PV) (need : Ld) : Prop :=
  C.Ok → ∀ s, St C lc ld s → ∀ (Q : Value → Shared → Prop) (E : Value → Shared → Prop), (∀ it o s', Wk it o n item need → St C lc (ld ++ [(it, o 0)]) s' → Q (.ref it) s') →
    wpN C.M C.A (eval e C.env) (fun x s₁ => wpN C.M C.A (pyIter x) Q E s₁) E s
def liO (l : Addr) (i : Nat) : PO := .is fun o => o.cls = .type "list_iterator" ∧ o.data = .fields #[.ref l, .int i 0]
def riO (x left c : Int) : PO := .is fun o => o = { cls := .type "range_iterator", dict := none, data := .fields #[rawInt x, rawInt left, rawInt c], slots := #[] }
def rvO (l : Addr) (i : Int) : PO := .is fun o => o.cls = .type "list_reverseiterator" ∧ o.data = .fields #[.ref l, rawInt i]
theorem mem_mid {pre post : Ld} {x : Addr × PO} : ∀ y, y ∈ pre ++ post → y ∈ pre ++ x :: post := fun y h => by
  rcases List.mem_append.mp h with h | h
  · exact List.mem_append_left _ h
  · exact List.mem_append_right _ (.tail _ h)
theorem isList_at {C : Cn} {lc : Lc} {ld : Ld} {s : Shared} {l : Addr} {xs : List PV} (I : St C lc ld s) (h : (l, PO.sq "list" xs) ∈ ld) : ∃ vs : List Value, s.heap.IsList l vs.toArray ∧ relL xs vs := by
  obtain ⟨ob, hob, vs, n, rl, rfl⟩ := I.at_ h
  exact ⟨vs, ⟨_, hob, rfl, n, rfl⟩, rl⟩
/-- a list of the ledger -/
theorem Wk.list {l it : Addr} {xs : List PV} : Wk it (liO l) xs.length (fun i => xs.getD i (.v .none)) [(l, .sq "list" xs)] where
  step := fun C ok i hi lc pre post s hn I Q E k => by
    have hm := hn _ (.head _)
    obtain ⟨vs, hl, rl⟩ := isList_at I (mem_mid _ hm)
    obtain ⟨ob, hob, h1, h2⟩ := I.at_ (x := it) (o := liO l i) (by simp)
    obtain ⟨v, hv, rv⟩ := relL_get (i := i) rl (List.getElem?_eq_getElem hi)
    refine wpAny_pyNext_list_item (l := l) (i := i) ⟨ob, hob, h1, h2⟩ hl (x := v) (by simpa using hv) fun h' hit hs => ?_
    refine k v _ ?_ (I.changeB (t := s.toks) hs ?_)
    · rw [List.getD_eq_getElem?_getD, List.getElem?_eq_getElem hi]; exact rv
    · obtain ⟨ob', a, b, c⟩ := hit
      exact ⟨ob', a, b, c⟩
  stop := fun C ok lc pre post s hn I Q E k => by
    have hm := hn _ (.head _)
    obtain ⟨vs, hl, rl⟩ := isList_at I (mem_mid _ hm)
    obtain ⟨ob, hob, h1, h2⟩ := I.at_ (x := it) (o := liO l xs.length) (by simp)
    refine wpAny_pyNext_list_end (l := l) (i := xs.length) ok.R.handled ⟨ob, hob, h1, h2⟩ hl (by rw [relL_len rl]; simp) fun h' he => ?_
    exact k _ (I.dropE (t := s.toks) he)
  self := fun C ok lc pre post s I Q E k => by
    obtain ⟨ob, hob, h1, h2⟩ := I.at_ (x := it) (o := liO l 0) (by simp)
    exact wpAny_pyIter_listiter (l := l) (i := 0) ⟨ob, hob, h1, h2⟩ k
theorem Wk.range {it : Addr} {a c : Int} {n : Nat} : Wk it (fun i => riO (a + (i : Nat) * c) ((n : Int) - (i : Nat)) c) n (fun i => .i (a + (i : Nat) * c)) [] where
  step := fun C ok i hi lc pre post s hn I Q E k => by
    obtain ⟨ob, hob, h1⟩ := I.at_ (x := it) (o := riO (a + (i : Nat) * c) ((n : Int) - (i : Nat)) c) (by simp)
    subst h1
    refine wpAny_pyNext_range_item hob (by omega) fun h' hit hs => ?_
    refine k _ _ ⟨_, rfl⟩ (I.changeB (t := s.toks + 1) hs ⟨_, hit, ?_⟩)
    have e1 : a + ((i + 1 : Nat) : Int) * c = a + (i : Int) * c + c := by rw [Int.natCast_add, Int.add_mul]; show a + (↑i * c + 1 * c) = _; omega
    have e2 : (n : Int) - ((i + 1 : Nat) : Int) = (n : Int) - (i : Int) - 1 := by omega
    rw [e1, e2]; rfl
  stop := fun C ok lc pre post s hn I Q E k => by
    obtain ⟨ob, hob, h1⟩ := I.at_ (x := it) (o := riO (a + (n : Nat) * c) ((n : Int) - (n : Nat)) c) (by simp)
    subst h1
    exact wpAny_pyNext_range_end ok.R.handled hob (by omega) fun h' he => k _ (I.dropE (t := s.toks) he)
  self := fun C ok lc pre post s I Q E k => by
    obtain ⟨ob, hob, h1⟩ := I.at_ (x := it) (o := riO (a + (0 : Nat) * c) ((n : Int) - (0 : Nat)) c) (by simp)
    subst h1
    exact wpAny_pyIter_rangeiter hob k
/-- a list from its end -/
theorem Wk.rev {l it : Addr} {xs : List PV} : Wk it (fun i => rvO l ((xs.length : Int) - 1 - (i : Nat))) xs.length (fun i => xs.getD (xs.length - 1 - i) (.v .none)) [(l, .sq "list" xs)] where
  step := fun C ok i hi lc pre post s hn I Q E k => by
    have hm := hn _ (.head _)
    obtain ⟨vs, hl, rl⟩ := isList_at I (mem_mid _ hm)
    obtain ⟨ob, hob, h1, h2⟩ := I.at_ (x := it) (o := rvO l ((xs.length : Int) - 1 - (i : Nat))) (by simp)
    have e : (xs.length : Int) - 1 - (i : Int) = ((xs.length - 1 - i : Nat) : Int) := by omega
    have hj : xs.length - 1 - i < xs.length := by omega
    obtain ⟨v, hv, rv⟩ := relL_get (i := xs.length - 1 - i) rl (List.getElem?_eq_getElem hj)
    refine wpAny_pyNext_rev_item (l := l) (i := xs.length - 1 - i) ⟨ob, hob, h1, by rw [h2, e]⟩ hl (x := v) (by simpa using hv) fun h' hit hs => ?_
    refine k v _ ?_ (I.changeB (t := s.toks) hs ?_)
    · rw [List.getD_eq_getElem?_getD, List.getElem?_eq_getElem hj]; exact rv
    · obtain ⟨ob', a, b, c⟩ := hit
      refine ⟨ob', a, b, ?_⟩
      rw [c]
      have e2 : ((xs.length - 1 - i : Nat) : Int) - 1 = (xs.length : Int) - 1 - ((i + 1 : Nat) : Int) := by omega
      rw [e2]
  stop := fun C ok lc pre post s hn I Q E k => by
    obtain ⟨ob, hob, h1, h2⟩ := I.at_ (x := it) (o := rvO l ((xs.length : Int) - 1 - (xs.length : Nat))) (by simp)
    have e : (xs.length : Int) - 1 - (xs.length : Nat) = -1 := by omega
    exact wpAny_pyNext_rev_end (l := l) ok.R.handled ⟨ob, hob, h1, by rw [h2, e]⟩ fun h' he => k _ (I.dropE (t := s.toks) he)
  self := fun C ok lc pre post s I Q E k => by
    obtain ⟨ob, hob, h1, h2⟩ := I.at_ (x := it) (o := rvO l ((xs.length : Int) - 1 - (0 : Nat))) (by simp)
    exact wpAny_pyIter_revIter (l := l) ⟨ob, hob, h1, h2⟩ k
section
variable {C : Cn} {lc : Lc} {ld : Ld}
theorem Sc_list {e : Expr} {l : Addr} {xs : List PV} (he : Ev C lc ld e (.v (.ref l))) (hm : (l, PO.sq "list" xs) ∈ ld) : Sc C lc ld e xs.length (fun i => xs.getD i (.v .none)) [(l, .sq "list" xs)] := fun ok s I Q E k => by
  refine he ok s I _ _ fun v s₁ I₁ r => ?_
  have r : v = .ref l := r
  subst r
  obtain ⟨vs, hl, rl⟩ := isList_at I₁ hm
  refine N_any (wpAny_pyIter_list hl ?_)
  exact k _ (liO l) _ Wk.list (I₁.growE (t := s₁.toks) (fun b o e => Heap.get?_push_of_some _ e) (fresh_none _) (Heap.get?_push_size _ rfl) ⟨rfl, rfl⟩)
theorem rangeSize_of {a b c : Int} {n : Nat} (h : Builtin.Range.rangeSize a b c = n) (hs : Builtin.Range.small a b c = true) {r : Addr} {t u v : Tok} {s : Shared} {Q : Value → Shared → Prop} {E : Value → Shared → Prop} (ok : C.Ok) (I : St C lc ld s)
    (hr : IsRange s.heap r a b c t u v) (k : ∀ it o s', Wk it o n (fun i => .i (a + (i : Nat) * c)) [] → St C lc (ld ++ [(it, o 0)]) s' → Q (.ref it) s') : wpAny C.M C.A (pyIter (.ref r)) Q E s := by
  refine wpAny_pyIter_range hr hs ?_
  refine k _ _ _ Wk.range (I.growE (t := s.toks) (fun b o e => Heap.get?_push_of_some _ e) (fresh_none _) (Heap.get?_push_size _ rfl) ?_)
  rw [h]
  show _ = _
  have e1 : a + ((0 : Nat) : Int) * c = a := by omega
  have e2 : (n : Int) - ((0 : Nat) : Int) = n := by omega
  rw [e1, e2]
/-- storing a name -/
def Sto (C : Cn) (lc : Lc) (ld : Ld) (x : Str) (p : PV) (lc' : Lc) (ld' : Ld) : Prop :=
  C.Ok → ∀ s v, St C lc ld s → rel p v → ∀ (Q : Unit → Shared → Prop) (E : Value → Shared → Prop), (∀ s', St C lc' ld' s' → Q () s') → wpAny C.M C.A (storeName C.env x v) Q E s
theorem Sto_loc {x : Str} {p : PV} (hx : C.env.kindOf x = some .local) : Sto C lc ld x p ((x, p) :: lc) ld := fun ok s v I r Q E k => I.store ok r hx k
theorem Sto_cell {x : Str} {p : PV} {c : Addr} {v₀ : Option PV} {pre post : Ld} {o : PO} (hc : C.cl.lookup x = some c) (hx : C.env.kindOf x = some .cell) (ho : ∀ ob, relO o ob → ∃ v, ob.data = .cell v) :
    Sto C lc (pre ++ (c, o) :: post) x p lc (pre ++ (c, .cell p) :: post) := fun ok s v I r Q E k => by
  obtain ⟨ob, hob, ro⟩ := I.at_ (x := c) (o := o) (by simp)
  obtain ⟨v', hv'⟩ := ho ob ro
  refine wpAny_storeName_cell ok.fn hx hc ⟨ob, hob, hv'⟩ fun h' hv hs => ?_
  obtain ⟨o', ho', hd'⟩ := hv
  refine k _ (I.changeB (t := s.toks) hs ⟨o', ho', v, r, hd', ?_⟩)
  cases o'; cases hd'; rfl
variable {K : Fl → Lc → Ld → Prop} {rest : List Stmt}
abbrev Kt {α : Type} (lf : Nat → α → Lc) (df : Nat → α → Ld) (J : Nat → α → Prop) (i : Nat) (x : Addr × PO) : Fl → Lc → Ld → Prop := fun f l d => (f = .next ∨ f = .cont) ∧ ∃ a', J i a' ∧ Lsub (lf i a') l ∧ d = df i a' ++ [x]
/-- a for loop: what its locals and its ledger are after i turns, by a state of our own -/
theorem Bl_for {α : Type} (lf : Nat → α → Lc) (df : Nat → α → Ld) (J : Nat → α → Prop) {x : Str} {xp : Pos} {iter : Expr} {b : List Stmt} {pos : Pos} {n : Nat} {item : Nat → PV} {need : Ld}
    (hs : Sc C lc ld iter n item need) (a₀ : α) (hJ : J 0 a₀) (hl : Lsub (lf 0 a₀) lc) (hd : ld = df 0 a₀) (hn : ∀ i a, J i a → ∀ y ∈ need, y ∈ df i a)
    (turn : ∀ i a, i < n → J i a → ∀ it o, ∃ l' d', Sto C (lf i a) (df i a ++ [(it, o)]) x (item i) l' d' ∧
      Bl C l' d' b (Kt lf df J (i + 1) (it, o)))
    (done : ∀ a, J n a → Bl C (lf n a) (df n a) rest K) (hfs : ∀ x, foldedSetIterable iter C.env x = pure x := by intro _; rfl) :
    Bl C lc ld (.For (.Name x xp) iter b [] pos :: rest) K := fun ok s I Q E k => by
  subst hd
  refine N_execs_cons ?_
  rw [exec_For]
  refine N_bind (N_standAt (N_bind (N_mono (hs ok s I (fun it s₂ => wpN C.M C.A (runOwn (.forLoop (.Name x xp) it b [] C.env) C.env) (fun f s' => match f with | .next => wpN C.M C.A (execs rest C.env) Q E s' | f => Q f s') E s₂) E ?_) (fun v s₁ h₁ => N_bind (N_of_eq (hfs v) (N_bind (N_standAt (N_bind (N_holding h₁)))))) fun _ _ h => h)))
  intro it o s' W I'
  unfold runOwn
  refine N_onRaise (N_run ?_)
  show codeN C.M C.A _ _ _
  refine codeN_loop rfl rfl (fun m s => ∃ i a, m = n - i ∧ i ≤ n ∧ J i a ∧ St C (lf i a) (df i a ++ [(it, o i)]) s) (fun m s hI => ?_) (n - 0) ⟨0, a₀, rfl, Nat.zero_le _, hJ, I'.less hl (List.Sublist.refl _)⟩
  obtain ⟨i, a, rfl, hi, hJ, I⟩ := hI
  show wpN _ C.A ((forTurn (.Name x xp) (.ref it) b [] C.env).onRaise (fun x => do noteFrame x C.env; theTreesLotGoes x)) _ _ s
  refine N_onRaise ?_
  simp only [forTurn]
  refine N_bind (N_standAt (N_bind (N_onRaise ?_)))
  rcases Nat.lt_or_eq_of_le hi with hi | rfl
  · refine N_any (W.step C ok i hi (lf i a) (df i a) [] s (fun y hy => by rw [List.append_nil]; exact hn i a hJ y hy) I _ _ fun v s₁ rv I₁ => ?_)
    refine N_bind (N_pure ?_)
    rw [PySem.assign_Name]
    obtain ⟨l', d', st, hb⟩ := turn i a hi hJ it (o (i + 1))
    refine N_bind (N_bind (N_standAt (N_bindName (N_any (st ok s₁ v I₁ rv _ _ fun s₂ I₂ => ?_)))))
    refine N_bind (hb ok s₂ I₂ _ _ fun fl f lc' ld' s₃ I₃ rf hk => ?_)
    obtain ⟨hf, a', hJ', hl', rfl⟩ := hk
    have I₄ := I₃.less hl' (List.Sublist.refl _)
    have fin : ∃ m, m < n - i ∧ ∃ j c, m = n - j ∧ j ≤ n ∧ J j c ∧ St C (lf j c) (df j c ++ [(it, o j)]) s₃ := ⟨n - (i + 1), by omega, i + 1, a', rfl, hi, hJ', I₄⟩
    rcases hf with rfl | rfl
    · cases fl <;> first | exact rf.elim | exact N_pure (.inl ⟨rfl, fin⟩)
    · cases fl <;> first | exact rf.elim | exact N_pure (.inl ⟨rfl, fin⟩)
  · refine N_any (W.stop C ok (lf i a) (df i a) [] s (fun y hy => by rw [List.append_nil]; exact hn i a hJ y hy) I _ _ fun s₁ I₁ => ?_)
    rw [List.append_nil] at I₁
    refine N_pure (.inr ⟨rfl, ?_⟩)
    refine codeN_of_tree rfl ?_
    show wpN _ C.A (do return PySem.Fin.done (← (execs [] C.env).onRaise (fun x => do noteFrame x C.env; theTreesLotGoes x))) _ _ _
    refine N_bind (N_onRaise (N_any (wpAny_execs_nil (N_pure ?_))))
    exact done a hJ ok s₁ I₁ Q E k
end
/-- the frame of a comprehension -/
abbrev Cn.comp (C : Cn) (scope : Scope) (cl : List (Str × Addr)) (h : Heap) (L : Addr) : Cn := { C with sc := relabel scope C.env, fu := none, cl := cl, h₀ := h, L := L }
def nsO : PO := .is fun o => ∃ es ep, ∃ m : Str → Option Value, o.data = .dict es ep ∧ StrKeys es ∧ ∀ name, nsFind es name = m name
/-- the tests of a comprehension -/
def Ts (C : Cn) (lc : Lc) (ld : Ld) (ifs : List Expr) (c : Bool) : Prop :=
  C.Ok → ∀ s, St C lc ld s → ∀ (Q : Bool → Shared → Prop) (E : Value → Shared → Prop), (∀ s', St C lc ld s' → Q c s') →
    wpN C.M C.A (forIn ifs true fun c r => if r = true then do let ok ← isTrue c C.env (eval c C.env); pure (ForInStep.yield ok) else pure (ForInStep.yield r)) Q E s
theorem Ts_nil {C : Cn} {lc : Lc} {ld : Ld} : Ts C lc ld [] true := fun ok s I Q E k => by
  simp only [List.forIn_nil]
  exact N_pure (k _ I)
theorem Ts_one {C : Cn} {lc : Lc} {ld : Ld} {e : Expr} {c : Bool} (h : Tr C lc ld e c) : Ts C lc ld [e] c := fun ok s I Q E k => by
  simp only [List.forIn_cons, List.forIn_nil, if_true]
  exact N_bind (N_bind (h ok s I _ _ fun s' I' => N_pure (N_pure (k _ I'))))
section
variable {C : Cn} {lc : Lc} {ld : Ld}
theorem N_standIf {α : Type} {M : Model} {A : Around} {E : Value → Shared → Prop} {s : Shared} {c : Prop} [Decidable c] {pos : Pos} {k : PUnit → Sem α} {Q : α → Shared → Prop} (h : wpN M A (k ()) Q E s) :
    wpN M A (if c then (standAt pos >>= k) else k ()) Q E s := by
  split
  · exact N_bind (N_standAt h)
  · exact h
theorem N_compStart {prog : Program} {w : World} {A : Around} {R : Result → Shared → Prop} {s : Shared} {elt target iter : Expr} {ifs : List Expr} {rest : List Comprehension} {scope : Scope} {pos : Pos} {it acc : Value} {env : Env}
    (h0 : codeN (model prog w) A (.compLoop (.ListComp elt (⟨target, iter, ifs, 0⟩ :: rest) scope pos) 0 it acc env) R s)
    (h : wpN (model prog w) A (pyIter it) (fun it' s' => codeN (model prog w) A (.compLoop (.ListComp elt (⟨target, iter, ifs, 0⟩ :: rest) scope pos) 0 it' acc env) R s') (fun _ _ => False) s) :
    codeN (model prog w) A (.compStart (.ListComp elt (⟨target, iter, ifs, 0⟩ :: rest) scope pos) 0 it acc env) R s := by
  refine codeN_of_tree rfl ?_
  show wpN _ A ((compStart (.ListComp elt (⟨target, iter, ifs, 0⟩ :: rest) scope pos) 0 it acc env).onRaise (fun x => do noteFrame x env; standAt theWindowsPlace)) _ _ s
  refine N_onRaise ?_
  unfold compStart
  show wpN _ _ (ask >>= _) _ _ s
  refine N_bind (N_any (wpAny_askSetting ?_))
  dsimp only
  split
  · exact N_bind (N_pure (N_pure (And.intro rfl h0)))
  · refine N_bind (N_rule ?_)
    show wpN _ _ (standAt iter.pos >>= _) _ _ s
    exact N_bind (N_standAt (N_bind (N_mono h (fun it' s' h' => N_pure (And.intro rfl h')) fun _ _ x => x.elim)))
theorem elV {α : Type} {W : Addr → α → Prop} {S : Addr → α → Shared → Prop} {G : Value → Shared → Prop} (h : ∀ a o s₂, W a o → S a o s₂ → G (.ref a) s₂) : ∀ it s₂, (∃ a o, it = .ref a ∧ W a o ∧ S a o s₂) → G it s₂ := by
  rintro _ s ⟨a, o, rfl, w, i⟩; exact h a o s w i
theorem elG {α : Type} {n : Nat} {J : Nat → α → Prop} {S : Nat → α → Lc → Shared → Prop} {G : Nat → Shared → Prop} (h : ∀ i a lc' s, i ≤ n → J i a → S i a lc' s → G (n - i) s) : ∀ m s, (∃ i a lc', m = n - i ∧ i ≤ n ∧ J i a ∧ S i a lc' s) → G m s := by
  rintro _ s ⟨i, a, lc', rfl, hi, j, q⟩; exact h i a lc' s hi j q
theorem sq_push {ys : List PV} {p : PV} {v : Value} {acc : Addr} {pre : Ld} {s : Shared} {Q : Value → Shared → Prop} {E : Value → Shared → Prop} (hz : ys.length ≤ 2 ^ 20) (I : St C lc (pre ++ [(acc, .sq "list" ys)]) s) (r : rel p v)
    (k : ∀ s', St C lc (pre ++ [(acc, .sq "list" (ys ++ [p]))]) s' → Q .none s') : wpAny C.M C.A (call (.builtin "list.append") [.ref acc, v]) Q E s := by
  obtain ⟨ob, hob, vs, n, rl, rfl⟩ := I.at_ (x := acc) (o := .sq "list" ys) (by simp)
  refine wpAny_list_append_plain (items := vs.toArray) ⟨n, hob⟩ (fun h' hl hs => ?_) (by rw [sizeLine_eq, List.size_toArray, ← relL_len rl]; omega)
  obtain ⟨n', hl⟩ := hl
  refine k _ (I.changeB (t := s.toks) hs ⟨_, hl, vs ++ [v], n', relL_app rl ⟨r, trivial⟩, ?_⟩)
  simp
/-- the loop of a comprehension, its own names let go -/
theorem N_comp {α : Type} (df : Nat → α → Ld) (ys : Nat → α → List PV) (J : Nat → α → Prop) {elt iter : Expr} {x : Str} {px : Pos} {ifs : List Expr} {scope : Scope} {cl : List (Str × Addr)} {pos cpos : Pos} {n : Nat} {item : Nat → PV} {need : Ld}
    {use : Option (Value → Sem Unit)} {s : Shared} {Q : Value → Shared → Prop} {E : Value → Shared → Prop} (ok : C.Ok) (I : St C lc ld s)
    (hs : Sc C lc ld iter n item need) (a₀ : α) (hJ : J 0 a₀) (hy : ys 0 a₀ = []) (hd : ld = df 0 a₀) (hn : ∀ i a, J i a → ∀ y ∈ need, y ∈ df i a) (hsz : ∀ i a, J i a → (ys i a).length ≤ 2 ^ 20)
    (turn : ∀ i a, i < n → J i a → ∀ it o acc h L, ∃ c, Ts (C.comp scope cl h L) [(x, item i)] (df i a ++ [(it, o), (acc, .sq "list" (ys i a))]) ifs c ∧
      (c = true → Ex (C.comp scope cl h L) [(x, item i)] (df i a ++ [(it, o), (acc, .sq "list" (ys i a))]) elt (fun p ld' => ∃ a', J (i + 1) a' ∧ ys (i + 1) a' = ys i a ++ [p] ∧ ld' = df (i + 1) a' ++ [(it, o), (acc, .sq "list" (ys i a))])) ∧
      (c = false → ∃ a', J (i + 1) a' ∧ ys (i + 1) a' = ys i a ∧ df (i + 1) a' = df i a))
    (hclos : closureFor scope C.env = pure cl) (hcell : (scope.names.all fun y => !(y.2 == NameKind.cell)) = true) (hkind : scope.kind = .function) (hnames : (scope.names.all fun y => !(y.2 == NameKind.local) || scope.names.lookup y.1 == some .local) = true) (hx : scope.names.lookup x = some .local)
    (huse : ∀ acc a L s', J n a → St C lc ((L, nsO) :: df n a ++ [(acc, .sq "list" (ys n a))]) s' → match use with
      | none => ∀ s'', St C lc (df n a ++ [(acc, .sq "list" (ys n a))]) s'' → Q (.ref acc) s''
      | some u => wpN C.M C.A (u (.ref acc)) (fun _ s'' => ∃ lc' ld', St C lc' ((L, nsO) :: ld') s'' ∧ ∀ s''', St C lc' ld' s''' → Q .none s''') E s')
    (hfs : ∀ x, foldedSetIterable iter C.env x = pure x := by intro _; rfl) :
    wpN C.M C.A (comprehension (.ListComp elt [⟨.Name x px, iter, ifs, 0⟩] scope pos) scope C.env cpos (newList []) false (eval iter C.env) use) Q E s := by
  subst hd
  have hcell' : ∀ y ∈ scope.names, y.2 ≠ .cell := fun y hy e => by
    have := List.all_eq_true.mp hcell y hy
    rw [e] at this; cases this
  have hnames' : ∀ y ∈ scope.names, y.2 = .local → scope.names.lookup y.1 = some .local := fun y hy e => by
    have := List.all_eq_true.mp hnames y hy
    rw [e] at this
    exact beq_iff_eq.mp this
  unfold comprehension
  rw [hclos, show clausesOf (.ListComp elt [⟨.Name x px, iter, ifs, 0⟩] scope pos) = [⟨.Name x px, iter, ifs, 0⟩] from rfl]
  refine N_bind (N_mono (hs ok s I (fun it s₂ => ∃ a o, it = .ref a ∧ Wk a o n item need ∧ St C lc (df 0 a₀ ++ [(a, o 0)]) s₂) E fun a o s' W I' => ⟨a, o, rfl, W, I'⟩) (fun v s₁ h₁ => N_bind (N_standAt (N_bind (N_of_eq (hfs v) (N_bind (N_holding (N_mono h₁ (elV fun it o s₂ W I₂ => ?_) fun _ _ h => h))))))) fun _ _ h => h)
  refine N_standIf (N_bind (N_any (show wpAny _ _ (newObj (.type "list") (.seq ([] : List Value).toArray)) _ _ _ from wpAny_newObj_type ?_)))
  have I₃ := I₂.growE (t := s₂.toks) (o := .sq "list" []) (h' := s₂.heap.push { cls := .type "list", dict := none, data := .seq ([] : List Value).toArray }) (fun b o e => Heap.get?_push_of_some _ e) (fresh_none _) (Heap.get?_push_size _ rfl) ⟨[], 0, trivial, rfl⟩
  generalize s₂.heap.objs.size = acc at I₃ ⊢
  rw [List.append_assoc] at I₃
  change St C lc (df 0 a₀ ++ [(it, o 0), (acc, .sq "list" [])]) _ at I₃
  change wpN _ _ _ _ _ ({ s₂ with heap := s₂.heap.push { cls := .type "list", dict := none, data := .seq ([] : List Value).toArray }, toks := s₂.toks } : Shared)
  generalize ({ s₂ with heap := s₂.heap.push { cls := .type "list", dict := none, data := .seq ([] : List Value).toArray }, toks := s₂.toks } : Shared) = s₃ at I₃ ⊢
  refine N_bind (N_pure (N_bind (N_any (wpAny_newFunctionEnv hcell' (by intro y hy; cases hy) (fun h' hns hsb => ?_) hkind))))
  dsimp only [newEnv] at *
  refine St.el I₃ fun m news F N H l nd os gens => ?_
  have hk₁ : ∀ b o, s₃.heap.get? b = some o → h'.get? b = some o := fun b o e => hsb.extBut b o (Nat.ne_of_lt (Heap.lt_size e)) (Heap.get?_push_of_some _ e)
  have hL₀ : C.h₀.get? s₃.heap.objs.size = none := by
    cases q : C.h₀.get? s₃.heap.objs.size with
    | none => rfl
    | some o => exact absurd (Heap.lt_size (F.keep _ _ q)) (Nat.lt_irrefl _)
  have hLL : s₃.heap.objs.size ≠ C.L := Nat.ne_of_gt F.ns.lt
  generalize hLp : s₃.heap.objs.size = L' at *
  have stay : C.h₀.StaysIn (hideAll s₃.heap (news.map (·.1))) := (ground1 (R := fun _ _ => True) F N).1
  let C' : Cn := C.comp scope cl (hideAll s₃.heap (news.map (·.1))) L'
  have ok' : C'.Ok := ⟨ok.X.keeps stay, ok.T.keeps stay, ok.R, hkind⟩
  have hkx : C'.env.kindOf x = some .local := lookup_relabel_local hx
  have I₄ : St C' [] (df 0 a₀ ++ [(it, o 0), (acc, .sq "list" (ys 0 a₀))]) { s₃ with heap := h', toks := s₃.toks + ([] : List (Str × Value)).length } := by
    rw [hy]
    exact ⟨⟨_, news, ⟨hns, fun b o e => hk₁ b o (of_hideAll _ e), Nat.le_of_eq ((hideAll_size _ _).trans hLp)⟩,
      fun p hp => ⟨hk₁ _ _ (N p hp).1, (show p.1 ≠ L' from hLp ▸ Nat.ne_of_lt (Heap.lt_size (N p hp).1)), hideAll_none _ (List.mem_map_of_mem hp)⟩, H, fun _ _ e => nomatch e⟩, nd, os, gens⟩
  have back : ∀ a s' lc', J n a → St C' lc' (df n a ++ [(acc, .sq "list" (ys n a))]) s' → St C lc ((L', nsO) :: df n a ++ [(acc, .sq "list" (ys n a))]) s' := fun a s' lc' hJ I' => by
    refine St.el I' fun m' news' F' N' H' l' nd' os' gens' => ?_
    refine (ground1 (R := fun _ s'' => St C lc ((L', nsO) :: df n a ++ [(acc, .sq "list" (ys n a))]) s'') F N).2 .none s' ⟨_, _, _, F', N', fun F₂ N₂ => ?_⟩
    obtain ⟨ob, es, ep, ho, hd, hk, hf⟩ := F'.ns
    refine ⟨⟨m, (L', ob) :: news', F₂, fun p hp => ?_, ⟨rfl, ⟨es, ep, m', hd, hk, hf⟩, H'⟩, l⟩, ?_, os', gens'⟩
    · rcases List.mem_cons.mp hp with rfl | hp
      · exact ⟨ho, hLL, hL₀⟩
      · exact N₂ p hp
    · rw [List.cons_append, List.map_cons, List.nodup_cons]
      refine ⟨fun hm => ?_, nd'⟩
      rw [relH_keys H'] at hm
      obtain ⟨p, hp, e⟩ := List.mem_map.mp hm
      exact (N' p hp).2.1 e
  have go : ∀ (Z : Flow → Shared → Prop), (∀ s' a, J n a → St C lc ((L', nsO) :: df n a ++ [(acc, .sq "list" (ys n a))]) s' → Z .next s') →
      codeN C.M C.A (.compLoop (.ListComp elt [⟨.Name x px, iter, ifs, 0⟩] scope pos) 0 (.ref it) (.ref acc) C'.env) (fun r s' => match r with | .ok f => Z f s' | .error e => False) { s₃ with heap := h', toks := s₃.toks + ([] : List (Str × Value)).length } := fun Z hZ => by
    refine codeN_loop rfl rfl (fun m s => ∃ i a lc', m = n - i ∧ i ≤ n ∧ J i a ∧ St C' lc' (df i a ++ [(it, o i), (acc, .sq "list" (ys i a))]) s) (elG fun i a lc' s hi hJ I => ?_) (n - 0) ⟨0, a₀, [], rfl, Nat.zero_le _, hJ, I₄⟩
    show wpN _ C.A ((compTurn (.ListComp elt [⟨.Name x px, iter, ifs, 0⟩] scope pos) 0 (.ref it) (.ref acc) C'.env).onRaise (fun x => do noteFrame x C'.env; theTreesLotGoes x)) _ _ s
    refine N_onRaise ?_
    rw [compTurn_list]
    refine N_bind (N_standAt (N_bind ?_))
    have hnd : ∀ y ∈ need, y ∈ df i a ++ [(acc, .sq "list" (ys i a))] := fun y hy => List.mem_append_left _ (hn i a hJ y hy)
    rcases Nat.lt_or_eq_of_le hi with hi | rfl
    · refine N_any (W.step C' ok' i hi lc' (df i a) [(acc, .sq "list" (ys i a))] s hnd I _ _ fun v s₁ rv I₁ => ?_)
      refine N_bind (N_pure ?_)
      rw [PySem.assign_Name]
      refine N_bind (N_bind (N_standAt (N_bindName (N_any (I₁.store ok' rv hkx fun s₂ I₂ => ?_)))))
      refine elC (turn i a hi hJ it (o (i + 1)) acc (hideAll s₃.heap (news.map (·.1))) L') fun c ht h1 h2 => ?_
      have I₂' := I₂.less (lc' := [(x, item i)]) (lsub_cons (List.lookup_cons_self) lsub_nil) (List.Sublist.refl _)
      refine N_bind (ht ok' s₂ I₂' _ _ fun s₃ I₃ => ?_)
      by_cases hc : c = true
      case neg =>
        obtain ⟨a', q1, q2, q3⟩ := h2 ((Bool.not_eq_true c).mp hc)
        refine nifN hc ?_
        refine N_pure (.inl ⟨rfl, n - (i + 1), by omega, i + 1, a', [(x, item i)], rfl, hi, q1, ?_⟩)
        rw [q2, q3]; exact I₃
      case pos =>
        refine nifP hc ?_
        refine N_bind (N_bind (h1 hc ok' s₃ I₃ _ _ fun y p ld' s₄ I₄ rp hp => N_bind ?_))
        refine elC hp fun a' q1 q2 q3 => ?_
        have e : df (i + 1) a' ++ [(it, o (i + 1)), (acc, PO.sq "list" (ys i a))] = (df (i + 1) a' ++ [(it, o (i + 1))]) ++ [(acc, PO.sq "list" (ys i a))] := by rw [List.append_assoc]; rfl
        rw [q3, e] at I₄
        refine N_any (sq_push (C := C') (hsz i a hJ) I₄ rp fun s₅ I₅ => N_pure (N_pure (.inl ⟨rfl, n - (i + 1), by omega, i + 1, a', [(x, item i)], rfl, hi, q1, ?_⟩)))
        rw [q2]
        rw [List.append_assoc] at I₅
        exact I₅
    · refine N_any (W.stop C' ok' lc' (df i a) [(acc, .sq "list" (ys i a))] s hnd I _ _ fun s₁ I₁ => ?_)
      exact N_pure (hZ _ a hJ (back a s₁ lc' hJ I₁))
  have start : ∀ (Z : Flow → Shared → Prop), (∀ s' a, J n a → St C lc ((L', nsO) :: df n a ++ [(acc, .sq "list" (ys n a))]) s' → Z .next s') →
      wpN C.M C.A (run (.compStart (.ListComp elt [⟨.Name x px, iter, ifs, 0⟩] scope pos) 0 (.ref it) (.ref acc) C'.env)) Z (fun _ _ => False) { s₃ with heap := h', toks := s₃.toks + ([] : List (Str × Value)).length } := fun Z hZ => by
    refine N_run ?_
    refine N_compStart (go Z hZ) (N_any (W.self C' ok' [] (df 0 a₀) _ _ I₄ _ _ (go Z hZ)))
  have hv : ∀ z ∈ (scope.names.filter fun x => (x.2 == .local || x.2 == .cell) && x.1 != (".0" : Str)), z.2 = .local → Env.kindOf C'.env z.1 = some .local := fun z hz hl => lookup_relabel_local (hnames' z (List.mem_filter.mp hz).1 hl)
  have lets : ∀ {lc' : Lc} {ld' : Ld} {cellsOf : List (Str × NameKind) → List Value} (vs : List (Str × NameKind)) (s' : Shared) {Q' : Unit → Shared → Prop} {E' : Value → Shared → Prop}, (∀ z ∈ vs, z ∈ (scope.names.filter fun x => (x.2 == .local || x.2 == .cell) && x.1 != (".0" : Str))) → St C lc' ((L', nsO) :: ld') s' →
      (∀ s'', St C lc' ld' s'' → Q' () s'') → wpAny C.M C.A (comprehension.letGo C'.env cellsOf vs) Q' E' s' := fun {lc' ld' cellsOf} vs s' {Q' E'} hvs I' k => by
    obtain ⟨ob, hob, es, ep, m', h1, h2, h3⟩ := I'.at_ (x := L') (o := nsO) (.head _)
    refine wpAny_comp_letGo (cenv := C'.env) hkind vs s' m' (fun z hz hl => hv z (hvs z hz) hl) ⟨ob, es, ep, hob, h1, h2, h3⟩ fun h'' m'' _ hs'' => ?_
    exact k _ (St.dropE (pre := []) (t := s'.toks) I' hs''.extBut)
  refine N_holding (N_bind (N_attempt (N_holding (N_mono (start (fun f s' => ∃ a, f = .next ∧ J n a ∧ St C lc ((L', nsO) :: df n a ++ [(acc, .sq "list" (ys n a))]) s') fun s' a hJ I' => ⟨a, rfl, hJ, I'⟩) (fun f s' hf => ?_) fun _ _ h => h.elim))))
  obtain ⟨a, rfl, hJ', I'⟩ := hf
  have hu := huse acc a L' s' hJ' I'
  cases use with
  | none =>
    exact N_bind (N_holding (N_any (lets _ s' (fun z hz => List.mem_reverse.mp hz) I' fun s'' I'' => N_pure (hu s'' I''))))
  | some u =>
    refine N_bind (N_rule (N_bind (N_holding (N_mono hu (fun _ s'' h'' => ?_) fun _ _ h => h))))
    obtain ⟨lc', ld', J1, J2⟩ := h''
    refine N_bind (N_any (lets _ s'' (fun z hz => ?_) J1 fun s''' I''' => N_pure (J2 s''' I''')))
    rcases List.mem_append.mp hz with q | q
    · exact List.mem_reverse.mp (List.mem_of_mem_drop q)
    · exact List.mem_reverse.mp (List.mem_of_mem_take q)
end
section
variable {C : Cn} {lc : Lc} {ld : Ld}
theorem bi_lenl {l : Addr} {xs : List PV} (hm : (l, PO.sq "list" xs) ∈ ld) (hz : xs.length ≤ 2 ^ 20) : Bi C (.builtin "len") [.v (.ref l)] ld (fun p ld' => p = .i xs.length ∧ ld' = ld) := fun ok lc s I vs rs Q E q => by
  obtain ⟨v, rfl, r⟩ := relL_1 rs
  next =>
    have r : v = .ref l := r
    subst r
    obtain ⟨us, hl, rl⟩ := isList_at I hm
    have e := relL_len rl
    refine N_any (PyProof.Rows.len_list hl (by rw [List.size_toArray]; omega) (q _ (.i xs.length) ld _ I.tok ⟨s.toks + 1, ?_⟩ ⟨rfl, rfl⟩))
    rw [List.size_toArray, e]
theorem relL_ints : ∀ {ns : List Int} {vs : List Value}, relL (ns.map PV.i) vs → IntsAre vs ns
  | [], [], _ => .nil
  | n :: ns, v :: vs, ⟨⟨t, r⟩, h⟩ => by subst r; exact .cons n t (relL_ints h)
  | [], _ :: _, h => h.elim
  | _ :: _, [], h => h.elim
theorem preSum_take (ns : List Int) : ∀ j, preSum (fun i => ns.getD i 0) j = (ns.take j).sum
  | 0 => by simp [preSum]
  | j + 1 => by
    rw [preSum, preSum_take ns j, PySem.sum_take_succ]
theorem IntsAre_get {vs : List Value} {ns : List Int} (h : IntsAre vs ns) {i : Nat} {v : Value} (hv : vs.toArray[i]? = some v) : ∃ t, v = .int (ns.getD i 0) t := by
  have hv' : vs[i]? = some v := by simpa using hv
  have hi : i < ns.length := by rw [← h.length]; exact (List.getElem?_eq_some_iff.mp hv').1
  obtain ⟨t, ht⟩ := h.get i ns[i] (List.getElem?_eq_getElem hi)
  rw [hv'] at ht
  exact ⟨t, by rw [List.getD_eq_getElem?_getD, List.getElem?_eq_getElem hi]; exact Option.some.inj ht⟩
theorem in1_handled {C : Cn} (ok : C.Ok) : C.A.in1.handled = none := ok.R.handled
theorem lt_ne {l : Addr} {s : Shared} {ob : Obj} (h : s.heap.get? l = some ob) : l ≠ s.heap.objs.size := Nat.ne_of_lt (Heap.lt_size h)
/-- sum of a list of ints -/
theorem bi_sum {l : Addr} {ns : List Int} (hm : (l, PO.sq "list" (ns.map PV.i)) ∈ ld) : Bi C (.builtin "sum") [.v (.ref l)] ld (fun p ld' => p = .i ns.sum ∧ ld' = ld) := fun ok lc s I vs rs Q E q => by
  obtain ⟨v, rfl, r⟩ := relL_1 rs
  next =>
    have r : v = .ref l := r
    subst r
    obtain ⟨us, hl, rl⟩ := isList_at I hm
    have hi := relL_ints rl
    obtain ⟨ob, hob, _⟩ := id hl
    refine N_any (call_sum_walkG (wpAny_pyIter_list hl ⟨_, _, _, _, _, _, fun i => ns.getD i 0, rfl, Walks.list (in1_handled ok) s.heap.objs.size l (lt_ne hob) us.toArray, ?_, ?_, fun i v hv => IntsAre_get hi hv, fun h' tk t' hk => ?_⟩))
    · exact ⟨⟨_, Heap.get?_push_size _ rfl, rfl, rfl⟩, hl.at fun o e => Heap.get?_push_of_some _ e⟩
    · intro b hb
      rw [Heap.size_push]
      rcases List.mem_cons.mp hb with rfl | hb
      · exact Nat.lt_succ_self _
      · rw [List.mem_singleton.mp hb]; exact Nat.lt_succ_of_lt (Heap.lt_size hob)
    · refine q _ (.i ns.sum) ld _ (I.keep (t := tk) fun a ob e => hk a ob (fun hb => ?_) (Heap.get?_push_of_some _ e)) ⟨t', ?_⟩ ⟨rfl, rfl⟩
      · rw [List.mem_singleton.mp hb] at e; exact absurd (Heap.lt_size e) (Nat.lt_irrefl _)
      · rw [preSum_take, List.size_toArray, hi.length, List.take_length]
/-- the greatest -/
def lmax : List Int → Int
  | [] => 0
  | [a] => a
  | a :: b :: l => if lmax (b :: l) > a then lmax (b :: l) else a
theorem lmax_mem : ∀ {ns : List Int}, ns ≠ [] → lmax ns ∈ ns
  | [a], _ => .head _
  | a :: b :: l, _ => by
    unfold lmax
    split
    · exact .tail _ (lmax_mem (by simp))
    · exact .head _
theorem lmax_le : ∀ {ns : List Int} {a : Int}, a ∈ ns → a ≤ lmax ns
  | [b], a, h => by rw [List.mem_singleton.mp h]; exact Int.le_refl _
  | c :: b :: l, a, h => by
    unfold lmax
    rcases List.mem_cons.mp h with rfl | h
    · split <;> omega
    · have := lmax_le h
      split <;> omega
/-- is the i-th more than the j-th -/
def GT (ns : List Int) (i j : Nat) : Bool := decide (ns.getD j 0 < ns.getD i 0)
theorem argBest_le (ns : List Int) : ∀ k, argBest (GT ns) k ≤ k ∧ ∀ j, j ≤ k → ns.getD j 0 ≤ ns.getD (argBest (GT ns) k) 0
  | 0 => ⟨Nat.le_refl _, fun j hj => by rw [Nat.le_zero.mp hj]; exact Int.le_refl _⟩
  | k + 1 => by
    obtain ⟨h1, h2⟩ := argBest_le ns k
    unfold argBest
    split
    · rename_i h
      have h := of_decide_eq_true h
      refine ⟨Nat.le_refl _, fun j hj => ?_⟩
      rcases Nat.lt_or_eq_of_le hj with hj | rfl
      · have := h2 j (by omega); omega
      · exact Int.le_refl _
    · rename_i h
      have h := of_decide_eq_false (Bool.eq_false_iff.mpr h)
      refine ⟨by omega, fun j hj => ?_⟩
      rcases Nat.lt_or_eq_of_le hj with hj | rfl
      · exact h2 j (by omega)
      · omega
theorem bi_maxl {l : Addr} {ns : List Int} (hm : (l, PO.sq "list" (ns.map PV.i)) ∈ ld) (hne : ns ≠ []) : Bi C (.builtin "max") [.v (.ref l)] ld (fun p ld' => p = .i (lmax ns) ∧ ld' = ld) := fun ok lc s I vs rs Q E q => by
  obtain ⟨v, rfl, r⟩ := relL_1 rs
  next =>
    have r : v = .ref l := r
    subst r
    obtain ⟨us, hl, rl⟩ := isList_at I hm
    have hi := relL_ints rl
    have hlen : us.toArray.size = ns.length := by rw [List.size_toArray, hi.length]
    have hpos : 0 < ns.length := List.length_pos_iff.mpr hne
    obtain ⟨ob, hob, _⟩ := id hl
    refine N_any (call_max_walk (wpAny_pyIter_list hl ⟨_, _, _, _, _, _, GT ns, rfl, Walks.list (in1_handled ok) s.heap.objs.size l (lt_ne hob) us.toArray, ?_, ?_, by omega, ?_, fun v h' tk hv hk => ?_⟩))
    · exact ⟨⟨_, Heap.get?_push_size _ rfl, rfl, rfl⟩, hl.at fun o e => Heap.get?_push_of_some _ e⟩
    · intro b hb
      rw [Heap.size_push]
      rcases List.mem_cons.mp hb with rfl | hb
      · exact Nat.lt_succ_self _
      · rw [List.mem_singleton.mp hb]; exact Nat.lt_succ_of_lt (Heap.lt_size hob)
    · exact CmpOf.ints_gt (fun i => ns.getD i 0) fun i v hv => IntsAre_get hi hv
    · obtain ⟨t, ht⟩ := IntsAre_get hi hv
      refine q v (.i (lmax ns)) ld _ (I.keep (t := tk) fun a ob e => hk a ob (fun hb => ?_) (Heap.get?_push_of_some _ e)) ⟨t, ?_⟩ ⟨rfl, rfl⟩
      · rw [List.mem_singleton.mp hb] at e; exact absurd (Heap.lt_size e) (Nat.lt_irrefl _)
      · rw [ht]
        obtain ⟨h1, h2⟩ := argBest_le ns (us.toArray.size - 1)
        have key : ∀ j, j < ns.length → ns.getD j 0 ∈ ns := fun j hj => by rw [List.getD_eq_getElem?_getD, List.getElem?_eq_getElem hj]; exact List.getElem_mem hj
        have q1 := lmax_le (key _ (show _ < ns.length from by omega : argBest (GT ns) (us.toArray.size - 1) < ns.length))
        obtain ⟨j, hj, e⟩ := List.mem_iff_getElem.mp (lmax_mem hne)
        have q2 := h2 j (by omega)
        rw [List.getD_eq_getElem?_getD, List.getElem?_eq_getElem hj] at q2
        have q2 : ns[j] ≤ _ := q2
        rw [e] at q2
        congr 1
        exact Int.le_antisymm q1 q2
/-- all of a list of bools -/
theorem bi_all {l : Addr} {bs : List Bool} (hm : (l, PO.sq "list" (bs.map fun b => PV.v (.bool b))) ∈ ld) : Bi C (.builtin "all") [.v (.ref l)] ld (fun p ld' => p = .v (.bool (bs.all id)) ∧ ld' = ld) := fun ok lc s I vs rs Q E q => by
  obtain ⟨v, rfl, r⟩ := relL_1 rs
  next =>
    have r : v = .ref l := r
    subst r
    obtain ⟨us, hl, rl⟩ := isList_at I hm
    have hu : us = bs.map Value.bool := by
      clear hl hm q I
      induction bs generalizing us with
      | nil => cases us with
        | nil => rfl
        | cons _ _ => exact rl.elim
      | cons b bs ih => cases us with
        | nil => exact rl.elim
        | cons u us =>
          obtain ⟨r, rl⟩ := rl
          have r : u = .bool b := r
          rw [r, ih us rl]; rfl
    subst hu
    obtain ⟨ob, hob, _⟩ := id hl
    refine N_any (call_all_walk (wpAny_pyIter_list hl ⟨_, _, _, _, _, _, fun i => bs.getD i true, rfl, Walks.list (in1_handled ok) s.heap.objs.size l (lt_ne hob) (bs.map Value.bool).toArray, ?_, ?_, fun h' tk hk => ?_⟩))
    · exact ⟨⟨_, Heap.get?_push_size _ rfl, rfl, rfl⟩, hl.at fun o e => Heap.get?_push_of_some _ e⟩
    · intro i v s Q E hv h
      have hv : (bs.map Value.bool)[i]? = some v := by simpa using hv
      rw [List.getElem?_map] at hv
      have h : Q (bs.getD i true) s := h
      rw [List.getD_eq_getElem?_getD] at h
      cases hb : bs[i]? with
      | none => rw [hb] at hv; cases hv
      | some b =>
        rw [hb] at hv h
        cases hv
        exact wpAny_truthy_bool h
    · refine q _ (.v (.bool (bs.all id))) ld _ (I.keep (t := tk) fun a ob e => hk a ob (fun hb => ?_) (Heap.get?_push_of_some _ e)) ?_ ⟨rfl, rfl⟩
      · rw [List.mem_singleton.mp hb] at e; exact absurd (Heap.lt_size e) (Nat.lt_irrefl _)
      · show _ = Value.bool _
        congr 1
        rw [List.size_toArray, List.length_map, Bool.eq_iff_iff, List.all_eq_true, List.all_eq_true]
        constructor
        · intro h x hx
          obtain ⟨i, hi, rfl⟩ := List.mem_iff_getElem.mp hx
          have := h i (List.mem_range.mpr hi)
          rwa [List.getD_eq_getElem?_getD, List.getElem?_eq_getElem hi] at this
        · intro h i hi
          have hi := List.mem_range.mp hi
          rw [List.getD_eq_getElem?_getD, List.getElem?_eq_getElem hi]
          exact h _ (List.getElem_mem hi)
/-- a range -/
def rgO (a b c : Int) : PO := .is fun o => ∃ t u v, o = { cls := .type "range", dict := none, data := .fields #[.int a t, .int b u, .int c v], slots := #[] }
theorem bi_range1 {n : Int} : Bi C (.type "range") [.i n] ld (fun p ld' => ∃ x, p = .v (.ref x) ∧ ld' = ld ++ [(x, rgO 0 n 1)]) := fun ok lc s I vs rs Q E q => by
  obtain ⟨v, rfl, ⟨t, r⟩⟩ := relL_1 rs
  next =>
    subst r
    refine N_any (call_range_1 ?_)
    exact q _ (.v (.ref s.heap.objs.size)) _ _ (I.growE (t := s.toks + 1 + 1) (fun b o e => Heap.get?_push_of_some _ e) (fresh_none _) (Heap.get?_push_size _ rfl) (o := rgO 0 n 1) ⟨_, _, _, rfl⟩) rfl ⟨_, rfl, rfl⟩
theorem bi_range3 {a b c : Int} (hc : c ≠ 0) (hs : c.natAbs < 1073741824) : Bi C (.type "range") [.i a, .i b, .i c] ld (fun p ld' => ∃ x, p = .v (.ref x) ∧ ld' = ld ++ [(x, rgO a b c)]) := fun ok lc s I vs rs Q E q => by
  obtain ⟨v1, v2, v3, rfl, ⟨t, r⟩, ⟨t', r'⟩, ⟨t'', r''⟩⟩ := relL_3 rs
  next =>
    subst r r' r''
    refine N_any (call_range_3 hc ?_ (Or.inl (PyProof.noPylong_small hs)))
    exact q _ (.v (.ref s.heap.objs.size)) _ _ (I.growE (t := s.toks) (fun b o e => Heap.get?_push_of_some _ e) (fresh_none _) (Heap.get?_push_size _ rfl) (o := rgO a b c) ⟨_, _, _, rfl⟩) rfl ⟨_, rfl, rfl⟩
/-- a loop over a range, the range let go -/
theorem Sc_rg {e : Expr} {a b c : Int} {n : Nat} (he : Ex C lc ld e (fun p ld' => ∃ x, p = .v (.ref x) ∧ ld' = ld ++ [(x, rgO a b c)])) (h : Builtin.Range.rangeSize a b c = n) (hs : Builtin.Range.small a b c = true) :
    Sc C lc ld e n (fun i => .i (a + (i : Nat) * c)) [] := fun ok s I Q E k => by
  refine he ok s I _ _ fun v p ld' s₁ I₁ r hp => ?_
  obtain ⟨x, rfl, rfl⟩ := hp
  have r : v = .ref x := r
  subst r
  obtain ⟨ob, hob, t, u, w, rfl⟩ := I₁.at_ (x := x) (o := rgO a b c) (by simp)
  exact N_any (rangeSize_of (C := C) (lc := lc) (ld := ld) h hs ok (I₁.sub (List.sublist_append_left _ _) (List.Perm.refl _)) hob k)
theorem rs_one (n : Nat) : Builtin.Range.rangeSize 0 n 1 = n := by rw [rangeSize_one]; split <;> omega
theorem Sc_range {x : Str} {xp pos : Pos} {e : Expr} {n : Nat} (hx : Ea C lc ld (.Name x xp) (.v (.type "range"))) (h1 : Ev C lc ld e (.i n)) (hn : n ≤ 2 ^ 20) (hs : isStar e = false := by with_unfolding_all rfl) :
    Sc C lc ld (.Call (.Name x xp) [e] [] pos) n (fun i => .i (0 + (i : Nat) * 1)) [] :=
  Sc_rg (Ex_bi1 hx h1 bi_range1 hs rfl) (rs_one n) (small_one (by omega) (by omega) (by omega) (by omega))
/-- list(range(n)) -/
theorem bi_listr {x : Addr} {n : Nat} (hn : n ≤ 2 ^ 20) : Bi C (.type "list") [.v (.ref x)] (ld ++ [(x, rgO 0 n 1)]) (fun p ld' => ∃ l, p = .v (.ref l) ∧ ld' = ld ++ [(l, .sq "list" ((List.range n).map fun i => .i (i : Nat)))]) := fun ok lc s I vs rs Q E q => by
  obtain ⟨v, rfl, r⟩ := relL_1 rs
  next =>
    have r : v = .ref x := r
    subst r
    obtain ⟨ob, hob, t, u, w, rfl⟩ := I.at_ (x := x) (o := rgO 0 n 1) (by simp)
    have I₂ := I.sub (List.sublist_append_left _ _) (List.Perm.refl _)
    refine N_any (call_list_range (n := n) ok.R.handled hob (small_one (by omega) (by omega) (by omega) (by omega)) (rs_one n) (by omega) fun h' tk acc c' hk ho hi => ?_)
    refine q _ (.v (.ref s.heap.objs.size)) _ _ (I₂.growE (t := tk) (o := .sq "list" ((List.range n).map fun i => .i (i : Nat))) hk (fresh_none _) ho ⟨acc.toList, c', ?_, by simp⟩) rfl ⟨_, rfl, rfl⟩
    obtain ⟨hs, hi⟩ := hi
    have key : ∀ (l : List Value) (f : Nat → Nat) (k : Nat), l.length = k → (∀ j v, l[j]? = some v → ∃ t, v = Value.int (f j : Nat) t) → relL ((List.range k).map fun i => PV.i (f i : Nat)) l := by
      intro l
      induction l with
      | nil => intro f k hk _; simp at hk; subst hk; exact trivial
      | cons v l ih =>
        intro f k hk h
        cases k with
        | zero => simp at hk
        | succ k =>
          rw [List.range_succ_eq_map, List.map_cons, List.map_map]
          exact ⟨h 0 v rfl, ih (fun i => f (i + 1)) k (by simpa using hk) fun j u hj => h (j + 1) u (by simpa using hj)⟩
    refine key acc.toList id n (by simpa using hs) fun j v hj => ?_
    obtain ⟨t, e⟩ := hi j v (by simpa using hj)
    exact ⟨t, by rw [e]; congr 1; simp⟩
/-- tuple(list) -/
theorem bi_tuple {l : Addr} {xs : List PV} (hm : (l, PO.sq "list" xs) ∈ ld) (hz : xs.length ≤ 2 ^ 20) : Bi C (.type "tuple") [.v (.ref l)] ld (fun p ld' => ∃ x, p = .v (.ref x) ∧ ld' = ld ++ [(x, .sq "tuple" xs)]) := fun ok lc s I vs rs Q E q => by
  obtain ⟨v, rfl, r⟩ := relL_1 rs
  next =>
    have r : v = .ref l := r
    subst r
    obtain ⟨us, hl, rl⟩ := isList_at I hm
    refine N_any (PySem.call_tuple_list hl (fun h' hk => ?_) (by rw [List.size_toArray, ← relL_len rl, sizeLine_eq]; omega))
    exact q _ (.v (.ref h'.objs.size)) _ _ ((I.keep (t := s.toks) hk).growE (t := s.toks) (fun b o e => Heap.get?_push_of_some _ e) (fresh_none _) (Heap.get?_push_size _ rfl) (o := .sq "tuple" xs) ⟨us, 0, rl, rfl⟩) rfl ⟨_, rfl, rfl⟩
end
theorem e_letgo : entryFor table "proto.let_go" = some Builtin.«proto.let_go» := by first | exact entryFor_of_fast (by kernel_rfl) | exact entryFor_of_tree (by kernel_rfl)
theorem A_letgo {prog : Program} {w : World} {A : Around} {E : Value → Shared → Prop} {s : Shared} {Q : Value → Shared → Prop} (h : Q .none s) : wpAny (model prog w) A (runValue (.builtin "proto.let_go" {})) Q E s :=
  wpAny_runValue (codeAny_builtin e_letgo (wpAny_pure h))
/-- the temporary of a base expression is let go: nothing is seen -/
theorem A_temp {prog : Program} {w : World} {A : Around} {E : Value → Shared → Prop} {s : Shared} {value : Expr} {o r : Value} {Q : Unit → Shared → Prop} (h : Q () s) : wpAny (model prog w) A (letTemporaryGo value o r) Q E s := by
  unfold letTemporaryGo
  split
  · exact wpAny_pure h
  · exact wpAny_bind (wpAny_holding (A_letgo (wpAny_pure h)))
  · exact wpAny_pure h
section
variable {C : Cn} {lc : Lc} {ld : Ld}
theorem A_inpy {prog : Program} {w : World} {A : Around} {E : Value → Shared → Prop} {s : Shared} {d : Addr} {b : Array UInt8} {Q : Bool → Shared → Prop} (hd : IsBa s.heap d b) (h : Q false s) : wpAny (model prog w) A (getitemInPython (.ref d)) Q E s := by
  rw [getitemInPython_of_ne (by intro e; cases e)]
  exact wpAny_bind (wpAny_specialOf hd.type bs_get.lookup (wpAny_pure h))
/-- o[a:], o a bytearray -/
theorem Ex_baFrom {o a : Expr} {slp pos : Pos} {d : Addr} {bs : List UInt8} {lo : Int} (ho : Ev C lc ld o (.v (.ref d))) (ha : Ev C lc ld a (.i lo)) (hm : (d, PO.ba bs) ∈ ld) (h0 : 0 ≤ lo) (h1 : lo ≤ bs.length) (hz : bs.length ≤ 2 ^ 20) :
    Ex C lc ld (.Subscript o (.Slice (some a) none none slp) pos) (fun p ld' => ∃ x, p = .v (.ref x) ∧ ld' = ld ++ [(x, .ba (bs.drop lo.toNat))]) := fun ok s I Q E k => by
  rw [arm_eval_Subscript]
  refine N_bind (ho ok s I _ _ fun ov s₁ I₁ ro => N_bind (N_holding ?_))
  have ro : ov = .ref d := ro
  subst ro
  rw [arm_eval_Slice]
  refine N_bind (ha ok s₁ I₁ _ _ fun va s₂ I₂ ⟨ta, ra⟩ => N_bind (N_holding (N_pure (N_bind (N_holding (N_pure (N_any (newSlice fun h' kp _ hsl => ?_))))))))
  subst ra
  have I₃ := I₂.keep (t := s₂.toks) kp
  obtain ⟨ob, hob, rfl⟩ := I₃.at_ hm
  refine N_bind (N_standAt (N_bind (N_any (A_inpy hob (N_bind ?_)))))
  show wpN _ _ (operate _ (getItem (.ref d) (.ref _))) _ _ _
  have c1 : cut (some lo) 0 bs.toArray.size = lo := cut_some h0 (by simpa using h1)
  have c2 : cut none bs.toArray.size bs.toArray.size = bs.length := by simp [cut]
  refine N_operate (N_any (get_ba_sl (b := bs.toArray) hob hsl (.int _ _) .none (by rw [sizeLine_eq]; simp; omega) (N_bind (N_any (A_temp (N_pure ?_))))))
  refine k _ (.v (.ref h'.objs.size)) _ _ (I₃.growE (t := s₂.toks) (fun b o e => Heap.get?_push_of_some _ e) (fresh_none _) (Heap.get?_push_size _ rfl) ?_) rfl ⟨_, rfl, rfl⟩
  rw [c1, c2]
  show _ = baO (bs.drop lo.toNat).toArray
  simp [List.extract_eq_take_drop, baO]
  exact List.take_of_length_le (by rw [List.length_drop]; omega)
end
theorem map_snoc {α : Type} (f : Nat → α) (i : Nat) : (List.range (i + 1)).map f = (List.range i).map f ++ [f i] := by rw [List.range_succ, List.map_append]; rfl
section
variable {C : Cn} {lc : Lc} {ld : Ld} {K : Fl → Lc → Ld → Prop} {rest : List Stmt}
/-- what is left over is let go -/
theorem Ex.drop {e : Expr} {P : PV → Ld → Prop} {q : PV} (h : Ex C lc ld e P) (hP : ∀ p ld', P p ld' → p = q ∧ ∃ ex, ld' = ld ++ ex) : Ev C lc ld e q := fun ok s I Q E k => h ok s I Q E fun v p ld' s' I' r hp => by
  obtain ⟨rfl, ex, rfl⟩ := hP _ _ hp
  exact k v s' (I'.sub (List.sublist_append_left _ _) (List.Perm.refl _)) r
/-- [e for x in iter if ..], as a value -/
theorem Ex_comp {α : Type} (df : Nat → α → Ld) (ys : Nat → α → List PV) (J : Nat → α → Prop) {elt iter : Expr} {x : Str} {px : Pos} {ifs : List Expr} {scope : Scope} {cl : List (Str × Addr)} {pos : Pos} {n : Nat} {item : Nat → PV} {need : Ld}
    (hs : Sc C lc ld iter n item need) (a₀ : α) (hJ : J 0 a₀) (hy : ys 0 a₀ = []) (hd : ld = df 0 a₀) (hn : ∀ i a, J i a → ∀ y ∈ need, y ∈ df i a) (hsz : ∀ i a, J i a → (ys i a).length ≤ 2 ^ 20)
    (turn : ∀ i a, i < n → J i a → ∀ it o acc h L, ∃ c, Ts (C.comp scope cl h L) [(x, item i)] (df i a ++ [(it, o), (acc, .sq "list" (ys i a))]) ifs c ∧
      (c = true → Ex (C.comp scope cl h L) [(x, item i)] (df i a ++ [(it, o), (acc, .sq "list" (ys i a))]) elt (fun p ld' => ∃ a', J (i + 1) a' ∧ ys (i + 1) a' = ys i a ++ [p] ∧ ld' = df (i + 1) a' ++ [(it, o), (acc, .sq "list" (ys i a))])) ∧
      (c = false → ∃ a', J (i + 1) a' ∧ ys (i + 1) a' = ys i a ∧ df (i + 1) a' = df i a))
    (hclos : closureFor scope C.env = pure cl) (hcell : (scope.names.all fun y => !(y.2 == NameKind.cell)) = true) (hkind : scope.kind = .function) (hnames : (scope.names.all fun y => !(y.2 == NameKind.local) || scope.names.lookup y.1 == some .local) = true) (hx : scope.names.lookup x = some .local)
    (hfs : ∀ x, foldedSetIterable iter C.env x = pure x := by intro _; rfl) :
    Ex C lc ld (.ListComp elt [⟨.Name x px, iter, ifs, 0⟩] scope pos) (fun p ld' => ∃ acc a, p = .v (.ref acc) ∧ J n a ∧ ld' = df n a ++ [(acc, .sq "list" (ys n a))]) := fun ok s I Q E k => by
  rw [eval_ListComp]
  refine N_comp (use := none) df ys J ok I hs a₀ hJ hy hd hn hsz turn hclos hcell hkind hnames hx (fun acc a L s' hJ' I' => ?_) hfs
  intro s'' I''
  exact k _ (.v (.ref acc)) _ s'' I'' rfl ⟨acc, a, rfl, hJ', rfl⟩
/-- y = [e for x in iter if ..] -/
theorem Bl_asgc {α : Type} (df : Nat → α → Ld) (ys : Nat → α → List PV) (J : Nat → α → Prop) {elt iter : Expr} {x y : Str} {px yp : Pos} {ifs : List Expr} {scope : Scope} {cl : List (Str × Addr)} {pos spos : Pos} {n : Nat} {item : Nat → PV} {need : Ld}
    (hs : Sc C lc ld iter n item need) (a₀ : α) (hJ : J 0 a₀) (hy : ys 0 a₀ = []) (hd : ld = df 0 a₀) (hn : ∀ i a, J i a → ∀ y ∈ need, y ∈ df i a) (hsz : ∀ i a, J i a → (ys i a).length ≤ 2 ^ 20)
    (turn : ∀ i a, i < n → J i a → ∀ it o acc h L, ∃ c, Ts (C.comp scope cl h L) [(x, item i)] (df i a ++ [(it, o), (acc, .sq "list" (ys i a))]) ifs c ∧
      (c = true → Ex (C.comp scope cl h L) [(x, item i)] (df i a ++ [(it, o), (acc, .sq "list" (ys i a))]) elt (fun p ld' => ∃ a', J (i + 1) a' ∧ ys (i + 1) a' = ys i a ++ [p] ∧ ld' = df (i + 1) a' ++ [(it, o), (acc, .sq "list" (ys i a))])) ∧
      (c = false → ∃ a', J (i + 1) a' ∧ ys (i + 1) a' = ys i a ∧ df (i + 1) a' = df i a))
    (h : ∀ acc a, J n a → Bl C ((y, .v (.ref acc)) :: lc) (df n a ++ [(acc, .sq "list" (ys n a))]) rest K)
    (hclos : closureFor scope C.env = pure cl) (hcell : (scope.names.all fun y => !(y.2 == NameKind.cell)) = true) (hkind : scope.kind = .function) (hnames : (scope.names.all fun y => !(y.2 == NameKind.local) || scope.names.lookup y.1 == some .local) = true) (hx : scope.names.lookup x = some .local)
    (hky : C.env.kindOf y = some .local) (hsw : swapsWith (.ListComp elt [⟨.Name x px, iter, ifs, 0⟩] scope pos) (some (.Name y yp)) spos.line C.env = pure true)
    (hfs : ∀ x, foldedSetIterable iter C.env x = pure x := by intro _; rfl) :
    Bl C lc ld (.Assign [.Name y yp] (.ListComp elt [⟨.Name x px, iter, ifs, 0⟩] scope pos) spos :: rest) K := fun ok s I Q E k => by
  refine N_execs_cons ?_
  rw [exec_Assign_Name_used _ _ _ _ hsw]
  refine N_bind (N_standAt (N_bind ?_))
  show wpN _ _ (do let _ ← comprehension (.ListComp elt [⟨.Name x px, iter, ifs, 0⟩] scope pos) scope C.env _ (newList []) false (eval iter C.env) (some (assign (.Name y yp) C.env))) _ _ s
  refine N_bind (N_comp (use := some (assign (.Name y yp) C.env)) df ys J ok I hs a₀ hJ hy hd hn hsz turn hclos hcell hkind hnames hx (fun acc a L s' hJ' I' => ?_) hfs)
  show wpN _ _ (assign (.Name y yp) C.env (.ref acc)) _ _ s'
  rw [PySem.assign_Name]
  refine N_bind (N_standAt (N_bindName (N_any (I'.store ok (p := .v (.ref acc)) rfl hky fun s₂ I₂ => ⟨_, _, I₂, fun s₃ I₃ => N_pure (N_pure (h acc a hJ' ok s₃ I₃ Q E k))⟩))))
/-- a comprehension whose element is a plain value -/
theorem Ex_compM (f : Nat → PV) {elt iter : Expr} {x : Str} {px : Pos} {scope : Scope} {cl : List (Str × Addr)} {pos : Pos} {n : Nat} {item : Nat → PV} {need : Ld}
    (hs : Sc C lc ld iter n item need) (hn : ∀ y ∈ need, y ∈ ld) (hsz : n ≤ 2 ^ 20) (turn : ∀ i, i < n → ∀ ex h L, Ev (C.comp scope cl h L) [(x, item i)] (ld ++ ex) elt (f i))
    (hclos : closureFor scope C.env = pure cl) (hcell : (scope.names.all fun y => !(y.2 == NameKind.cell)) = true) (hkind : scope.kind = .function) (hnames : (scope.names.all fun y => !(y.2 == NameKind.local) || scope.names.lookup y.1 == some .local) = true) (hx : scope.names.lookup x = some .local)
    (hfs : ∀ x, foldedSetIterable iter C.env x = pure x := by intro _; rfl) :
    Ex C lc ld (.ListComp elt [⟨.Name x px, iter, [], 0⟩] scope pos) (fun p ld' => ∃ acc, p = .v (.ref acc) ∧ ld' = ld ++ [(acc, .sq "list" ((List.range n).map f))]) :=
  (Ex_comp (α := Unit) (fun _ _ => ld) (fun i _ => (List.range i).map f) (fun i _ => i ≤ n) hs () (Nat.zero_le _) rfl rfl (fun _ _ _ => hn) (fun i _ hi => by rw [List.length_map, List.length_range]; exact Nat.le_trans hi hsz)
    (fun i _ hi _ it o acc h L => ⟨true, Ts_nil, fun _ => (turn i hi _ h L).ex.mono fun p ld' ⟨e, e'⟩ => ⟨(), hi, by rw [e]; exact map_snoc f i, e'⟩, fun q => by cases q⟩) hclos hcell hkind hnames hx hfs).mono
    fun p ld' ⟨acc, _, a, _, b⟩ => ⟨acc, a, b⟩
theorem Bl_asgM (f : Nat → PV) {elt iter : Expr} {x y : Str} {px yp : Pos} {scope : Scope} {cl : List (Str × Addr)} {pos spos : Pos} {n : Nat} {item : Nat → PV} {need : Ld}
    (hs : Sc C lc ld iter n item need) (hn : ∀ y ∈ need, y ∈ ld) (hsz : n ≤ 2 ^ 20) (turn : ∀ i, i < n → ∀ ex h L, Ev (C.comp scope cl h L) [(x, item i)] (ld ++ ex) elt (f i))
    (h : ∀ acc, Bl C ((y, .v (.ref acc)) :: lc) (ld ++ [(acc, .sq "list" ((List.range n).map f))]) rest K)
    (hclos : closureFor scope C.env = pure cl) (hcell : (scope.names.all fun y => !(y.2 == NameKind.cell)) = true) (hkind : scope.kind = .function) (hnames : (scope.names.all fun y => !(y.2 == NameKind.local) || scope.names.lookup y.1 == some .local) = true) (hx : scope.names.lookup x = some .local)
    (hky : C.env.kindOf y = some .local) (hsw : swapsWith (.ListComp elt [⟨.Name x px, iter, [], 0⟩] scope pos) (some (.Name y yp)) spos.line C.env = pure true)
    (hfs : ∀ x, foldedSetIterable iter C.env x = pure x := by intro _; rfl) :
    Bl C lc ld (.Assign [.Name y yp] (.ListComp elt [⟨.Name x px, iter, [], 0⟩] scope pos) spos :: rest) K :=
  Bl_asgc (α := Unit) (fun _ _ => ld) (fun i _ => (List.range i).map f) (fun i _ => i ≤ n) hs () (Nat.zero_le _) rfl rfl (fun _ _ _ => hn) (fun i _ hi => by rw [List.length_map, List.length_range]; exact Nat.le_trans hi hsz)
    (fun i _ hi _ it o acc h L => ⟨true, Ts_nil, fun _ => (turn i hi _ h L).ex.mono fun p ld' ⟨e, e'⟩ => ⟨(), hi, by rw [e]; exact map_snoc f i, e'⟩, fun q => by cases q⟩) (fun acc _ _ => h acc) hclos hcell hkind hnames hx hky hsw hfs
/-- with a test -/
theorem Bl_asgF (f : Nat → PV) (c : Nat → Bool) {elt iter t : Expr} {x y : Str} {px yp : Pos} {scope : Scope} {cl : List (Str × Addr)} {pos spos : Pos} {n : Nat} {item : Nat → PV} {need : Ld}
    (hs : Sc C lc ld iter n item need) (hn : ∀ y ∈ need, y ∈ ld) (hsz : n ≤ 2 ^ 20) (test : ∀ i, i < n → ∀ ex h L, Tr (C.comp scope cl h L) [(x, item i)] (ld ++ ex) t (c i)) (turn : ∀ i, i < n → ∀ ex h L, Ev (C.comp scope cl h L) [(x, item i)] (ld ++ ex) elt (f i))
    (h : ∀ acc, Bl C ((y, .v (.ref acc)) :: lc) (ld ++ [(acc, .sq "list" (((List.range n).filter c).map f))]) rest K)
    (hclos : closureFor scope C.env = pure cl) (hcell : (scope.names.all fun y => !(y.2 == NameKind.cell)) = true) (hkind : scope.kind = .function) (hnames : (scope.names.all fun y => !(y.2 == NameKind.local) || scope.names.lookup y.1 == some .local) = true) (hx : scope.names.lookup x = some .local)
    (hky : C.env.kindOf y = some .local) (hsw : swapsWith (.ListComp elt [⟨.Name x px, iter, [t], 0⟩] scope pos) (some (.Name y yp)) spos.line C.env = pure true)
    (hfs : ∀ x, foldedSetIterable iter C.env x = pure x := by intro _; rfl) :
    Bl C lc ld (.Assign [.Name y yp] (.ListComp elt [⟨.Name x px, iter, [t], 0⟩] scope pos) spos :: rest) K :=
  Bl_asgc (α := Unit) (fun _ _ => ld) (fun i _ => ((List.range i).filter c).map f) (fun i _ => i ≤ n) hs () (Nat.zero_le _) rfl rfl (fun _ _ _ => hn) (fun i _ hi => by
      rw [List.length_map]
      exact Nat.le_trans (List.length_filter_le _ _) (by rw [List.length_range]; exact Nat.le_trans hi hsz))
    (fun i _ hi _ it o acc h L => ⟨c i, Ts_one (test i hi _ h L), fun q => (turn i hi _ h L).ex.mono fun p ld' ⟨e, e'⟩ => ⟨(), hi, by rw [e, List.range_succ, List.filter_append, List.map_append, List.filter_cons, q]; rfl, e'⟩,
      fun q => ⟨(), hi, by rw [List.range_succ, List.filter_append, List.map_append, List.filter_cons, q]; simp, rfl⟩⟩) (fun acc _ _ => h acc) hclos hcell hkind hnames hx hky hsw hfs
theorem sq_new {s : Shared} {ps : List PV} {vs : List Value} {c : String} {Q : Value → Shared → Prop} {E : Value → Shared → Prop} (I : St C lc ld s) (r : relL ps vs) (hz : ps.length ≤ 2 ^ 20) (k : ∀ x s', St C lc (ld ++ [(x, .sq c ps)]) s' → Q (.ref x) s') :
    wpAny C.M C.A (newObj (.type c) (.seq vs.toArray)) Q E s :=
  wpAny_newObj_type (k _ _ (I.growE (t := s.toks) (o := .sq c ps) (fun b o e => Heap.get?_push_of_some _ e) (fresh_none _) (Heap.get?_push_size _ rfl) ⟨vs, 0, r, rfl⟩)) (by show vs.toArray.size ≤ sizeLine; rw [List.size_toArray, ← relL_len r, sizeLine_eq]; omega)
/-- [a, b, ..] -/
theorem Ex_list {es : List Expr} {pos : Pos} {P : List PV → Ld → Prop} (h : Ag C lc ld es P) (hl : ∀ ps ld', P ps ld' → ps.length ≤ 2 ^ 20) : Ex C lc ld (.List es pos) (fun p ld' => ∃ x ps ld₁, P ps ld₁ ∧ p = .v (.ref x) ∧ ld' = ld₁ ++ [(x, .sq "list" ps)]) := fun ok s I Q E k => by
  show wpN _ _ (do standAt pos; newList (← spliced (backTo pos (starEach es C.env)))) _ _ _
  refine N_bind (N_standAt (N_bind (h ok s I pos _ _ fun vs ps ld' s₁ I₁ rs hp => N_any (sq_new I₁ rs (hl _ _ hp) fun x s' I' => ?_))))
  exact k _ (.v (.ref x)) _ s' I' rfl ⟨x, ps, ld', hp, rfl, rfl⟩
theorem Ex_tup {es : List Expr} {j : Nat} {pos : Pos} {P : List PV → Ld → Prop} (h : Ag C lc ld es P) (hl : ∀ ps ld', P ps ld' → ps.length ≤ 2 ^ 20) : Ex C lc ld (.Tuple es j pos) (fun p ld' => ∃ x ps ld₁, P ps ld₁ ∧ p = .v (.ref x) ∧ ld' = ld₁ ++ [(x, .sq "tuple" ps)]) := fun ok s I Q E k => by
  show wpN _ _ (do standAt pos; newTuple (← spliced (backTo pos (starEach es C.env)))) _ _ _
  refine N_bind (N_standAt (N_bind (h ok s I pos _ _ fun vs ps ld' s₁ I₁ rs hp => N_any (sq_new I₁ rs (hl _ _ hp) fun x s' I' => ?_))))
  exact k _ (.v (.ref x)) _ s' I' rfl ⟨x, ps, ld', hp, rfl, rfl⟩
/-- names stored in a row -/
inductive Stos (C : Cn) : Lc → Ld → List Expr → List PV → Lc → Ld → Prop
  | nil {l : Lc} {d : Ld} : Stos C l d [] [] l d
  | cons {l l₁ l₂ : Lc} {d d₁ d₂ : Ld} {x : Str} {xp : Pos} {p : PV} {es : List Expr} {ps : List PV} : Sto C l d x p l₁ d₁ → Stos C l₁ d₁ es ps l₂ d₂ → Stos C l d (.Name x xp :: es) (p :: ps) l₂ d₂
theorem Stos.len {lc' : Lc} {ld' : Ld} {es : List Expr} {ps : List PV} (h : Stos C lc ld es ps lc' ld') : es.length = ps.length := by
  induction h with
  | nil => rfl
  | cons _ _ ih => rw [List.length_cons, List.length_cons, ih]
theorem Stos.plain {lc' : Lc} {ld' : Ld} {es : List Expr} {ps : List PV} {env : Env} (h : Stos C lc ld es ps lc' ld') : (assignEach es env).length = es.length ∧ (assignEach es env).findIdx? (·.1) = none := by
  induction h with
  | nil => exact ⟨rfl, rfl⟩
  | cons _ _ ih =>
    refine ⟨by show (_ :: assignEach _ env).length = _; rw [List.length_cons, ih.1]; rfl, ?_⟩
    show ((false, _) :: assignEach _ env).findIdx? (·.1) = none
    rw [List.findIdx?_cons, ih.2]; rfl
theorem Stos.run {lc' : Lc} {ld' : Ld} {es : List Expr} {ps : List PV} (h : Stos C lc ld es ps lc' ld') (ok : C.Ok) : ∀ {vs : List Value} {s : Shared} {Q : Unit → Shared → Prop} {E : Value → Shared → Prop}, relL ps vs → St C lc ld s → (∀ s', St C lc' ld' s' → Q () s') →
    wpAny C.M C.A (assignInOrder ((assignEach es C.env).map (·.2)) vs) Q E s := by
  induction h with
  | nil => intro vs s Q E r I k; cases vs with
    | nil => exact wpAny_pure (k _ I)
    | cons _ _ => exact r.elim
  | @cons l l₁ l₂ d d₁ d₂ x xp p es ps st _ ih =>
    intro vs s Q E r I k
    cases vs with
    | nil => exact r.elim
    | cons v vs =>
      show wpAny _ _ (do holding vs (assign (.Name x xp) C.env v); assignInOrder ((assignEach es C.env).map (·.2)) vs) _ _ _
      refine wpAny_bind (wpAny_holding ?_)
      rw [PySem.assign_Name]
      exact wpAny_bind (wpAny_standAt (wpAny_bindName (st ok s v I r.1 _ _ fun s' I' => ih r.2 I' k)))
theorem isTup_at {s : Shared} {l : Addr} {xs : List PV} (I : St C lc ld s) (h : (l, PO.sq "tuple" xs) ∈ ld) : ∃ vs : List Value, IsTup s.heap l vs.toArray ∧ relL xs vs := by
  obtain ⟨ob, hob, vs, n, rl, rfl⟩ := I.at_ h
  exact ⟨vs, ⟨_, hob, rfl, n, rfl⟩, rl⟩
theorem St.extSize {s : Shared} {h' : Heap} {t : Nat} (I : St C lc ld s) (he : Heap.ExtBut s.heap.objs.size s.heap h') : St C lc ld { s with heap := h', toks := t } :=
  I.keep fun a o e => he a o (Nat.ne_of_lt (Heap.lt_size e)) e
/-- a, b, .. = e, e no tuple display -/
theorem Bl_unp {es : List Expr} {j : Nat} {tp pos : Pos} {e : Expr} {P : PV → Ld → Prop} (he : Ex C lc ld e P) (h : ∀ p ld', P p ld' → ∃ x ps lc₂ ld₂, p = .v (.ref x) ∧ (x, PO.sq "tuple" ps) ∈ ld' ∧ Stos C lc ld' es ps lc₂ ld₂ ∧ Bl C lc₂ ld₂ rest K)
    (hs : swapsWithSole [.Tuple es j tp] e pos.line C.env = pure false := by with_unfolding_all rfl) (hw : swappedStores [.Tuple es j tp] e C.env = pure none := by with_unfolding_all rfl) : Bl C lc ld (.Assign [.Tuple es j tp] e pos :: rest) K := fun ok s I Q E k => by
  refine N_execs_cons ?_
  rw [exec_Assign, hs, hw]
  refine N_bind (N_standAt (N_bind (N_pure ?_)))
  rw [if_neg (by decide)]
  refine N_bind (he ok s I _ _ fun v p ld' s₁ I₁ r hp => N_bind (N_pure ?_))
  obtain ⟨x, ps, lc₂, ld₂, rfl, hm, hst, hb⟩ := h p ld' hp
  have r : v = .ref x := r
  subst r
  obtain ⟨vs, ht, rl⟩ := isTup_at I₁ hm
  have el : (assignEach es C.env).length = vs.toArray.size := by rw [hst.plain.1, hst.len, List.size_toArray, relL_len rl]
  show wpN _ _ (do (do standAt tp; unpack (.ref x) (assignEach es C.env)); pure Flow.next) _ _ _
  refine N_bind (N_bind (N_standAt (N_any ?_)))
  unfold unpack
  rw [el, hst.plain.2]
  exact wpAny_bind (wpAny_holding (PyProof.Rows.unpackItems_tuple ok.R.handled ht fun h' he => hst.run ok rl (I₁.extSize (t := s₁.toks) he) fun s' I' => N_pure (hb ok s' I' Q E k)))
theorem names_eq : ∀ (names : List Str) (env : Env), names.reverse.map (fun n => bindName env n) = (names.map fun n => bindName env n).reverse := fun names env => by rw [List.map_reverse]
/-- locals stored from the last -/
theorem store_rev (ok : C.Ok) : ∀ {names : List Str} {ps : List PV} {vs : List Value} {lc : Lc} {ld : Ld} {s : Shared} {Q : Unit → Shared → Prop} {E : Value → Shared → Prop}, (∀ n ∈ names, C.env.kindOf n = some .local) → names.length = ps.length → relL ps vs → St C lc ld s →
    (∀ s', St C ((names.zip ps).reverse ++ lc) ld s' → Q () s') → wpAny C.M C.A (assignInOrder (names.map fun n => bindName C.env n) vs) Q E s
  | [], [], vs, lc, ld, s, Q, E, _, _, r, I, k => by
    cases vs with
    | nil => exact wpAny_pure (k _ I)
    | cons _ _ => exact r.elim
  | n :: names, p :: ps, v :: vs, lc, ld, s, Q, E, hk, hl, r, I, k => by
    show wpAny _ _ (do holding vs (bindName C.env n v); assignInOrder (names.map fun n => bindName C.env n) vs) _ _ _
    refine wpAny_bind (wpAny_holding (wpAny_bindName (I.store ok r.1 (hk n (.head _)) fun s' I' => store_rev ok (fun n hn => hk n (.tail _ hn)) (by simpa using hl) r.2 I' fun s'' I'' => k s'' ?_)))
    rw [List.zip_cons_cons, List.reverse_cons, List.append_assoc]; exact I''
  | [], _ :: _, _, _, _, _, _, _, _, h, _, _, _ => by simp at h
  | _ :: _, [], _, _, _, _, _, _, _, h, _, _, _ => by simp at h
  | _ :: _, _ :: _, [], _, _, _, _, _, _, _, r, _, _ => r.elim
theorem relL_rev : ∀ {l : List PV} {m : List Value}, relL l m → relL l.reverse m.reverse
  | [], [], _ => trivial
  | _ :: _, _ :: _, h => by rw [List.reverse_cons, List.reverse_cons]; exact relL_app (relL_rev h.2) ⟨h.1, trivial⟩
  | [], _ :: _, h => h.elim
  | _ :: _, [], h => h.elim
/-- a, b = x, y: two or three locals, a tuple display -/
theorem Bl_unps {es : List Expr} {j : Nat} {tp pos : Pos} {e : Expr} {P : PV → Ld → Prop} (names : List Str) (he : Ex C lc ld e P) (hk0 : (names.all fun n => C.env.kindOf n == some .local) = true) (h : ∀ p ld', P p ld' → ∃ x ps, p = .v (.ref x) ∧ (x, PO.sq "tuple" ps) ∈ ld' ∧ names.length = ps.length ∧ Bl C ((names.reverse.zip ps.reverse).reverse ++ lc) ld' rest K)
    (hs : swapsWithSole [.Tuple es j tp] e pos.line C.env = pure false := by with_unfolding_all rfl) (hw : swappedStores [.Tuple es j tp] e C.env = pure (some names) := by with_unfolding_all rfl) : Bl C lc ld (.Assign [.Tuple es j tp] e pos :: rest) K := fun ok s I Q E k => by
  have hk : ∀ n ∈ names, C.env.kindOf n = some .local := fun n hn => beq_iff_eq.mp (List.all_eq_true.mp hk0 n hn)
  refine N_execs_cons ?_
  rw [exec_Assign, hs, hw]
  refine N_bind (N_standAt (N_bind (N_pure ?_)))
  rw [if_neg (by decide)]
  refine N_bind (he ok s I _ _ fun v p ld' s₁ I₁ r hp => N_bind (N_pure ?_))
  obtain ⟨x, ps, rfl, hm, hl, hb⟩ := h p ld' hp
  have r : v = .ref x := r
  subst r
  obtain ⟨vs, ht, rl⟩ := isTup_at I₁ hm
  show wpN _ _ (do rule "assign.swapped-stores"; let items ← unpackItems (.ref x) names.length none; assignInOrder (names.reverse.map fun n => bindName C.env n) items.reverse; pure Flow.next) _ _ _
  have el : names.length = vs.toArray.size := by rw [hl, List.size_toArray, relL_len rl]
  rw [el]
  refine N_bind (N_rule (N_bind (N_any (PyProof.Rows.unpackItems_tuple ok.R.handled ht fun h' he => N_bind (N_any ?_)))))
  exact store_rev ok (fun n hn => hk n (List.mem_reverse.mp hn)) (by rw [List.length_reverse, List.length_reverse, hl]) (relL_rev rl) (I₁.extSize (t := s₁.toks) he) fun s' I' => N_pure (hb ok s' I' Q E k)
end
theorem sub_eq (slice : Expr) (o i : Value) : ∃ ops, subscripted slice false o i = operate ops (getItem o i) := by
  unfold subscripted
  split
  · exact ⟨_, rfl⟩
  · rename_i h; cases h
  · exact ⟨_, rfl⟩
theorem relL_drop : ∀ {l : List PV} {m : List Value} (n : Nat), relL l m → relL (l.drop n) (m.drop n)
  | _, _, 0, h => h
  | [], [], _ + 1, _ => trivial
  | _ :: _, _ :: _, n + 1, h => relL_drop n h.2
  | [], _ :: _, _ + 1, h => h.elim
  | _ :: _, [], _ + 1, h => h.elim
theorem relL_take : ∀ {l : List PV} {m : List Value} (n : Nat), relL l m → relL (l.take n) (m.take n)
  | _, _, 0, h => by rw [List.take_zero, List.take_zero]; trivial
  | [], [], _ + 1, _ => trivial
  | _ :: _, _ :: _, n + 1, h => ⟨h.1, relL_take n h.2⟩
  | [], _ :: _, _ + 1, h => h.elim
  | _ :: _, [], _ + 1, h => h.elim
/-- an item by its place, from the end too -/
def idx (xs : List PV) (k : Int) : Option PV := if 0 ≤ k then xs[k.toNat]? else if -(xs.length : Int) ≤ k then xs[(k + xs.length).toNat]? else none
section
variable {C : Cn} {lc : Lc} {ld : Ld}
theorem N_sub {prog : Program} {w : World} {A : Around} {E : Value → Shared → Prop} {s : Shared} {env : Env} {Q : Value → Shared → Prop} {value slice : Expr} {pos : Pos}
    (h : wpN (model prog w) A (eval value env) (fun o s₁ => wpN (model prog w) A (eval slice env) (fun i s₂ => ∃ T id, s₂.TypeIs o T ∧ typeLookup (.type T) "__getitem__" = pure (some (.builtin id)) ∧ wpAny (model prog w) A (getItem o i) Q E s₂) E s₁) E s) :
    wpN (model prog w) A (eval (.Subscript value slice pos) env) Q E s := by
  rw [arm_eval_Subscript]
  refine N_bind (N_mono h (fun o s₁ h₁ => N_bind (N_holding (N_mono h₁ (fun i s₂ h₂ => ?_) fun _ _ x => x))) fun _ _ x => x)
  obtain ⟨T, id, hT, hl, hg⟩ := h₂
  refine N_bind (N_standAt (N_bind (N_any ?_)))
  unfold getitemInPython
  refine wpAny_bind (wpAny_specialOf hT hl (wpAny_pure ?_))
  obtain ⟨ops, e⟩ := sub_eq slice o i
  rw [e]
  exact N_bind (N_operate (N_any (wpAny_mono hg (fun r s' hr => N_bind (N_any (A_temp (N_pure hr)))) fun _ _ x => x)))
theorem A_item {s : Shared} {x : Addr} {c : String} {xs : List PV} {k : Int} {t : Tok} {q : PV} (I : St C lc ld s) (hc : c = "list" ∨ c = "tuple") (hm : (x, PO.sq c xs) ∈ ld) (hz : xs.length ≤ 2 ^ 20) (hq : idx xs k = some q) {Q : Value → Shared → Prop} {E : Value → Shared → Prop}
    (h : ∀ v, rel q v → Q v s) : ∃ T id, s.TypeIs (.ref x) T ∧ typeLookup (.type T) "__getitem__" = pure (some (.builtin id)) ∧ wpAny C.M C.A (getItem (.ref x) (.int k t)) Q E s := by
  unfold idx at hq
  have hk : 0 ≤ k ∧ k < xs.length ∨ k < 0 ∧ -(xs.length : Int) ≤ k := by
    by_cases h0 : 0 ≤ k
    · rw [if_pos h0] at hq
      have := (List.getElem?_eq_some_iff.mp hq).1
      omega
    · rw [if_neg h0] at hq
      by_cases h1 : -(xs.length : Int) ≤ k
      · omega
      · rw [if_neg h1] at hq; cases hq
  rcases hc with rfl | rfl
  · obtain ⟨vs, hl, rl⟩ := isList_at I hm
    have e := relL_len rl
    refine ⟨"list", _, hl.typeIs, slot_list_getitem.lookup, ?_⟩
    rcases hk with hk | hk
    · rw [if_pos hk.1] at hq
      obtain ⟨v, hv, rv⟩ := relL_get rl hq
      exact wpAny_getItem_list hl hk.1 (by omega) (by simpa using hv) (h v rv)
    · rw [if_neg (by omega), if_pos hk.2] at hq
      obtain ⟨v, hv, rv⟩ := relL_get rl hq
      refine PySem.wpAny_getItem_list_neg hl hk.1 (by rw [List.size_toArray]; omega) (by omega) (x := v) ?_ (h v rv)
      rw [List.size_toArray, ← e]; simpa using hv
  · obtain ⟨vs, hl, rl⟩ := isTup_at I hm
    have e := relL_len rl
    refine ⟨"tuple", _, hl.typeIs, slot_tuple_getitem.lookup, ?_⟩
    rcases hk with hk | hk
    · rw [if_pos hk.1] at hq
      obtain ⟨v, hv, rv⟩ := relL_get rl hq
      refine PyProof.Rows.getItem_tuple hl (by omega) (by omega) (j := k.toNat) (x := v) ?_ (by simpa using hv) (h v rv)
      unfold seqIndex?; rw [List.size_toArray, ← e]; simp; omega
    · rw [if_neg (by omega), if_pos hk.2] at hq
      obtain ⟨v, hv, rv⟩ := relL_get rl hq
      refine PyProof.Rows.getItem_tuple hl (by omega) (by omega) (j := (k + xs.length).toNat) (x := v) ?_ (by simpa using hv) (h v rv)
      unfold seqIndex?; rw [List.size_toArray, ← e]; simp; omega
/-- an item of a list or a tuple -/
theorem Ex_it {value slice : Expr} {pos : Pos} {P P' : PV → Ld → Prop} (he : Ex C lc ld value P)
    (hi : ∀ p ld', P p ld' → ∃ x c xs k q, p = .v (.ref x) ∧ (c = "list" ∨ c = "tuple") ∧ (x, PO.sq c xs) ∈ ld' ∧ xs.length ≤ 2 ^ 20 ∧ Ev C lc ld' slice (.i k) ∧ idx xs k = some q ∧ P' q ld') : Ex C lc ld (.Subscript value slice pos) P' := fun ok s I Q E k => by
  refine N_sub (he ok s I _ _ fun v p ld' s₁ I₁ r hp => ?_)
  obtain ⟨x, c, xs, kk, q, rfl, hc, hm, hz, hs, hq, hP⟩ := hi p ld' hp
  have r : v = .ref x := r
  subst r
  refine hs ok s₁ I₁ _ _ fun u s₂ I₂ ⟨t, ru⟩ => ?_
  subst ru
  exact A_item I₂ hc hm hz hq fun w rw => k w q ld' s₂ I₂ rw hP
theorem Ev_it {value slice : Expr} {pos : Pos} {x : Addr} {c : String} {xs : List PV} {k : Int} {q : PV} (he : Ev C lc ld value (.v (.ref x))) (hs : Ev C lc ld slice (.i k)) (hm : (x, PO.sq c xs) ∈ ld) (hz : xs.length ≤ 2 ^ 20) (hq : idx xs k = some q) (hc : c = "list" ∨ c = "tuple" := by simp) :
    Ev C lc ld (.Subscript value slice pos) q :=
  (Ex_it he.ex (P' := fun p ld' => p = q ∧ ld' = ld) fun p ld' ⟨a, b⟩ => by subst a b; exact ⟨x, c, xs, k, q, rfl, hc, hm, hz, hs, hq, rfl, rfl⟩).ev fun _ _ h => h
theorem Ev_itl {value slice : Expr} {pos : Pos} {x : Addr} {xs : List PV} {k : Int} {q : PV} (he : Ev C lc ld value (.v (.ref x))) (hs : Ev C lc ld slice (.i k)) (hm : (x, PO.sq "list" xs) ∈ ld) (hz : xs.length ≤ 2 ^ 20) (hq : idx xs k = some q) : Ev C lc ld (.Subscript value slice pos) q := Ev_it he hs hm hz hq (.inl rfl)
theorem Ev_itt {value slice : Expr} {pos : Pos} {x : Addr} {xs : List PV} {k : Int} {q : PV} (he : Ev C lc ld value (.v (.ref x))) (hs : Ev C lc ld slice (.i k)) (hm : (x, PO.sq "tuple" xs) ∈ ld) (hz : xs.length ≤ 2 ^ 20) (hq : idx xs k = some q) : Ev C lc ld (.Subscript value slice pos) q := Ev_it he hs hm hz hq (.inr rfl)
/-- an octet of a bytearray -/
theorem Ev_ito {value slice : Expr} {pos : Pos} {x : Addr} {bs : List UInt8} {k : Int} (he : Ev C lc ld value (.v (.ref x))) (hs : Ev C lc ld slice (.i k)) (hm : (x, PO.ba bs) ∈ ld) (h0 : 0 ≤ k) (h1 : k < bs.length) (hz : bs.length ≤ 2 ^ 20) :
    Ev C lc ld (.Subscript value slice pos) (.i (bs.getD k.toNat 0).toNat) := fun ok s I Q E q => by
  refine N_sub (he ok s I _ _ fun v s₁ I₁ r => ?_)
  have r : v = .ref x := r
  subst r
  refine hs ok s₁ I₁ _ _ fun u s₂ I₂ ⟨t, ru⟩ => ?_
  subst ru
  obtain ⟨ob, hob, rfl⟩ := I₂.at_ hm
  refine ⟨"bytearray", _, IsBa.type hob, bs_get.lookup, get_ba_int (b := bs.toArray) hob h0 (by simpa using h1) (by simp; omega) (q _ _ I₂.tok ⟨s₂.toks, ?_⟩)⟩
  simp
theorem N_slice {s : Shared} {a b : Expr} {slp : Pos} {lo hi : Int} (ok : C.Ok) (I : St C lc ld s) (ha : Ev C lc ld a (.i lo)) (hb : Ev C lc ld b (.i hi)) {Q : Value → Shared → Prop} {E : Value → Shared → Prop}
    (k : ∀ x l u s', St C lc ld s' → IsSl s'.heap x l u → IsPart l (some lo) → IsPart u (some hi) → Q (.ref x) s') : wpN C.M C.A (eval (.Slice (some a) (some b) none slp) C.env) Q E s := by
  rw [arm_eval_Slice]
  refine N_bind (ha ok s I _ _ fun va s₂ I₂ ⟨ta, ra⟩ => N_bind (N_holding (hb ok s₂ I₂ _ _ fun vb s₃ I₃ ⟨tb, rb⟩ => N_bind (N_holding (N_pure (N_any (newSlice fun h' kp _ hsl => ?_)))))))
  subst ra rb
  exact k _ _ _ _ (I₃.keep (t := s₃.toks) kp) hsl (.int _ _) (.int _ _)
theorem N_sliceTo {s : Shared} {b : Expr} {slp : Pos} {hi : Int} (ok : C.Ok) (I : St C lc ld s) (hb : Ev C lc ld b (.i hi)) {Q : Value → Shared → Prop} {E : Value → Shared → Prop}
    (k : ∀ x u s', St C lc ld s' → IsSl s'.heap x .none u → IsPart u (some hi) → (∃ t, u = .int hi t) → Q (.ref x) s') : wpN C.M C.A (eval (.Slice none (some b) none slp) C.env) Q E s := by
  rw [arm_eval_Slice]
  refine N_bind (N_pure (N_bind (N_holding (hb ok s I _ _ fun vb s₃ I₃ ⟨tb, rb⟩ => N_bind (N_holding (N_pure (N_any (newSlice fun h' kp _ hsl => ?_))))))))
  subst rb
  exact k _ _ _ (I₃.keep (t := s₃.toks) kp) hsl (.int _ _) ⟨_, rfl⟩
/-- o[a:b], o a list -/
theorem Ex_sll {o a b : Expr} {slp pos : Pos} {x : Addr} {xs : List PV} {lo hi : Nat} (ho : Ev C lc ld o (.v (.ref x))) (ha : Ev C lc ld a (.i lo)) (hb : Ev C lc ld b (.i hi)) (hm : (x, PO.sq "list" xs) ∈ ld) (hz : xs.length ≤ 2 ^ 20) :
    Ex C lc ld (.Subscript o (.Slice (some a) (some b) none slp) pos) (fun p ld' => ∃ y, p = .v (.ref y) ∧ ld' = ld ++ [(y, .sq "list" ((xs.drop lo).take (hi - lo)))]) := fun ok s I Q E k => by
  refine N_sub (ho ok s I _ _ fun v s₁ I₁ r => ?_)
  have r : v = .ref x := r
  subst r
  refine N_slice ok I₁ ha hb fun y l u s₂ I₂ hsl pl pu => ?_
  obtain ⟨vs, hl, rl⟩ := isList_at I₂ hm
  have e := relL_len rl
  refine ⟨"list", _, hl.typeIs, slot_list_getitem.lookup, wpAny_getItem_list_slice hl hsl pl pu .none (by simp) ?_ (by rw [List.size_toArray, ← e, sizeLine_eq]; omega)⟩
  refine k _ (.v (.ref s₂.heap.objs.size)) _ _ (I₂.growE (t := s₂.toks) (o := .sq "list" ((xs.drop lo).take (hi - lo))) (fun b o e => Heap.get?_push_of_some _ e) (fresh_none _) (Heap.get?_push_size _ rfl) ⟨(vs.drop lo).take (hi - lo), 0, relL_take _ (relL_drop _ rl), ?_⟩) rfl ⟨_, rfl, rfl⟩
  rw [slicePick_plain]
  simp only [Option.elim_some, clipAt_nat, List.size_toArray]
  congr 2
  rcases Nat.le_total lo vs.length with h | h
  · rw [Nat.min_eq_left h]
    rcases Nat.le_total hi vs.length with h' | h'
    · rw [Nat.min_eq_left h']
    · rw [Nat.min_eq_right h', List.take_of_length_le (by rw [List.length_drop]; omega), List.take_of_length_le (by rw [List.length_drop]; omega)]
  · rw [Nat.min_eq_right h, List.drop_of_length_le (Nat.le_refl _), List.drop_of_length_le h, List.take_nil, List.take_nil]
/-- o[:b], o bytes -/
theorem Ev_sby {o b : Expr} {slp pos : Pos} {bs : List UInt8} {hi : Nat} (ho : Ev C lc ld o (.y bs)) (hb : Ev C lc ld b (.i hi)) (hz : bs.length ≤ 2 ^ 20) : Ev C lc ld (.Subscript o (.Slice none (some b) none slp) pos) (.y (bs.take hi)) := fun ok s I Q E k => by
  refine N_sub (ho ok s I _ _ fun v s₁ I₁ ⟨t, r⟩ => ?_)
  subst r
  refine N_sliceTo ok I₁ hb fun y u s₂ I₂ hsl pu _ => ?_
  have e : KBy.picked bs.toArray none (some (hi : Int)) = (bs.take hi).toArray := by
    rw [KBc.picked_eq]
    simp only [Option.elim_some, Option.elim_none, clipAt_nat, List.size_toArray, List.drop_zero, Nat.sub_zero]
    rcases Nat.le_total hi bs.length with h | h
    · rw [Nat.min_eq_left h]
    · rw [Nat.min_eq_right h, List.take_of_length_le (Nat.le_refl _), List.take_of_length_le h]
  refine ⟨"bytes", _, typeIs_bytes _ _ _, FB.slot_bytes_getitem.lookup, getItem_meets (typeIs_bytes _ _ _) (by decide) FB.slot_bytes_getitem FB.entry_bytes_getitem (FB.args_bytes_getitem_2 _ _) (KBc.meets_slice2 bs.toArray t _ .none pu)
    ⟨hsl, Nat.le_trans (KBc.size_picked_le _ _ _) (by rw [List.size_toArray, sizeLine_eq]; omega), fun t' n => k _ _ I₂.tok ⟨t', ?_⟩⟩⟩
  rw [e]
/-- o[a:b], o a bytearray -/
theorem Ex_sba {o a b : Expr} {slp pos : Pos} {d : Addr} {bs : List UInt8} {lo hi : Int} (ho : Ev C lc ld o (.v (.ref d))) (ha : Ev C lc ld a (.i lo)) (hb : Ev C lc ld b (.i hi)) (hm : (d, PO.ba bs) ∈ ld) (h0 : 0 ≤ lo) (h1 : lo ≤ hi) (h2 : hi ≤ bs.length) (hz : bs.length ≤ 2 ^ 20) :
    Ex C lc ld (.Subscript o (.Slice (some a) (some b) none slp) pos) (fun p ld' => ∃ x, p = .v (.ref x) ∧ ld' = ld ++ [(x, .ba ((bs.drop lo.toNat).take (hi - lo).toNat))]) := fun ok s I Q E k => by
  refine N_sub (ho ok s I _ _ fun v s₁ I₁ r => ?_)
  have r : v = .ref d := r
  subst r
  refine N_slice ok I₁ ha hb fun y l u s₂ I₂ hsl pl pu => ?_
  obtain ⟨ob, hob, rfl⟩ := I₂.at_ hm
  have c1 : cut (some lo) 0 bs.toArray.size = lo := cut_some h0 (by simp; omega)
  have c2 : cut (some hi) bs.toArray.size bs.toArray.size = hi := cut_some (by omega) (by simpa using h2)
  refine ⟨"bytearray", _, IsBa.type hob, bs_get.lookup, get_ba_sl (b := bs.toArray) hob hsl pl pu (by rw [sizeLine_eq]; simp; omega) ?_⟩
  refine k _ (.v (.ref s₂.heap.objs.size)) _ _ (I₂.growE (t := s₂.toks) (fun b o e => Heap.get?_push_of_some _ e) (fresh_none _) (Heap.get?_push_size _ rfl) ?_) rfl ⟨_, rfl, rfl⟩
  rw [c1, c2]
  show _ = baO ((bs.drop lo.toNat).take (hi - lo).toNat).toArray
  have e : (hi - lo).toNat = hi.toNat - lo.toNat := by omega
  rw [e]
  simp [List.extract_eq_take_drop, baO]
/-- list.append -/
theorem bi_append {pre post : Ld} {l : Addr} {ys : List PV} {p : PV} (hz : ys.length ≤ 2 ^ 20) : Bi C (.builtin "list.append") [.v (.ref l), p] (pre ++ (l, .sq "list" ys) :: post) (fun q ld' => q = .v .none ∧ ld' = pre ++ (l, .sq "list" (ys ++ [p])) :: post) := fun ok lc s I vs rs Q E k => by
  obtain ⟨v, u, rfl, r, ru⟩ := relL_2 rs
  next =>
    have r : v = .ref l := r
    subst r
    obtain ⟨ob, hob, us, n, rl, rfl⟩ := I.at_ (x := l) (o := .sq "list" ys) (by simp)
    refine N_any (wpAny_list_append_plain (items := us.toArray) ⟨n, hob⟩ (fun h' hl hs => ?_) (by rw [sizeLine_eq, List.size_toArray, ← relL_len rl]; omega))
    obtain ⟨n', hl⟩ := hl
    refine k _ (.v .none) _ _ (I.changeB (t := s.toks) (o' := .sq "list" (ys ++ [p])) hs ⟨_, hl, us ++ [u], n', relL_app rl ⟨ru, trivial⟩, ?_⟩) rfl ⟨rfl, rfl⟩
    simp
/-- o.append(e) -/
theorem Bl_app {K : Fl → Lc → Ld → Prop} {rest : List Stmt} {o : Str} {op ap cp pos : Pos} {e : Expr} {pre post : Ld} {l : Addr} {ys : List PV} {p : PV} (ho : Ea C lc (pre ++ (l, .sq "list" ys) :: post) (.Name o op) (.v (.ref l))) (he : Ev C lc (pre ++ (l, .sq "list" ys) :: post) e p) (hz : ys.length ≤ 2 ^ 20)
    (h : Bl C lc (pre ++ (l, .sq "list" (ys ++ [p])) :: post) rest K) (hse : isStar e = false := by with_unfolding_all rfl) (hp : methOk [e] ap cp = true := by with_unfolding_all rfl) (hi : interactive C.env = false := by with_unfolding_all rfl) :
    Bl C lc (pre ++ (l, .sq "list" ys) :: post) (.Expr (.Call (.Attribute (.Name o op) "append" ap) [e] [] cp) pos :: rest) K :=
  Bl_ex (Ex_bm (P₁ := fun ps ld' => ps = [p] ∧ ld' = pre ++ (l, .sq "list" ys) :: post) (T := "list") (id := "list.append") (x := l) ho (fun ok s I => by
      obtain ⟨ob, hob, us, n, rl, rfl⟩ := I.at_ (x := l) (o := .sq "list" ys) (by simp)
      exact ⟨_, hob, rfl, rfl⟩) F.plainAttrs_list slot_list_append type_list_append (Ag_1 he (Ag_end ⟨rfl, rfl⟩) hse) (fun ps ld' hh => by obtain ⟨a, b⟩ := hh; subst a b; exact bi_append hz) hp)
    (fun q ld' hh => by obtain ⟨a, b⟩ := hh; subst a b; exact ⟨trivial, h⟩) hi rfl
end
theorem meth_eqA {b : Expr} {a : Str} {ap apos pos : Pos} {nm : Str} {args : List Expr} {env : Env} (h : methOk args apos pos = true) : ∃ pl, eval (.Call (.Attribute (.Attribute b a ap) nm apos) args [] pos) env = (do
      let ov ← eval (.Attribute b a ap) env
      standAt apos.atName
      let (f, first) ← holding [ov] (getMethod ov nm pl)
      callWith pos f first (backTo pos (starEach args env)) (backToKw pos (keywordEach [] env))) := by
  unfold methOk at h
  rw [Bool.and_eq_true, Bool.and_eq_true] at h
  obtain ⟨⟨h1, h2⟩, h3⟩ := h
  refine ⟨(do return (← importBound (.Attribute b a ap) env).getD true), ?_⟩
  rw [arm_eval_Call]
  have e1 : methodCallForm (args.length + ([] : List Keyword).length) (backTo pos (starEach args env)) (backToKw pos (keywordEach [] env)) = true := by
    unfold methodCallForm
    rw [star_plain h1]
    show (true && true && decide (args.length + 0 + (if true = true then 0 else 1) < 30)) = true
    have : args.length < 30 := Nat.le_of_ble_eq_true h2
    simp; omega
  unfold methodCall
  rw [e1]
  have e2 : methodCallPos true (.Attribute b a ap) env apos pos = pure pos := by
    unfold methodCallPos
    rw [h3]; rfl
  rw [e2]
  rfl
section
variable {C : Cn} {lc : Lc} {ld : Ld}
/-- a method of an object of a built-in type, read off an attribute -/
theorem Ex_bmA {b : Expr} {a nm : Str} {ap apos pos : Pos} {args : List Expr} {x : Addr} {T id : String} {P₁ : List PV → Ld → Prop} {P : PV → Ld → Prop} (ho : Ev C lc ld (.Attribute b a ap) (.v (.ref x)))
    (hT : C.Ok → ∀ s, St C lc ld s → ∃ ob, s.heap.get? x = some ob ∧ ob.cls = .type T ∧ ob.dict = none) (pa : PlainAttrs T) (slot : Slot T nm id) (hty : typeOf (.builtin id) = pure (.type "method_descriptor")) (ha : Ag C lc ld args P₁)
    (hf : ∀ ps ld', P₁ ps ld' → Bi C (.builtin id) (.v (.ref x) :: ps) ld' P) (hp : methOk args apos pos = true := by with_unfolding_all rfl) : Ex C lc ld (.Call (.Attribute (.Attribute b a ap) nm apos) args [] pos) P := fun ok s I Q E q => by
  obtain ⟨pl, he⟩ := meth_eqA (b := b) (a := a) (ap := ap) (nm := nm) (env := C.env) hp
  have hpl : ∀ pos : Pos, (backTo pos (starEach args C.env)).any (·.1) = false := fun pos => by
    unfold methOk at hp
    rw [Bool.and_eq_true, Bool.and_eq_true] at hp
    exact star_any (star_plain hp.1.1)
  rw [he]
  refine N_bind (ho ok s I _ _ fun ov s₁ I₁ ro => ?_)
  have ro : ov = .ref x := ro
  subst ro
  obtain ⟨ob, hob, hc, hd⟩ := hT ok s₁ I₁
  refine N_bind (N_standAt (N_bind (N_holding (N_any (getMethod_builtin (T := T) ⟨ob, hob, hc⟩ pa slot hty (fun a e => by cases e; exact ⟨ob, hob, hd⟩) ?_)))))
  refine N_callWith (hpl _) rfl (ha ok s₁ I₁ _ _ _ fun us ps ld' s₂ I₂ rs hp => N_evalAll_nil ⟨looks_machine rfl, ?_⟩)
  exact hf ps ld' hp ok lc s₂ I₂ (.ref x :: us) ⟨rfl, rs⟩ Q E q
theorem tupKey {w : World} {s : Shared} {t : Addr} {ns : List Int} (I : St C lc ld s) (hm : (t, PO.sq "tuple" (ns.map PV.i)) ∈ ld) : IsTupleKey (intKind pw w) s.heap ns t := by
  obtain ⟨ob, hob, vs, n, rl, rfl⟩ := I.at_ hm
  refine ⟨_, vs.toArray, n, hob, rfl, rfl, ?_⟩
  have h := relL_ints rl
  clear rl hob hm I
  show ItemsAre _ ns vs
  induction h with
  | nil => exact .nil
  | cons k t _ ih => exact .cons (by show (match Value.int k t with | .int x _ => x == k | _ => false) = true; simp) ih
theorem dictOfH_at {w : World} {s : Shared} {d : Addr} (I : St C lc ld s) (hm : (d, PO.raw (dictOf [] 0)) ∈ ld) : s.heap.DictOfH (tupleKind (intKind pw w)) d [] := by
  obtain ⟨ob, hob, rfl⟩ := I.at_ hm
  exact ⟨_, _, 0, hob, ⟨rfl, rfl, rfl⟩, rfl, rfl, (fun x hx => nomatch hx), List.nodup_nil⟩
theorem units_lt (ok : C.Ok) : C.A.units + 1 < cLine := by
  have := ok.R.units
  have e : (3500 : Nat) < cLine := by decide
  omega
/-- d.get(t), d an empty dict, t a tuple of ints -/
theorem bi_dget {d t : Addr} {ns : List Int} (hd : (d, PO.raw (dictOf [] 0)) ∈ ld) (ht : (t, PO.sq "tuple" (ns.map PV.i)) ∈ ld) (h1 : d ≠ 1) : Bi C (.builtin "dict.get") [.v (.ref d), .v (.ref t)] ld (fun p ld' => p = .v .none ∧ ld' = ld) := fun ok lc s I vs rs Q E q => by
  obtain ⟨v, u, rfl, r, ru⟩ := relL_2 rs
  next =>
    have r : v = .ref d := r
    have ru : u = .ref t := ru
    subst r ru
    have hD := dictOfH_at (w := C.w) I hd
    refine N_any (call_meetsIn PySem.F.slot_dict_get hD.typeIs PySem.F.entry_dict_get (PySem.F.args_dict_get_2 _ _) (meetsH_dict_get (tupleKind (intKind pw C.w)) d t (beq_eq_false_iff_ne.mpr h1)) ⟨tupleKind_room_in1 (units_lt ok), ns, [], tupKey I ht, hD, ?_⟩)
    exact q .none (.v .none) ld _ I.tok rfl ⟨rfl, rfl⟩
/-- d[t] = an int; the dict let go -/
theorem Bl_setd {K : Fl → Lc → Ld → Prop} {rest : List Stmt} {o i value : Expr} {sp pos : Pos} {pre post : Ld} {d t : Addr} {ns : List Int} {p : PV} (hv : Ev C lc (pre ++ (d, .raw (dictOf [] 0)) :: post) value p) (ho : Ev C lc (pre ++ (d, .raw (dictOf [] 0)) :: post) o (.v (.ref d)))
    (hi : Ev C lc (pre ++ (d, .raw (dictOf [] 0)) :: post) i (.v (.ref t))) (ht : (t, PO.sq "tuple" (ns.map PV.i)) ∈ pre ++ (d, .raw (dictOf [] 0)) :: post)
    (h : Bl C lc (pre ++ post) rest K)
    (hs : swapsWith value (some (.Subscript o i sp)) pos.line C.env = pure false := by with_unfolding_all rfl) :
    Bl C lc (pre ++ (d, .raw (dictOf [] 0)) :: post) (.Assign [.Subscript o i sp] value pos :: rest) K := fun ok s I Q E k => by
  refine N_execs_cons ?_
  rw [exec_Assign_Subscript (o := o) (i := i) (pos' := sp) (value := value) (pos := pos) (hs := hs)]
  refine N_bind (N_standAt (N_bind (hv ok s I _ _ fun vv s₁ I₁ rv => N_bind ?_)))
  rw [arm_assign_Subscript]
  refine N_bind (N_holding (ho ok s₁ I₁ _ _ fun ov s₂ I₂ ro => N_bind (N_holding ?_)))
  have ro : ov = .ref d := ro
  subst ro
  refine hi ok s₂ I₂ _ _ fun iv s₃ I₃ ri => ?_
  have ri : iv = .ref t := ri
  subst ri
  have hD := dictOfH_at (w := C.w) I₃ (d := d) (by simp)
  refine N_bind (N_standAt (N_bind (N_holding (N_any (wpAny_setItem_heap (hsz := Nat.zero_le _) (knd := tupleKind (intKind pw C.w)) (tupleKind_room_in1 (units_lt ok)) (tupKey I₃ ht) hD fun h' _ hsb => ?_)))))
  exact N_release (N_pure (h ok _ (I₃.dropE hsb.extBut) Q E k))
end
section
variable {prog : Program} {w : World} {A : Around} {K : Frag} {C : Addr} {s : Shared} {R : Result → Shared → Prop}
/-- an object made: its __init__ is the text's own -/
theorem N_make {rest : List Value} {fI : Addr} (X : K.In s.heap) (hm : makesIn K C = true) (hi : findIn K (.ref C) "__init__" = some (some (.ref fI))) (hf : typeIn K (.ref fI) = some (.type "function"))
    (hq : codeN (model prog w) (A.under (.builtin "type.__call__" ⟨.ref C :: rest, []⟩)) (.call (.ref fI) ⟨.ref (s.heap.objs.size + 1) :: rest, []⟩)
      (fun r s' => ∃ v, r = .ok (.ret v) ∧ v = .none ∧ R (.ok (.ret (.ref (s.heap.objs.size + 1)))) s') { s with heap := (s.heap.push emptyDict).push (instObj C s.heap.objs.size) }) :
    codeN (model prog w) A (.call (.ref C) ⟨rest, []⟩) R s := by
  obtain ⟨h, g, d, t, os⟩ := s
  have Y : Makes (model prog w) h C := makes_of X hm
  have hii : Looks (model prog w) h (typeLookup (.ref C) "__init__") (some (.ref fI)) := looks_findIn X hi
  have Y' := Y
  obtain ⟨⟨oc, od, cd, sl, hC, e1, e2, e4⟩, made, base, self, top, call, typ⟩ := Y
  refine codeN_of_tree rfl (N_any ?_)
  show wpAny _ _ (callAny (.ref C) _) _ _ _
  refine nd_load hC ?_
  show wpAny _ _ (callAny.viaDunder (.ref C) _) _ _ _
  unfold callAny.viaDunder
  refine wpAny_bind (call.at ?_)
  dsimp only
  rw [tc_bind]
  refine wpAny_bind (wpAny_pure (wpAny_bind (wpAny_pure ?_)))
  refine wpAny_pure (a := PySem.Fin.again (.call (.builtin "type.__call__") ⟨.ref C :: rest, []⟩)) (And.intro rfl ?_)
  refine codeN_of_tree rfl ?_
  show wpN _ _ (do checkBuiltinCall "type.__call__" ⟨.ref C :: rest, []⟩; again (.builtin "type.__call__" ⟨.ref C :: rest, []⟩)) _ _ _
  refine N_bind (N_any (check_slot tc_kind tc_split typ (tc_args _ _ _) (N_pure ⟨Code.quiet_builtin _ (by decide +kernel), codeN_builtin (show (!holders.contains "type.__call__") = true by decide) entry_typeCall ?_⟩)))
  unfold Builtin.«type.__call__»
  have hmr : Looks (model prog w) h (mroOf (.ref C)) cd.mro := ((Looks.ld (part := none) hC).andThen .now).andThen .now
  dsimp only
  rw [if_neg (show ¬ ((Value.ref C == Value.type "type") = true) from Bool.false_ne_true)]
  refine N_bind (N_any (hmr.at ?_))
  rw [e4, if_neg Bool.false_ne_true]
  refine N_bind (N_any (made.at ?_))
  refine N_bind (N_pure (N_bind (N_holding (N_any (wpAny_call (new_K Y' hii (.inl rfl) ?_))))))
  dsimp only [wants]
  have k : ∀ b o, h.get? b = some o → ((h.push emptyDict).push (instObj C h.objs.size)).get? b = some o := fun b o e => Heap.get?_push_of_some _ (Heap.get?_push_of_some _ e)
  have hx : ((h.push emptyDict).push (instObj C h.objs.size)).get? (h.objs.size + 1) = some (instObj C h.objs.size) := by heap_get
  have t1 : Looks (model prog w) ((h.push emptyDict).push (instObj C h.objs.size)) (typeOf (.ref (h.objs.size + 1))) (.ref C) := (Looks.ld hx).andThen .now
  have s1 := self.keeps k
  have i1 := hii.keeps k
  have b1 : Looks (model prog w) ((h.push emptyDict).push (instObj C h.objs.size)) (bindSpecial (.ref fI) (.ref (h.objs.size + 1))) (.ref fI, [.ref (h.objs.size + 1)]) := (bind_fn X (.ref (h.objs.size + 1)) hf).keeps k
  unfold isInstance callSpecial? specialOf
  refine N_bind (N_bind (N_any (t1.at (N_any (s1.at ?_)))))
  rw [if_neg (show ¬ ((!true) = true) from Bool.false_ne_true)]
  refine N_bind (N_holding (N_bind (N_bind (N_any (t1.at (N_any (i1.at ?_)))))))
  dsimp only
  refine N_holding (N_bind (N_any (b1.at ?_)))
  refine N_bind (N_call (codeN_mono hq fun r s' hr => ?_))
  obtain ⟨v, rfl, rfl, hr⟩ := hr
  refine N_pure ?_
  dsimp only
  rw [if_neg (by decide)]
  exact N_pure hr
end
theorem Room.make {A : Around} {k : Nat} {C : Addr} {rest : List Value} (r : Room A (k + 1)) : Room (A.under (.builtin "type.__call__" ⟨.ref C :: rest, []⟩)) k :=
  ⟨by have := r.depth; show A.depth + 1 + k ≤ 600; omega, by have := r.units; show A.units + 1 + 3 * k ≤ 3000; omega, r.guards, r.handled⟩
def makeOk (K : Frag) (C fI : Addr) : Bool := makesIn K C && findIn K (.ref C) "__init__" == some (some (.ref fI)) && typeIn K (.ref fI) == some (.type "function") && keepIn K (.ref C)
section
variable {C : Cn} {lc : Lc} {ld : Ld}
/-- a class of the module, called -/
theorem Ex_cls {x : Str} {xp pos : Pos} {args : List Expr} {c fI : Addr} {k : Nat} {P₁ : List PV → Ld → Prop} {P : Addr → Ld → Prop} (hx : Ea C lc ld (.Name x xp) (.v (.ref c))) (ha : Ag C lc ld args P₁)
    (hf : ∀ ps ld', P₁ ps ld' → ∀ b dx, Fn fI k (.v (.ref b) :: ps) ((b, .ins c dx []) :: (dx, .raw (dictOf [] 0)) :: ld') (fun p ld'' => p = .v .none ∧ P b ld'')) (hk : k + 1 ≤ C.k) (hm : ∀ P, makeOk (frag P) c fI = true) (hpl : (args.all fun e => !isStar e) = true := by with_unfolding_all rfl) :
    Ex C lc ld (.Call (.Name x xp) args [] pos) (fun p ld' => ∃ b, p = .v (.ref b) ∧ P b ld') := fun ok s I Q E q => by
  rw [arm_eval_Call_Name']
  refine N_bind (N_any (hx ok s I _ _ fun f' s₁ I₁ r => ?_))
  have r : f' = .ref c := r
  subst r
  have hm' := hm C.w.params
  unfold makeOk at hm'
  simp only [Bool.and_eq_true, beq_iff_eq] at hm'
  obtain ⟨⟨⟨m1, m2⟩, m3⟩, m4⟩ := hm'
  refine N_callWith (star_any (star_plain hpl)) rfl (ha ok s₁ I₁ _ _ _ fun us ps ld' s₂ I₂ rs hp => N_evalAll_nil ⟨keeps_K m4 _ (I₂.keeps ok), N_call (N_make (I₂.keeps ok) m1 m2 m3 ?_)⟩)
  have I₃ := (I₂.grow (t := s₂.toks) (o := .raw (dictOf [] 0)) (h' := s₂.heap.push emptyDict) (fun b o e => Heap.get?_push_of_some _ e) (fresh_none _) (Heap.get?_push_size _ rfl) rfl)
  have I₄ := (I₃.grow (t := s₂.toks) (o := .ins c s₂.heap.objs.size []) (h' := (s₂.heap.push emptyDict).push (instObj c s₂.heap.objs.size)) (fun b o e => Heap.get?_push_of_some _ e) (fresh_none _) (Heap.get?_push_size _ rfl) ⟨[], trivial, rfl⟩)
  dsimp only at I₄
  rw [Heap.size_push] at I₄
  obtain ⟨k', hk'⟩ : ∃ k', C.k = k' + 1 := ⟨C.k - 1, by omega⟩
  let C' : Cn := { C with A := C.A.under (.builtin "type.__call__" ⟨.ref c :: us, []⟩), k := k' }
  have ok' : C'.Ok := ⟨ok.X, ok.T, Room.make (hk' ▸ ok.R), ok.fn⟩
  refine hf ps ld' hp (s₂.heap.objs.size + 1) s₂.heap.objs.size C' ok' (show k ≤ k' by omega) lc _ (show St C' lc _ _ from ⟨I₄.ex, I₄.nd, I₄.os, I₄.gens⟩) (.ref (s₂.heap.objs.size + 1) :: us) ⟨rfl, rs⟩ _ fun v p ld'' s' I' rv hP => ?_
  obtain ⟨rfl, hP⟩ := hP
  have rv : v = .none := rv
  subst rv
  exact ⟨.none, rfl, rfl, q _ (.v (.ref (s₂.heap.objs.size + 1))) ld'' s' (⟨I'.ex, I'.nd, I'.os, I'.gens⟩ : St C lc ld'' s') rfl ⟨_, rfl, hP⟩⟩
/-- a method of a class object -/
theorem Ex_py {o : Str} {op apos pos : Pos} {k : FK} {e : Expr} {n : Int} {P : PV → Ld → Prop} (ho : Ea C lc ld (.Name o op) (.v (.ref k.addr))) (he : Ex C lc ld e P) (hn : ∀ p ld', P p ld' → p = .i n ∧ ld' = ld)
    (hp : methOk [e] apos pos = true := by with_unfolding_all rfl) (hse : isStar e = false := by with_unfolding_all rfl) : Ev C lc ld (.Call (.Attribute (.Name o op) "py_type" apos) [e] [] pos) (.i n) := fun ok s I Q E q => by
  obtain ⟨pl, heq⟩ := meth_eq (o := o) (op := op) (nm := "py_type") (env := C.env) hp
  have hpl : ∀ pos : Pos, (backTo pos (starEach [e] C.env)).any (·.1) = false := fun pos => by
    unfold methOk at hp
    rw [Bool.and_eq_true, Bool.and_eq_true] at hp
    exact star_any (star_plain hp.1.1)
  rw [heq]
  refine N_bind (N_any (ho ok s I _ _ fun ov s₁ I₁ ro => ?_))
  have ro : ov = .ref k.addr := ro
  subst ro
  have h0 := flag_ok C.w.params k
  simp only [flagOk, Bool.and_eq_true] at h0
  have hr := h0.1.1.1.1
  simp only [readsIn, Bool.and_eq_true, beq_iff_eq] at hr
  obtain ⟨⟨⟨⟨a, b⟩, c'⟩, d⟩, f⟩ := hr
  have X := I₁.keeps ok
  refine N_bind (N_standAt (N_bind (N_holding (N_any ?_))))
  unfold getMethod specialOf
  refine wpAny_bind (wpAny_bind ((looks_typeIn X b).at ((looks_findIn X c').at ?_)))
  dsimp only
  rw [if_pos (by decide +kernel)]
  refine wpAny_bind (at_py (k := k) ok s₁ I₁ _ rfl _ _ _ fun v s₂ I₂ rv => ?_)
  have rv : v = .type "int" := rv
  subst rv
  refine wpAny_pure ?_
  refine N_callWith (hpl _) rfl ((Ag_cons (P' := fun ps ld' => ps = [.i n] ∧ ld' = ld) he (fun p ld' h => by obtain ⟨rfl, rfl⟩ := hn p ld' h; exact Ag_end ⟨rfl, rfl⟩) hse) ok s₂ I₂ _ _ _ fun us ps ld' s₃ I₃ rs hp => N_evalAll_nil ⟨looks_machine rfl, ?_⟩)
  obtain ⟨rfl, rfl⟩ := hp
  exact bi_int ok lc s₃ I₃ us rs Q E fun v p ld' s' I' r ⟨hp, hl⟩ => q v s' (hl ▸ I') (hp ▸ r)
/-- slot i of an object, grown to it -/
def ext (sl : List (Option PV)) (i : Nat) (p : PV) : List (Option PV) := (sl ++ List.replicate (i + 1 - sl.length) none).set i (some p)
theorem relS_app : ∀ {l l' : List (Option PV)} {m m' : List (Option Value)}, relS l m → relS l' m' → relS (l ++ l') (m ++ m')
  | [], _, [], _, _, h => h
  | _ :: _, _, _ :: _, _, h, h' => ⟨h.1, relS_app h.2 h'⟩
  | [], _, _ :: _, _, h, _ => h.elim
  | _ :: _, _, [], _, h, _ => h.elim
theorem relS_none : ∀ n, relS (List.replicate n none) (List.replicate n none)
  | 0 => trivial
  | n + 1 => ⟨trivial, relS_none n⟩
/-- o.a = e, the object at the ledger's head, its slots grown -/
theorem Bl_stx {K : Fl → Lc → Ld → Prop} {rest : List Stmt} {o : Str} {op ap pos : Pos} {a : Str} {e : Expr} {P : PV → Ld → Prop} {x dx c : Addr} {sl : List (Option PV)} {ld : Ld} (i : Nat) (he : Ex C lc ((x, .ins c dx sl) :: (dx, .raw (dictOf [] 0)) :: ld) e P) (ho : ∀ ld', Ea C lc ld' (.Name o op) (.v (.ref x)))
    (h : ∀ p ld', P p ld' → ∃ ld'', ld' = (x, PO.ins c dx sl) :: (dx, .raw (dictOf [] 0)) :: ld'' ∧ Bl C lc ((x, .ins c dx (ext sl i p)) :: (dx, .raw (dictOf [] 0)) :: ld'') rest K) (hok : ∀ P, slotOk (frag P) c a i = true) (hi : i < 1000 := by decide)
    (hs : swapsWith e (some (.Attribute (.Name o op) a ap)) pos.line C.env = pure false := by with_unfolding_all rfl) : Bl C lc ((x, .ins c dx sl) :: (dx, .raw (dictOf [] 0)) :: ld) (.Assign [.Attribute (.Name o op) a ap] e pos :: rest) K := fun ok s I Q E k => by
  refine N_execs_cons ?_
  rw [plainObj_exec_Assign_Attribute _ _ _ _ _ hs]
  refine N_bind (N_standAt (N_bind (he ok s I _ _ fun v p ld' s₁ I₁ r hp => ?_)))
  obtain ⟨ld'', rfl, hb⟩ := h p ld' hp
  refine N_bind ?_
  rw [arm_assign_Attribute]
  refine N_bind (N_holding (N_any (ho _ ok s₁ I₁ _ _ fun ov s₂ I₂ ro => ?_)))
  have ro : ov = .ref x := ro
  subst ro
  refine N_bind (N_standAt (N_bind (N_holding (N_any ?_))))
  refine St.el I₂ fun m news F N H l nd os gens => ?_
  obtain ⟨u, ob, w, rfl, Hu, ⟨vs, hvs, rfl⟩, Hw⟩ := relH_split (pre := []) H
  cases u with
  | cons _ _ => exact Hu.elim
  | nil =>
  obtain ⟨od', rfl, hd'⟩ := relH_mem H (a := dx) (o := .raw (dictOf [] 0)) (.tail _ (.head _))
  have nd' : ((x, (⟨.ref c, some dx, .plain, vs.toArray⟩ : Obj)) :: w).map (·.1) = ((x, PO.ins c dx sl) :: (dx, .raw (dictOf [] 0)) :: ld'').map (·.1) := (relH_keys H).symm
  have n2 : ∀ p ∈ w, p.1 ≠ x := fun p hp e => by
    rw [← nd', List.map_cons, List.nodup_cons] at nd
    exact nd.1 (List.mem_map.mpr ⟨p, hp, e⟩)
  have U : Upd x (⟨.ref c, some dx, .plain, vs.toArray⟩ : Obj) (⟨.ref c, some dx, .plain, ((vs ++ List.replicate (i + 1 - vs.length) none).set i (some v)).toArray⟩ : Obj) ((x, ⟨.ref c, some dx, .plain, vs.toArray⟩) :: w) ((x, ⟨.ref c, some dx, .plain, ((vs ++ List.replicate (i + 1 - vs.length) none).set i (some v)).toArray⟩) :: w) := .head n2
  refine sSlot F ok.X N ⟨N.get (.head _), rfl, rfl, N.get hd'⟩ (hok _) hi (ox' := ⟨.ref c, some dx, .plain, ((vs ++ List.replicate (i + 1 - vs.length) none).set i (some v)).toArray⟩) ?_ rfl U fun h' F' N' => ?_
  · simp only [List.size_toArray]
    congr 1
    apply Array.ext'
    simp
  · refine N_release (N_pure ?_)
    have key : ((x, PO.ins c dx (ext sl i p)) :: (dx, .raw (dictOf [] 0)) :: ld'').map (·.1) = ((x, PO.ins c dx sl) :: (dx, .raw (dictOf [] 0)) :: ld'').map (·.1) := rfl
    have hl := relS_len hvs
    have H' : relH ((x, PO.ins c dx (ext sl i p)) :: (dx, .raw (dictOf [] 0)) :: ld'') ((x, (⟨.ref c, some dx, .plain, ((vs ++ List.replicate (i + 1 - vs.length) none).set i (some v)).toArray⟩ : Obj)) :: w) := ⟨rfl, ⟨_, relS_set (by rw [hl]; exact relS_app hvs (relS_none _)) r, rfl⟩, Hw⟩
    exact hb ok _ (⟨⟨m, _, F', N', H', l⟩, key ▸ nd, os, gens⟩ : St C lc _ { s₂ with heap := h', toks := s₂.toks + 1 }) Q E k
theorem foldl_one (v : Value) : ∀ n : Nat, ∀ a : Array Value, (List.foldl (fun x1 x2 => x1 ++ x2) a (List.replicate n #[v])) = a ++ (List.replicate n v).toArray
  | 0, a => by simp
  | n + 1, a => by rw [List.replicate_succ, List.foldl_cons, foldl_one v n]; apply Array.ext'; simp [List.replicate_succ]
theorem relL_rep {p : PV} {v : Value} (r : rel p v) : ∀ n, relL (List.replicate n p) (List.replicate n v)
  | 0 => trivial
  | n + 1 => ⟨r, relL_rep r n⟩
/-- [p] * n -/
theorem Ex_rep {l r : Expr} {pos : Pos} {p : PV} {n : Nat} {P : PV → Ld → Prop} (hl : Ex C lc ld l P) (h : ∀ q ld', P q ld' → ∃ x, q = .v (.ref x) ∧ ld' = ld ++ [(x, .sq "list" [p])] ∧ Ev C lc ld' r (.i n)) (hn : n ≤ 2 ^ 20) :
    Ex C lc ld (.BinOp l .Mult r pos) (fun q ld' => ∃ y, q = .v (.ref y) ∧ ld' = ld ++ [(y, .sq "list" (List.replicate n p))]) := fun ok s I Q E k => by
  rw [eval_BinOp]
  refine N_bind (hl ok s I _ _ fun v q ld' s₁ I₁ rv hq => N_bind (N_holding ?_))
  obtain ⟨x, rfl, rfl, hr⟩ := h q ld' hq
  have rv : v = .ref x := rv
  subst rv
  refine hr ok s₁ I₁ _ _ fun u s₂ I₂ ⟨t, ru⟩ => N_bind (N_standAt (N_operate (N_any ?_)))
  subst ru
  obtain ⟨ob, hob, vs, c, rl, rfl⟩ := I₂.at_ (x := x) (o := .sq "list" [p]) (by simp)
  obtain ⟨v, rfl, rv⟩ := relL_1 rl
  next =>
    obtain ⟨m, news, F, N, H, l⟩ := I₂.ex
    refine mul_list F N hob (by omega) (by omega) (by simp; omega) fun h' F' N' => ?_
    refine k _ (.v (.ref s₂.heap.objs.size)) _ _ ((show St C lc (ld ++ [(s₂.heap.objs.size, .sq "list" (List.replicate n p))]) { s₂ with heap := h' } from ?_)) rfl ⟨_, rfl, rfl⟩
    obtain ⟨u, u', e, Hu, Hx⟩ := relH_app H
    have hnx : ∀ p ∈ u, p.1 ≠ s₂.heap.objs.size := fun p hp e' => by
      have := (N p (by rw [e]; exact List.mem_append_left _ hp)).1
      rw [e'] at this; exact absurd (Heap.lt_size this) (Nat.lt_irrefl _)
    refine ⟨⟨m, u ++ [(s₂.heap.objs.size, _)], F', fun p hp => ?_, relH_mk Hu ⟨rfl, ⟨List.replicate n v, 0, relL_rep rv n, rfl⟩, trivial⟩, l⟩, ?_, I₂.os, I₂.gens⟩
    · rcases List.mem_append.mp hp with hp | hp
      · exact N' p (.tail _ (by rw [e]; exact List.mem_append_left _ hp))
      · rw [List.mem_singleton.mp hp]
        have z := N' _ (.head _)
        refine ⟨?_, z.2⟩
        have z1 := z.1
        rw [Int.toNat_natCast] at z1
        rw [if_neg (by simp), foldl_one] at z1
        simpa using z1
    · have nd := I₂.nd
      rw [List.map_append, List.map_cons, List.map_nil] at nd ⊢
      rw [List.nodup_append] at nd ⊢
      refine ⟨nd.1, List.nodup_cons.mpr ⟨List.not_mem_nil, List.nodup_nil⟩, fun a ha b hb e' => ?_⟩
      rw [List.mem_singleton] at hb
      rw [relH_keys Hu] at ha
      obtain ⟨p, hp, rfl⟩ := List.mem_map.mp ha
      exact hnx p hp (e'.trans hb)
/-- list + list -/
theorem Ex_addl {l r : Expr} {pos : Pos} {xs ys : List PV} {P P' : PV → Ld → Prop} (hl : Ex C lc ld l P) (h : ∀ q ld', P q ld' → ∃ x, q = .v (.ref x) ∧ Ex C lc ld' r (fun q' ld'' => ∃ y, q' = .v (.ref y) ∧ (x, PO.sq "list" xs) ∈ ld'' ∧ (y, PO.sq "list" ys) ∈ ld'' ∧ ∃ ex, ld'' = ld ++ ex)) (hz : xs.length + ys.length ≤ 2 ^ 20) :
    Ex C lc ld (.BinOp l .Add r pos) (fun q ld' => ∃ y, q = .v (.ref y) ∧ ld' = ld ++ [(y, .sq "list" (xs ++ ys))]) := fun ok s I Q E k => by
  rw [eval_BinOp]
  refine N_bind (hl ok s I _ _ fun v q ld' s₁ I₁ rv hq => N_bind (N_holding ?_))
  obtain ⟨x, rfl, hr⟩ := h q ld' hq
  have rv : v = .ref x := rv
  subst rv
  refine hr ok s₁ I₁ _ _ fun u q' ld'' s₂ I₂ ru hq' => N_bind (N_standAt (N_operate (N_any ?_)))
  obtain ⟨y, rfl, hx, hy, ex, rfl⟩ := hq'
  have ru : u = .ref y := ru
  subst ru
  obtain ⟨ob, hob, vs, c, rl, rfl⟩ := I₂.at_ hx
  obtain ⟨ob', hob', us, c', rl', rfl⟩ := I₂.at_ hy
  refine PySem.P.add_list hob hob' ?_ (by rw [List.size_toArray, List.size_toArray, ← relL_len rl, ← relL_len rl', sizeLine_eq]; omega)
  refine k _ (.v (.ref s₂.heap.objs.size)) _ _ ((I₂.sub (List.sublist_append_left _ _) (List.Perm.refl _)).growE (t := s₂.toks) (o := .sq "list" (xs ++ ys)) (fun b o e => Heap.get?_push_of_some _ e) (fresh_none _) (Heap.get?_push_size _ rfl) ⟨vs ++ us, 0, relL_app rl rl', by simp⟩) rfl ⟨_, rfl, rfl⟩
/-- reversed(l) as a loop's source -/
theorem Sc_reversed {x : Str} {xp pos : Pos} {e : Expr} {l : Addr} {xs : List PV} (hx : Ea C lc ld (.Name x xp) (.v (.type "reversed"))) (he : Ev C lc ld e (.v (.ref l))) (hm : (l, PO.sq "list" xs) ∈ ld) (hs : isStar e = false := by with_unfolding_all rfl) :
    Sc C lc ld (.Call (.Name x xp) [e] [] pos) xs.length (fun i => xs.getD (xs.length - 1 - i) (.v .none)) [(l, .sq "list" xs)] := fun ok s I Q E k => by
  have hb : Bi C (.type "reversed") [.v (.ref l)] ld (fun p ld' => ∃ x, p = .v (.ref x) ∧ ld' = ld ++ [(x, rvO l ((xs.length : Int) - 1 - (0 : Nat)))]) := fun ok lc s I vs rs Q E q => by
    obtain ⟨v, rfl, r⟩ := relL_1 rs
    next =>
      have r : v = .ref l := r
      subst r
      obtain ⟨us, hl, rl⟩ := isList_at I hm
      refine N_any (call_reversed_list hl ?_)
      refine q _ (.v (.ref s.heap.objs.size)) _ _ (I.growE (t := s.toks) (o := rvO l ((xs.length : Int) - 1 - (0 : Nat))) (fun b o e => Heap.get?_push_of_some _ e) (fresh_none _) (Heap.get?_push_size _ rfl) ⟨rfl, ?_⟩) rfl ⟨_, rfl, rfl⟩
      show Data.fields _ = _
      rw [List.size_toArray, ← relL_len rl]
      have e : (xs.length : Int) - 1 - ((0 : Nat) : Int) = xs.length - 1 := by omega
      rw [e]
  refine Ex_bi1 hx he hb hs rfl ok s I _ _ fun v p ld' s₁ I₁ r hp => ?_
  obtain ⟨y, rfl, rfl⟩ := hp
  have r : v = .ref y := r
  subst r
  have W : Wk y _ _ _ _ := Wk.rev (l := l) (it := y) (xs := xs)
  exact N_any (W.self C ok lc ld [] s₁ I₁ Q E (k y _ s₁ W I₁))
end
section
variable {C : Cn} {lc : Lc} {ld : Ld}
section
variable {prog : Program} {w : World} {A : Around} {E : Value → Shared → Prop} {s : Shared}
/-- o[:b], o a tuple longer than b -/
theorem getTup_to {t sl : Addr} {items : Array Value} {a : Nat} {u : Tok} {Q : Value → Shared → Prop} (ht : IsTup s.heap t items) (hs : s.heap.IsSliceOf sl .none (.int a u) .none) (ha : a < items.size) (hz : items.size ≤ sizeLine)
    (h : Q (.ref s.heap.objs.size) { s with heap := s.heap.push { cls := .type "tuple", data := .seq (items.toList.take a).toArray } }) : wpAny (model prog w) A (getItem (.ref t) (.ref sl)) Q E s := by
  obtain ⟨os, hos, hcs, hds⟩ := id hs
  have hTs : s.TypeIs (.ref sl) "slice" := ⟨os, hos, hcs⟩
  refine wpAny_getItem_slot ht.typeIs (by decide) slot_tuple_getitem (wpAny_call_entry slot_tuple_getitem ht.typeIs entry_tuple_getitem ?_ (args_tuple_getitem _ _))
  show wpAny _ _ (Builtin.Tuple.tupleItemsOf (.ref t) >>= _) _ _ s
  refine wpAny_bind (tupleItemsOf_ ht ?_)
  refine wpAny_bind (wpAny_typeOf hTs ?_)
  rw [if_pos (by decide)]
  have hap : wpAny (model prog w) A.in1 (Builtin.Slice.sliceApplied (.ref sl) (pure (items.size : Int))) (fun r s' => r = ((0 : Int), (1 : Int), a) ∧ s' = s) (fun _ _ => False) s := by
    unfold Builtin.Slice.sliceApplied Builtin.Slice.sliceFields
    refine wpAny_bind (wpAny_bind (wpAny_field hos hds (x := .none) rfl (wpAny_bind (wpAny_field hos hds (x := .int a u) rfl (wpAny_bind (wpAny_field hos hds (x := .none) rfl (wpAny_pure ?_)))))))
    refine wpAny_bind (slicePart_none ?_)
    show wpAny _ _ (if ((1 : Int) == 0) = true then _ else _) _ _ s
    rw [if_neg (by decide)]
    refine wpAny_bind (slicePart_none (wpAny_bind (slicePart_int (wpAny_bind (wpAny_pure ?_)))))
    have e1 : Builtin.Slice.sliceAdjust none (some (a : Int)) 1 (items.size : Int) = (0, (a : Int)) := by
      unfold Builtin.Slice.sliceAdjust
      have h1 : ¬ ((1 : Int) < 0) := by omega
      have h2 : ¬ ((a : Int) < 0) := by omega
      simp only [h1, h2, if_false]
      congr 1
      omega
    have e2 : Builtin.Slice.slicePlaces 0 (a : Int) 1 = a := by
      unfold Builtin.Slice.slicePlaces
      have h1 : (1 : Int) > 0 := by omega
      simp only [h1, if_true, Int.ediv_one]
      split <;> omega
    show wpAny _ _ (match Builtin.Slice.sliceAdjust none (some (a : Int)) 1 (items.size : Int) with | (lo, hi) => pure (lo, (1 : Int), Builtin.Slice.slicePlaces lo hi 1)) _ _ s
    rw [e1]
    show wpAny _ _ (pure ((0 : Int), (1 : Int), Builtin.Slice.slicePlaces 0 (a : Int) 1)) _ _ s
    rw [e2]
    exact wpAny_pure ⟨rfl, rfl⟩
  refine wpAny_bind (wpAny_mono hap (fun r s' hr => ?_) fun _ _ x => x.elim)
  obtain ⟨rfl, rfl⟩ := hr
  have hno : ¬ (((0 : Int) == 0 && (1 : Int) == 1 && a == items.size) = true) := by simp; omega
  show wpAny _ _ (if ((0 : Int) == 0 && (1 : Int) == 1 && a == items.size) = true then _ else _) _ _ s'
  rw [if_neg hno]
  have e3 : ((List.range a).filterMap fun (k : Nat) => items[((0 : Int) + (k : Int) * 1).toNat]?).toArray = (items.toList.take a).toArray := by
    have e : (fun (k : Nat) => items[((0 : Int) + (k : Int) * 1).toNat]?) = fun k => items[0 + k]? := by
      funext k
      have : ((0 : Int) + (k : Int) * 1).toNat = 0 + k := by omega
      rw [this]
    rw [e]
    have := pick_run items 0 a
    rw [List.filterMap_map] at this
    have e2 : ((fun x => items[x]?) ∘ fun x => 0 + x) = fun k => items[0 + k]? := rfl
    rw [e2] at this
    rw [this, List.drop_zero]
  rw [e3]
  have hdrop : sizeOk (.seq (items.toList.take a).toArray) := by
    show (items.toList.take a).toArray.size ≤ sizeLine
    rw [List.size_toArray, List.length_take]; omega
  refine wpAny_bind (m := Builtin.Tuple.tupleExact _) (wpAny_newObj_type (wpAny_pure ?_) hdrop)
  exact ⟨_, rfl, h⟩
/-- range(n)[::-1] -/
theorem getRg_rev {r sl : Addr} {n : Nat} {t u v z : Tok} {Q : Value → Shared → Prop} (hr : IsRange s.heap r 0 n 1 t u v) (hs : s.heap.IsSliceOf sl .none .none (.int (-1) z)) (hn : n ≤ 2 ^ 20)
    (h : ∀ t u v k, Q (.ref s.heap.objs.size) { s with heap := s.heap.push { cls := .type "range", data := .fields #[.int ((n : Int) - 1) t, .int (-1) u, .int (-1) v] }, toks := k }) : wpAny (model prog w) A (getItem (.ref r) (.ref sl)) Q E s := by
  obtain ⟨os, hos, hcs, hds⟩ := id hs
  have hTs : s.TypeIs (.ref sl) "slice" := ⟨os, hos, hcs⟩
  have hT : s.TypeIs (.ref r) "range" := ⟨_, hr, rfl⟩
  refine wpAny_getItem_slot hT (by decide) F.slot_range_getitem (wpAny_call_entry F.slot_range_getitem hT F.entry_range_getitem ?_ (F.args_range_getitem_2 _ _))
  unfold Builtin.«range.__getitem__»
  refine wpAny_bind (wpAny_of_eq (a := (Value.ref r, [Value.ref sl])) rfl ?_)
  dsimp only
  unfold Builtin.Range.rangeFields
  refine wpAny_bind (wpAny_bind (wpAny_field hr rfl (x := .int 0 t) rfl (wpAny_bind (wpAny_of_eq (a := some (0 : Int)) rfl (wpAny_bind (wpAny_field hr rfl (x := .int n u) rfl (wpAny_bind (wpAny_of_eq (a := some (n : Int)) rfl (wpAny_bind (wpAny_field hr rfl (x := .int 1 v) rfl (wpAny_bind (wpAny_of_eq (a := some (1 : Int)) rfl (wpAny_pure ?_)))))))))))))
  dsimp only
  rw [rs_one]
  refine wpAny_bind (wpAny_typeOf hTs ?_)
  rw [if_pos (by decide)]
  unfold Builtin.Slice.sliceFields
  refine wpAny_bind (wpAny_bind (wpAny_field hos hds (x := .none) rfl (wpAny_bind (wpAny_field hos hds (x := .none) rfl (wpAny_bind (wpAny_field hos hds (x := .int (-1) z) rfl (wpAny_pure ?_)))))))
  dsimp only
  refine wpAny_bind (slicePart_int ?_)
  show wpAny _ _ (if ((-1 : Int) == 0) = true then _ else _) _ _ s
  rw [if_neg (by decide)]
  refine wpAny_bind (slicePart_none (wpAny_bind (slicePart_none ?_)))
  have e1 : Builtin.Slice.sliceAdjust none none (-1) (n : Int) = ((n : Int) - 1, -1) := by
    unfold Builtin.Slice.sliceAdjust
    have h1 : ((-1 : Int) < 0) := by omega
    simp only [h1, if_true]
  simp only [Option.getD_some, e1]
  refine wpAny_bind (wpAny_roomForPylong (.inl (PyProof.noPylong_small (by decide))) ?_)
  have small : ∀ x : Int, x.natAbs ≤ 2 ^ 21 → ∀ (s : Shared) (Q : Value → Shared → Prop) (E : Value → Shared → Prop), Q (.int x s.toks) { s with toks := s.toks + 1 } → wpAny (model prog w) A.in1 (mkIntGrown x) Q E s := fun x hx s Q E hq => by
    unfold mkIntGrown
    have hb : ¬ (x.natAbs.log2 ≥ bitsLine) := by
      rw [bitsLine_eq]
      have : x.natAbs.log2 ≤ x.natAbs := Nat.log2_le_self _
      omega
    rw [if_neg hb]
    exact wpAny_mkInt hq
  refine wpAny_bind (small (0 + ((n : Int) - 1) * 1) (by omega) _ _ _ (wpAny_bind (small (0 + (-1) * 1) (by omega) _ _ _ (wpAny_bind (small (1 * (-1)) (by omega) _ _ _ ?_)))))
  refine wpAny_bind (wpAny_newObj_type (wpAny_pure ⟨_, rfl, ?_⟩))
  have q1 : (0 : Int) + ((n : Int) - 1) * 1 = (n : Int) - 1 := by omega
  have q2 : (0 : Int) + (-1) * 1 = -1 := by omega
  have q3 : (1 : Int) * (-1) = -1 := by omega
  rw [q1, q2, q3]
  exact h _ _ _ _
end
theorem Ex_stup {o b : Expr} {slp pos : Pos} {x : Addr} {xs : List PV} {hi : Nat} (ho : Ev C lc ld o (.v (.ref x))) (hb : Ev C lc ld b (.i hi)) (hm : (x, PO.sq "tuple" xs) ∈ ld) (hz : xs.length ≤ 2 ^ 20) (hl : hi < xs.length) :
    Ex C lc ld (.Subscript o (.Slice none (some b) none slp) pos) (fun p ld' => ∃ y, p = .v (.ref y) ∧ ld' = ld ++ [(y, .sq "tuple" (xs.take hi))]) := fun ok s I Q E k => by
  refine N_sub (ho ok s I _ _ fun v s₁ I₁ r => ?_)
  have r : v = .ref x := r
  subst r
  refine N_sliceTo ok I₁ hb fun y u s₂ I₂ hsl pu hu => ?_
  obtain ⟨tk, rfl⟩ := hu
  obtain ⟨vs, hl', rl⟩ := isTup_at I₂ hm
  have e := relL_len rl
  refine ⟨"tuple", _, hl'.typeIs, slot_tuple_getitem.lookup, getTup_to hl' hsl (by rw [List.size_toArray]; omega) (by rw [List.size_toArray, ← e, sizeLine_eq]; omega) ?_⟩
  exact k _ (.v (.ref s₂.heap.objs.size)) _ _ (I₂.growE (t := s₂.toks) (o := .sq "tuple" (xs.take hi)) (fun b o e => Heap.get?_push_of_some _ e) (fresh_none _) (Heap.get?_push_size _ rfl) ⟨vs.take hi, 0, relL_take _ rl, by simp⟩) rfl ⟨_, rfl, rfl⟩
theorem rs_down (n : Nat) : Builtin.Range.rangeSize ((n : Int) - 1) (-1) (-1) = n := by
  unfold Builtin.Range.rangeSize
  rw [if_neg (by decide)]
  have e : -(-1 : Int) = 1 := by decide
  rw [e, Int.ediv_one]
  split <;> omega
theorem small_down {n : Nat} (hn : n ≤ 2 ^ 20) : Builtin.Range.small ((n : Int) - 1) (-1) (-1) = true := by
  unfold Builtin.Range.small
  rw [rs_down]
  simp only [Builtin.Range.rangeFitsLong, Bool.and_eq_true, Bool.or_eq_true, decide_eq_true_eq, beq_iff_eq]
  refine ⟨⟨⟨⟨?_, ?_⟩, ?_⟩, ?_⟩, .inr ?_⟩
  · omega
  · omega
  · omega
  · omega
  · rw [if_neg (by decide)]
    simp only [decide_eq_true_eq, Bool.and_eq_true]
    omega
/-- range(e)[::-1] as a loop's source -/
theorem Sc_rev {x : Str} {xp pos slp sp : Pos} {e st : Expr} {n : Nat} (hx : Ea C lc ld (.Name x xp) (.v (.type "range"))) (h1 : Ev C lc ld e (.i n)) (hst : ∀ ld', Ev C lc ld' st (.i (-1))) (hn : n ≤ 2 ^ 20) (hs : isStar e = false := by with_unfolding_all rfl) :
    Sc C lc ld (.Subscript (.Call (.Name x xp) [e] [] pos) (.Slice none none (some st) slp) sp) n (fun i => .i (((n : Int) - 1) + (i : Nat) * (-1))) [] := by
  refine Sc_rg ?_ (rs_down n) (small_down hn)
  refine fun ok s I Q E k => N_sub (Ex_bi1 hx h1 bi_range1 hs rfl ok s I _ _ fun v p ld' s₁ I₁ r hp => ?_)
  obtain ⟨y, rfl, rfl⟩ := hp
  have r : v = .ref y := r
  subst r
  rw [arm_eval_Slice]
  refine N_bind (N_pure (N_bind (N_holding (N_pure (N_bind (N_holding (hst _ ok s₁ I₁ _ _ fun vb s₂ I₂ ⟨tb, rb⟩ => ?_)))))))
  subst rb
  unfold newFields
  refine N_any (wpAny_newObj_type ?_ (by show 3 ≤ sizeLine + 2; rw [sizeLine_eq]; decide))
  have I₃ := I₂.keep (t := s₂.toks) (h' := s₂.heap.push { cls := .type "slice", dict := none, data := .fields [Value.none, .none, .int (-1) tb].toArray }) (fun a o e => Heap.get?_push_of_some _ e)
  obtain ⟨ob, hob, t, u, w, rfl⟩ := I₃.at_ (x := y) (o := rgO 0 n 1) (by simp)
  have hT : ({ s₂ with heap := s₂.heap.push { cls := .type "slice", dict := none, data := .fields [Value.none, .none, .int (-1) tb].toArray } } : Shared).TypeIs (.ref y) "range" := ⟨_, hob, rfl⟩
  refine ⟨"range", _, hT, F.slot_range_getitem.lookup, getRg_rev hob ⟨_, Heap.get?_push_size _ rfl, rfl, rfl⟩ hn fun t u w kk => ?_⟩
  exact k _ (.v (.ref _)) _ _ ((I₃.sub (List.sublist_append_left _ _) (List.Perm.refl _)).growE (t := kk) (o := rgO ((n : Int) - 1) (-1) (-1)) (fun b o e => Heap.get?_push_of_some _ e) (fresh_none _) (Heap.get?_push_size _ rfl) ⟨_, _, _, rfl⟩) rfl ⟨_, rfl, rfl⟩
end
def cellO : Option PV → PO
  | some p => .cell p
  | none => .is fun o => o.data = .cell none
def cellLd (cs : List (Str × Addr)) (cv : Str → Option PV) : Ld := cs.map fun x => (x.2, cellO (cv x.1))
theorem cellO_cell {v : Option PV} : ∀ ob, relO (cellO v) ob → ∃ u, ob.data = .cell u := fun ob h => by
  cases v with
  | none => exact ⟨none, h⟩
  | some p => obtain ⟨u, _, e, _⟩ := h; exact ⟨_, e⟩
theorem relE_cell {p : Option PV} {v : Option Value} {o : Obj} (r : relE p v) (hd : o.data = .cell v) : relO (cellO p) o := by
  cases p with
  | none =>
    cases v with
    | none => exact hd
    | some _ => exact r.elim
  | some p =>
    cases v with
    | none => exact r.elim
    | some v =>
      refine ⟨v, r, hd, ?_⟩
      cases o; cases hd; rfl
theorem cells_rel {cm : Str → Option Value} {cv : Str → Option PV} (h : ∀ n, relE (cv n) (cm n)) : ∀ {cs : List (Str × Addr)} {cells : List (Addr × Obj)}, CellsAre cm cs cells → relH (cellLd cs cv) cells
  | _, _, .nil => trivial
  | _, _, .cons hd X => ⟨rfl, relE_cell (h _) hd, cells_rel h X⟩
theorem bindL_get (kindOf : Str → Option NameKind) (x : Str) : ∀ (l : List (Str × Value)) (m : Str → Option Value), (l.map (·.1)).Nodup → bindL kindOf l m x = ((if kindOf x = some .local then l.lookup x else none).or (m x))
  | [], m, _ => by simp [bindL]
  | (n, v) :: r, m, h => by
    rw [List.map_cons, List.nodup_cons] at h
    rw [bindL, bindL_get kindOf x r _ h.2]
    by_cases e : x = n
    · subst e
      have hn : r.lookup x = none := by
        rw [List.lookup_eq_none_iff]
        intro p hp
        exact bne_iff_ne.mpr fun q => h.1 (List.mem_map.mpr ⟨p, hp, q.symm⟩)
      by_cases hk : kindOf x = some .local
      · simp [hk, hn]
      · simp [hk]
    · have hb : (x == n) = false := beq_eq_false_iff_ne.mpr e
      rw [List.lookup_cons, hb]
      by_cases hk : kindOf n = some .local
      · rw [if_pos hk]; simp [e]
      · rw [if_neg hk]
theorem bindC_get (kindOf : Str → Option NameKind) (x : Str) : ∀ (l : List (Str × Value)) (m : Str → Option Value), (l.map (·.1)).Nodup → bindC kindOf l m x = ((if kindOf x = some .local then none else l.lookup x).or (m x))
  | [], m, _ => by simp [bindC]
  | (n, v) :: r, m, h => by
    rw [List.map_cons, List.nodup_cons] at h
    rw [bindC, bindC_get kindOf x r _ h.2]
    by_cases e : x = n
    · subst e
      have hn : r.lookup x = none := by
        rw [List.lookup_eq_none_iff]
        intro p hp
        exact bne_iff_ne.mpr fun q => h.1 (List.mem_map.mpr ⟨p, hp, q.symm⟩)
      by_cases hk : kindOf x = some .local
      · simp [hk]
      · simp [hk, hn]
    · have hb : (x == n) = false := beq_eq_false_iff_ne.mpr e
      rw [List.lookup_cons, hb]
      by_cases hk : kindOf n = some .local
      · rw [if_pos hk]
      · rw [if_neg hk]; simp [e]
theorem zip_get {names : List Str} : ∀ {ps : List PV} {vs : List Value}, relL ps vs → ∀ x, relE ((names.zip ps).lookup x) ((names.zip vs).lookup x) := by
  induction names with
  | nil => intro ps vs _ x; exact trivial
  | cons n ns ih =>
    intro ps vs h x
    cases ps with
    | nil => cases vs with
      | nil => exact trivial
      | cons _ _ => exact h.elim
    | cons p ps => cases vs with
      | nil => exact h.elim
      | cons v vs =>
        rw [List.zip_cons_cons, List.zip_cons_cons, List.lookup_cons, List.lookup_cons]
        cases x == n with
        | true => exact h.1
        | false => exact ih h.2 x
/-- the cells' values at a def's start -/
def cellV (scope : Scope) (names : List Str) (ps : List PV) (x : Str) : Option PV := if scope.names.lookup x = some .local then none else (names.zip ps).lookup x
/-- fewer objects behind a call -/
theorem Fn.less {f : Addr} {k : Nat} {ps : List PV} {ld : Ld} {P P' : PV → Ld → Prop} (h : Fn f k ps ld P) (hP : ∀ p ld', P p ld' → ∃ (l ld₀ : Ld), l.Sublist ld' ∧ l.Perm ld₀ ∧ P' p ld₀) : Fn f k ps ld P' := fun C ok hk lc s I vs hv R r =>
  h C ok hk lc s I vs hv R fun v p ld' s' I' rv hp => by
    obtain ⟨l, ld₀, a, b, c⟩ := hP p ld' hp
    exact r v p ld₀ s' (I'.sub a b) rv c
/-- a def whose arguments are all given, some of its names cells -/
theorem Fn_introC {f : Addr} {k : Nat} {ps : List PV} {ld : Ld} {P : PV → Ld → Prop} {name qual : Str} {params : Arguments} {body : List Stmt} {scope : Scope} {dV kV doc pm cdv ct oc : Value} {an od : Option Addr} {osl : Array (Option Value)} (names : List Str) (lc₀ : Lc)
    (ho : ∀ P, (frag P).lookup f = some ⟨oc, od, .func (fnOf name qual params body scope dV kV doc pm an cdv ct), osl⟩) (hcd : ∀ P, codeIn (frag P) cdv qual = true)
    (hbind : ∀ vs, vs.length = ps.length → bindArgs (fnOf name qual params body scope dV kV doc pm an cdv ct) ⟨vs, []⟩ = pure (names.zip vs))
    (hloc : (names.all fun x => scope.names.lookup x == some .local || scope.names.lookup x == some .cell) = true) (hn : names.Nodup) (hlc : ∀ x p, lc₀.lookup x = some p → scope.names.lookup x = some .local ∧ (names.zip ps).lookup x = some p)
    (hnd : ((cellsFrom 0 scope.names []).map (·.1)).Nodup)
    (hb : ∀ (w : World) (A : Around) (h₀ : Heap) (L : Addr) (mg mb : Str → Option Value) (os : OsState) (gens : Array GenState) (k' : Nat), k ≤ k' →
      Bl ⟨qual ++ ".<locals>.", scope, some f, cdv, some L, cellsFrom (L + 1) scope.names [], w, A, h₀, L, mg, mb, os, gens, k'⟩ lc₀ (cellLd (cellsFrom (L + 1) scope.names []) (cellV scope names ps) ++ ld) body (Out P))
    (hco : scope.isCoroutine = false := by rfl) (hgen : scope.isGenerator = false := by rfl) (hk : scope.kind = .function := by rfl) : Fn f (k + 1) ps ld P := fun C ok hk1 lc s I vs hv R r => by
  refine St.el I fun m news F N H l nd os gens => ?_
  obtain ⟨st, lv⟩ := ground1 (R := R) F N
  have X := ok.X.keeps F.keep
  obtain ⟨k', hk'⟩ : ∃ k', C.k = k' + 1 := ⟨C.k - 1, by omega⟩
  have RM : Room C.A (k' + 1) := hk' ▸ ok.R
  have hbd := hbind vs (relL_len hv).symm
  have hkeys : ((names.zip vs).map (·.1)).Nodup := List.Sublist.nodup (zip_keys names vs) hn
  refine codeN_call_function RM.lt (X _ _ (ho _)) rfl hco hgen rfl (codeRec_of X (hcd _)) (BindsTo.of_eq hbd _ _ _ _ ?_)
  refine wpAny_newFunctionEnv_cells hk (kindsX (List.all_eq_true.mpr fun y hy => List.all_eq_true.mp hloc y.1 (List.of_mem_zip hy).1) _) fun env' he s' x => ?_
  subst he
  refine ⟨(ok.T.nolimit.keeps F.keep).keeps x.toInCall.keep, codeN_func ?_⟩
  obtain ⟨h₁, tk, rfl, _⟩ := x.done
  have hk₁ := x.toInCall.keep
  obtain ⟨cells, NC, Y⟩ := Cl.news (h₀ := s.heap) (Nat.le_refl _) fun n c hm => ⟨x.cell n c (lookup_of_mem_nodup (cellsFrom_names scope.names 0 (s.heap.objs.size + 1) [] [] rfl ▸ hnd) hm), x.above n c hm⟩
  have ok' : Cn.Ok ⟨qual ++ ".<locals>.", scope, some f, cdv, some s.heap.objs.size, cellsFrom (s.heap.objs.size + 1) scope.names [], C.w, C.A.deeper (envOfC qual scope s.heap.objs.size f cdv), hideAll s.heap (news.map (·.1)), s.heap.objs.size, C.mg, C.mb, C.os, C.gens, k'⟩ :=
    ⟨ok.X.keeps st, ok.T.keeps st, RM.down, hk⟩
  have HC : relH (cellLd (cellsFrom (s.heap.objs.size + 1) scope.names []) (cellV scope names ps)) cells := cells_rel (fun n => by
    rw [bindC_get _ _ _ _ hkeys, Option.or_none]
    unfold cellV
    show relE _ (if scope.names.lookup n = some .local then none else (names.zip vs).lookup n)
    by_cases q : scope.names.lookup n = some .local
    · rw [if_pos q, if_pos q]; exact trivial
    · rw [if_neg q, if_neg q]; exact zip_get hv n) Y
  refine hb C.w _ _ _ C.mg C.mb C.os C.gens k' (by omega) ok' { s with heap := h₁, toks := tk } ⟨⟨_, cells ++ news, ⟨x.toInCall.ns, fun b o e => hk₁ b o (of_hideAll _ e), Nat.le_of_eq (hideAll_size _ _)⟩,
    fun p hp => ?_, relH_mk HC H, fun y p hy => ?_⟩, ?_, os, gens⟩ _ _ ?_
  · rcases List.mem_append.mp hp with hp | hp
    · refine ⟨(NC p hp).1, (NC p hp).2.1, ?_⟩
      cases q : (hideAll s.heap (news.map (·.1))).get? p.1 with
      | none => rfl
      | some o => have := of_hideAll _ q; rw [(NC p hp).2.2] at this; cases this
    · exact ⟨hk₁ _ _ (N p hp).1, Nat.ne_of_lt (Heap.lt_size (N p hp).1), hideAll_none _ (List.mem_map_of_mem hp)⟩
  · obtain ⟨q1, q2⟩ := hlc y p hy
    have z := zip_get (names := names) hv y
    rw [q2] at z
    obtain ⟨v, e, rv⟩ := relE_some z
    refine ⟨v, ?_, rv⟩
    rw [bindL_get _ _ _ _ hkeys, Option.or_none]
    show (if scope.names.lookup y = some .local then (names.zip vs).lookup y else none) = some v
    rw [if_pos q1, e]
  · rw [List.map_append, List.nodup_append]
    refine ⟨?_, nd, fun a ha b hb e => ?_⟩
    · have ap := x.apart
      unfold cellLd
      rw [List.map_map]
      show ((cellsFrom (s.heap.objs.size + 1) scope.names []).map fun x => x.2).Nodup
      exact List.pairwise_map.mpr ap
    · subst e
      rw [relH_keys HC] at ha
      rw [relH_keys H] at hb
      obtain ⟨p, hp, rfl⟩ := List.mem_map.mp ha
      obtain ⟨q, hq, e⟩ := List.mem_map.mp hb
      have z := (NC p hp).2.2
      rw [← e, (N q hq).1] at z; cases z
  · intro fl fa lc' ld' s' I' rf hP
    refine St.el I' fun m' news' F' N' H' l' nd' os' gens' => ?_
    have fin : ∀ v p, rel p v → P p ld' → R (.ok (.ret v)) s' := fun v p rv hp => lv v s' ⟨_, _, _, F', N', fun F₂ N₂ => r v p ld' s' ⟨⟨m, news', F₂, N₂, H', l⟩, nd', os', gens'⟩ rv hp⟩
    cases fa with
    | next => cases fl <;> first | exact rf.elim | exact fin _ (.v .none) rfl hP
    | ret p => cases fl <;> first | exact rf.elim | exact fin _ _ rf hP
    | cont => exact hP.elim
    | brk => exact hP.elim
open PySem.Builtin
theorem tl_ba_bytes : typeLookup (.type "bytearray") "__bytes__" = pure none := by rw [typeLookup_type, builtinLookup_eq_fast]; kernel_rfl
theorem tl_ba_index : typeLookup (.type "bytearray") "__index__" = pure none := by rw [typeLookup_type, builtinLookup_eq_fast]; kernel_rfl
theorem sub_ba_str : isSubtype (.type "bytearray") (.type "str") = pure false := by rw [isSubtype_type]; kernel_rfl
theorem es_unp : entryFor table "_struct.unpack" = some Builtin.«_struct.unpack» := by first | exact entryFor_of_tree (by kernel_rfl) | exact entryFor_of_fast (by kernel_rfl)
theorem kind_unp : builtinKind "_struct.unpack" = none := by decide +kernel
theorem plain_unp : plainId "_struct.unpack" = true := by decide +kernel
theorem args_unp (a b : Value) : argsOk "_struct.unpack" ⟨[a, b], []⟩ := by unfold argsOk; kernel_rfl
section
variable {prog : Program} {w : World} {A : Around} {E : Value → Shared → Prop} {s : Shared} {d : Addr} {b : Array UInt8}
theorem bytesLike_by {i : String} {t : Tok} {Q : Array UInt8 → Shared → Prop} (h : Q b s) : wpAny (model prog w) A (Bytes.bytesLike i (.bytes b t)) Q E s := by
  unfold Bytes.bytesLike
  exact wpAny_bind (buffer_bytes (wpAny_pure h))
end
theorem bm_new_ba {prog : Program} {w : World} {A : Around} {E : Value → Shared → Prop} {s : Shared} {d : Addr} {b : Array UInt8} {Q : Value → Shared → Prop} (hd : IsBa s.heap d b) (hz : b.size ≤ sizeLine) (h : ∀ t k, Q (.bytes b t) { s with toks := k }) :
    codeAny (model prog w) A.in1 (.call (.builtin "bytes.__new__") ⟨[.type "bytes", .ref d], []⟩) (wants Q E) s := by
  refine codeAny_of_tree ?_
  show wpAny _ A.in1.in1 (do checkBuiltinCall "bytes.__new__" ⟨[.type "bytes", .ref d], []⟩; again (.builtin "bytes.__new__" ⟨[.type "bytes", .ref d], []⟩)) _ _ s
  refine wpAny_bind (wpAny_of_eq (F.bm_newCall _) (wpAny_pure ⟨plainId_quiet F.bm_plain _, codeAny_builtin F.bm_entry ?_⟩))
  rw [Around.under_plainId F.bm_plain _]
  unfold Builtin.«bytes.__new__»
  refine wpAny_bind (wpAny_of_eq (a := true) rfl ?_)
  refine bm_if_false rfl ?_
  refine wpAny_bind (wpAny_of_eq F.bm_sub ?_)
  refine bm_if_false rfl ?_
  refine wpAny_bind (wpAny_of_eq (F.bm_bind _) ?_)
  refine wpAny_bind (wpAny_of_eq (a := ()) rfl ?_)
  refine wpAny_bind (wpAny_of_eq (a := ()) rfl ?_)
  refine bm_if_false rfl ?_
  refine wpAny_bind (wpAny_specialOf hd.type tl_ba_bytes ?_)
  refine wpAny_bind (wpAny_bind ?_)
  show wpAny _ _ (load d >>= _) _ _ _
  refine wpAny_bind (wpAny_load hd ?_)
  refine wpAny_pure (wpAny_pure ?_)
  refine bm_if_false rfl ?_
  refine wpAny_bind (wpAny_specialOf hd.type tl_ba_index ?_)
  refine bm_if_true rfl ?_
  first
    | show wpAny _ _ (Builtin.Bytes.buffer? "bytes.__new__" (.ref d) true >>= _) _ _ _
    | (refine wpAny_bind ?_; show wpAny _ _ (Builtin.Bytes.buffer? "bytes.__new__" (.ref d) true >>= _) _ _ _)
  refine wpAny_bind (buffer_ba hd ?_)
  dsimp only
  refine wpAny_bind (wpAny_rule (wpAny_bind (wpAny_mkBytes ?_ hz)))
  exact wpAny_of_eq (a := PySem.Fin.done (.ret (.bytes b s.toks))) (by with_unfolding_all rfl) (h _ _)
section
variable {C : Cn} {lc : Lc} {ld : Ld}
/-- unpack('>BBBB', b'LAWS') -/
theorem bi_unp : Bi C (.builtin "_struct.unpack") [.s ">BBBB", .y [76, 65, 87, 83]] ld (fun p ld' => ∃ x, p = .v (.ref x) ∧ ld' = ld ++ [(x, .sq "tuple" [.i 76, .i 65, .i 87, .i 83])]) := fun ok lc s I vs rs Q E q => by
  obtain ⟨v, u, rfl, ⟨t, r⟩, ⟨t', r'⟩⟩ := relL_2 rs
  next =>
    subst r r'
    refine N_any (call_function_entry kind_unp plain_unp es_unp (args_unp _ _) ?_)
    unfold Builtin.«_struct.unpack»
    refine wpAny_bind (wpAny_of_eq (a := ()) rfl ?_)
    refine wpAny_bind (wpAny_of_eq (a := ()) (by kernel_rfl) ?_)
    dsimp only [List.headD_cons, List.getD_cons_zero, List.getD_cons_succ]
    refine wpAny_bind (wpAny_of_eq (a := (⟨true, false, [⟨'B', 1, 0, 1⟩, ⟨'B', 1, 1, 1⟩, ⟨'B', 1, 2, 1⟩, ⟨'B', 1, 3, 1⟩], 4, 4⟩ : Struct.Format)) (by kernel_rfl) ?_)
    unfold Struct.unpackExact
    refine wpAny_bind (bytesLike_by (wpAny_bind (wpAny_pure ?_)))
    refine aifN (by decide) ?_
    unfold Struct.unpacked
    simp only [List.forIn_cons, List.forIn_nil, Std.Legacy.Range.forIn_eq_forIn_range', List.range', Std.Legacy.Range.size]
    repeat (first | with_reducible refine wpAny_mkInt ?_ | with_reducible refine wpAny_newTuple (hsz := ?hz) ?_ | refine aifN (by decide) ?_ | refine wpAny_bind ?_ | refine wpAny_pure ?_ | dsimp only)
    case hz => exact (by decide : 4 ≤ 2 ^ 24)
    refine ⟨_, rfl, q _ (.v (.ref s.heap.objs.size)) _ _ (I.growE (t := s.toks + 1 + 1 + 1 + 1) (o := .sq "tuple" [.i 76, .i 65, .i 87, .i 83]) (fun b o e => Heap.get?_push_of_some _ e) (fresh_none _) (Heap.get?_push_size _ rfl) ⟨[.int 76 s.toks, .int 65 (s.toks + 1), .int 87 (s.toks + 1 + 1), .int 83 (s.toks + 1 + 1 + 1)], 0, ⟨⟨_, rfl⟩, ⟨_, rfl⟩, ⟨_, rfl⟩, ⟨_, rfl⟩, trivial⟩, ?_⟩) rfl ⟨_, rfl, rfl⟩⟩
    rfl
/-- bytes(o), o a bytearray -/
theorem bi_bytes {d : Addr} {bs : List UInt8} (hm : (d, PO.ba bs) ∈ ld) (hz : bs.length ≤ 2 ^ 20) : Bi C (.type "bytes") [.v (.ref d)] ld (fun p ld' => p = .y bs ∧ ld' = ld) := fun ok lc s I vs rs Q E q => by
  obtain ⟨v, rfl, r⟩ := relL_1 rs
  next =>
    have r : v = .ref d := r
    subst r
    obtain ⟨ob, hob, rfl⟩ := I.at_ hm
    refine N_any (callType_codes (Q₁ := fun obj s₁ => s₁.TypeIs obj "bytes" ∧ Q obj s₁) F.bm_called (F.bm_typeCall _) F.entry_object_init
      (bm_new_ba (b := bs.toArray) hob (by rw [List.size_toArray, sizeLine_eq]; omega) fun t k => ⟨PySem.W.typeIs_bytes _ _ _, q _ (.y bs) ld _ I.tok ⟨t, rfl⟩ ⟨rfl, rfl⟩⟩) fun obj s₁ h₁ => ?_)
    exact ⟨h₁.1, F.args_object_init_2 obj _, object_init_meets F.bm_called.init.lookup F.bm_called.made (by decide) pw C.w C.A.in1 _ s₁ ⟨h₁.1, rfl, h₁.2⟩⟩
end
section
variable {C : Cn} {lc : Lc} {ld : Ld} {l r : Expr} {pos : Pos} {a b : Int}
theorem Ev.cast {e : Expr} (h : Ev C lc ld e (.i a)) (q : a = b) : Ev C lc ld e (.i b) := q ▸ h
theorem Ev_modp (hl : Ev C lc ld l (.i a)) (hr : Ev C lc ld r (.i b)) (hb : 0 < b) : Ev C lc ld (.BinOp l .Mod r pos) (.i (a % b)) :=
  (Ev_mod hl hr (by omega)).cast (Int.fmod_eq_emod_of_nonneg a (by omega))
theorem Ev_divp (hl : Ev C lc ld l (.i a)) (hr : Ev C lc ld r (.i b)) (hb : 0 < b) (hs : b < 1073741824) : Ev C lc ld (.BinOp l .FloorDiv r pos) (.i (a / b)) :=
  (Ev_div hl hr (by omega) (by omega)).cast (Int.fdiv_eq_ediv_of_nonneg a (by omega))
theorem Ev_max {x y : Expr} {xp : Pos} (h1 : Ev C lc ld x (.i a)) (h2 : Ev C lc ld y (.i b)) (hx : C.env.kindOf "max" = some .globalImplicit) (hs : isStar x = false := by with_unfolding_all rfl) (hs' : isStar y = false := by with_unfolding_all rfl) : Ev C lc ld (.Call (.Name "max" xp) [x, y] [] pos) (.i (max a b)) :=
  (Ev_bi2 (Ea_bi b_max (by kernel_rfl) (by decide) hx) h1 h2 bi_max2 hs hs' rfl).cast (by split <;> omega)
theorem Ev_lenl {x : Expr} {xp : Pos} {l : Addr} {xs : List PV} (h1 : Ev C lc ld x (.v (.ref l))) (hm : (l, PO.sq "list" xs) ∈ ld) (hz : xs.length ≤ 2 ^ 20) (hx : C.env.kindOf "len" = some .globalImplicit) (hs : isStar x = false := by with_unfolding_all rfl) : Ev C lc ld (.Call (.Name "len" xp) [x] [] pos) (.i xs.length) :=
  Ev_bi1 (Ea_bi b_len (by kernel_rfl) (by decide) hx) h1 (bi_lenl hm hz) hs rfl
theorem Ea_rng {xp : Pos} (hx : C.env.kindOf "range" = some .globalImplicit) : Ea C lc ld (.Name "range" xp) (.v (.type "range")) := Ea_bi b_range (by kernel_rfl) (by decide) hx
/-- expressions in a row that leave all as it is -/
inductive Evs (C : Cn) (lc : Lc) (ld : Ld) : List Expr → List PV → Prop
  | nil : Evs C lc ld [] []
  | cons {e : Expr} {p : PV} {es : List Expr} {ps : List PV} : isStar e = false → Ev C lc ld e p → Evs C lc ld es ps → Evs C lc ld (e :: es) (p :: ps)
theorem Ag_evs {es : List Expr} {ps : List PV} (h : Evs C lc ld es ps) : Ag C lc ld es (fun qs ld' => qs = ps ∧ ld' = ld) := by
  induction h with
  | nil => exact Ag_end ⟨rfl, rfl⟩
  | cons hs he _ ih => exact Ag_cons he.ex (fun p ld' ⟨a, b⟩ => by subst a b; exact fun ok s I pos Q E k => ih ok s I pos Q E fun vs qs ld' s' I' r ⟨a, b⟩ => k vs qs ld' s' I' r ⟨by rw [a], b⟩) hs
theorem Ex_tupE {es : List Expr} {j : Nat} {ps : List PV} (h : Evs C lc ld es ps) (hl : ps.length ≤ 2 ^ 20 := by first | exact (by decide : 2 ≤ 2 ^ 20) | exact (by decide : 3 ≤ 2 ^ 20) | exact (by decide : 5 ≤ 2 ^ 20)) : Ex C lc ld (.Tuple es j pos) (fun p ld' => ∃ x, p = .v (.ref x) ∧ ld' = ld ++ [(x, .sq "tuple" ps)]) :=
  (Ex_tup (Ag_evs h) (fun qs ld' ⟨a, _⟩ => by rw [a]; exact hl)).mono fun p ld' ⟨x, qs, ld₁, ⟨a, b⟩, c, d⟩ => ⟨x, c, by rw [d, a, b]⟩
theorem Ex_listE {es : List Expr} {ps : List PV} (h : Evs C lc ld es ps) (hl : ps.length ≤ 2 ^ 20 := by first | exact (by decide : 0 ≤ 2 ^ 20) | exact (by decide : 1 ≤ 2 ^ 20)) : Ex C lc ld (.List es pos) (fun p ld' => ∃ x, p = .v (.ref x) ∧ ld' = ld ++ [(x, .sq "list" ps)]) :=
  (Ex_list (Ag_evs h) (fun qs ld' ⟨a, _⟩ => by rw [a]; exact hl)).mono fun p ld' ⟨x, qs, ld₁, ⟨a, b⟩, c, d⟩ => ⟨x, c, by rw [d, a, b]⟩
/-- a built-in on one expression -/
theorem Ex_bix {x : Str} {xp pos : Pos} {e : Expr} {f : Value} {P P' : PV → Ld → Prop} (hx : Ea C lc ld (.Name x xp) (.v f)) (h1 : Ex C lc ld e P) (hb : ∀ p ld', P p ld' → Bi C f [p] ld' P') (hs : isStar e = false := by with_unfolding_all rfl) (hm : machineOk f = true := by rfl) : Ex C lc ld (.Call (.Name x xp) [e] [] pos) P' :=
  Ex_bi hx (Ag_cons (P' := fun ps ld' => ∃ p, ps = [p] ∧ P p ld') h1 (fun p ld' hp => Ag_end ⟨p, rfl, hp⟩) hs) (fun ps ld' ⟨p, a, hp⟩ => by subst a; exact hb p ld' hp) hm (by rw [List.all_cons, hs]; rfl)
theorem Bl_eq {ld ld' : Ld} {b : List Stmt} {K : Fl → Lc → Ld → Prop} (h : Bl C lc ld' b K) (e : ld = ld' := by simp only [List.append_assoc, List.cons_append, List.nil_append]) : Bl C lc ld b K := e ▸ h
end
/-- what a contract says, taken apart at once -/
theorem elA10 {β : Type} {α0 : Type} {v : α0 → β} {l : α0 → Ld} {G : β → Ld → Prop} (h : ∀ x0, G (v x0) (l x0)) : ∀ p ld', (∃ x0, p = v x0 ∧ ld' = l x0) → G p ld' := by
  rintro _ _ ⟨x0, rfl, rfl⟩; exact h x0
theorem elA11 {β : Type} {α0 : Type} {v : α0 → β} {l : α0 → Ld} {H0 : α0 → Prop} {G : β → Ld → Prop} (h : ∀ x0, H0 x0 → G (v x0) (l x0)) : ∀ p ld', (∃ x0, p = v x0 ∧ H0 x0 ∧ ld' = l x0) → G p ld' := by
  rintro _ _ ⟨x0, rfl, h0, rfl⟩; exact h x0 h0
theorem elA20 {β : Type} {α0 : Type} {α1 : Type} {v : α0 → α1 → β} {l : α0 → α1 → Ld} {G : β → Ld → Prop} (h : ∀ x0 x1, G (v x0 x1) (l x0 x1)) : ∀ p ld', (∃ x0 x1, p = v x0 x1 ∧ ld' = l x0 x1) → G p ld' := by
  rintro _ _ ⟨x0, x1, rfl, rfl⟩; exact h x0 x1
theorem elA21 {β : Type} {α0 : Type} {α1 : Type} {v : α0 → α1 → β} {l : α0 → α1 → Ld} {H0 : α0 → α1 → Prop} {G : β → Ld → Prop} (h : ∀ x0 x1, H0 x0 x1 → G (v x0 x1) (l x0 x1)) : ∀ p ld', (∃ x0 x1, p = v x0 x1 ∧ H0 x0 x1 ∧ ld' = l x0 x1) → G p ld' := by
  rintro _ _ ⟨x0, x1, rfl, h0, rfl⟩; exact h x0 x1 h0
theorem elA22 {β : Type} {α0 : Type} {α1 : Type} {v : α0 → α1 → β} {l : α0 → α1 → Ld} {H0 : α0 → α1 → Prop} {H1 : α0 → α1 → Prop} {G : β → Ld → Prop} (h : ∀ x0 x1, H0 x0 x1 → H1 x0 x1 → G (v x0 x1) (l x0 x1)) : ∀ p ld', (∃ x0 x1, p = v x0 x1 ∧ H0 x0 x1 ∧ H1 x0 x1 ∧ ld' = l x0 x1) → G p ld' := by
  rintro _ _ ⟨x0, x1, rfl, h0, h1, rfl⟩; exact h x0 x1 h0 h1
theorem elA30 {β : Type} {α0 : Type} {α1 : Type} {α2 : Type} {v : α0 → α1 → α2 → β} {l : α0 → α1 → α2 → Ld} {G : β → Ld → Prop} (h : ∀ x0 x1 x2, G (v x0 x1 x2) (l x0 x1 x2)) : ∀ p ld', (∃ x0 x1 x2, p = v x0 x1 x2 ∧ ld' = l x0 x1 x2) → G p ld' := by
  rintro _ _ ⟨x0, x1, x2, rfl, rfl⟩; exact h x0 x1 x2
theorem elA31 {β : Type} {α0 : Type} {α1 : Type} {α2 : Type} {v : α0 → α1 → α2 → β} {l : α0 → α1 → α2 → Ld} {H0 : α0 → α1 → α2 → Prop} {G : β → Ld → Prop} (h : ∀ x0 x1 x2, H0 x0 x1 x2 → G (v x0 x1 x2) (l x0 x1 x2)) : ∀ p ld', (∃ x0 x1 x2, p = v x0 x1 x2 ∧ H0 x0 x1 x2 ∧ ld' = l x0 x1 x2) → G p ld' := by
  rintro _ _ ⟨x0, x1, x2, rfl, h0, rfl⟩; exact h x0 x1 x2 h0
theorem elA34 {β : Type} {α0 : Type} {α1 : Type} {α2 : Type} {v : α0 → α1 → α2 → β} {l : α0 → α1 → α2 → Ld} {H0 : α0 → α1 → α2 → Prop} {H1 : α0 → α1 → α2 → Prop} {H2 : α0 → α1 → α2 → Prop} {H3 : α0 → α1 → α2 → Prop} {G : β → Ld → Prop} (h : ∀ x0 x1 x2, H0 x0 x1 x2 → H1 x0 x1 x2 → H2 x0 x1 x2 → H3 x0 x1 x2 → G (v x0 x1 x2) (l x0 x1 x2)) : ∀ p ld', (∃ x0 x1 x2, p = v x0 x1 x2 ∧ H0 x0 x1 x2 ∧ H1 x0 x1 x2 ∧ H2 x0 x1 x2 ∧ H3 x0 x1 x2 ∧ ld' = l x0 x1 x2) → G p ld' := by
  rintro _ _ ⟨x0, x1, x2, rfl, h0, h1, h2, h3, rfl⟩; exact h x0 x1 x2 h0 h1 h2 h3
theorem elA35 {β : Type} {α0 : Type} {α1 : Type} {α2 : Type} {v : α0 → α1 → α2 → β} {l : α0 → α1 → α2 → Ld} {H0 : α0 → α1 → α2 → Prop} {H1 : α0 → α1 → α2 → Prop} {H2 : α0 → α1 → α2 → Prop} {H3 : α0 → α1 → α2 → Prop} {H4 : α0 → α1 → α2 → Prop} {G : β → Ld → Prop} (h : ∀ x0 x1 x2, H0 x0 x1 x2 → H1 x0 x1 x2 → H2 x0 x1 x2 → H3 x0 x1 x2 → H4 x0 x1 x2 → G (v x0 x1 x2) (l x0 x1 x2)) : ∀ p ld', (∃ x0 x1 x2, p = v x0 x1 x2 ∧ H0 x0 x1 x2 ∧ H1 x0 x1 x2 ∧ H2 x0 x1 x2 ∧ H3 x0 x1 x2 ∧ H4 x0 x1 x2 ∧ ld' = l x0 x1 x2) → G p ld' := by
  rintro _ _ ⟨x0, x1, x2, rfl, h0, h1, h2, h3, h4, rfl⟩; exact h x0 x1 x2 h0 h1 h2 h3 h4
theorem elA44 {β : Type} {α0 : Type} {α1 : Type} {α2 : Type} {α3 : Type} {v : α0 → α1 → α2 → α3 → β} {l : α0 → α1 → α2 → α3 → Ld} {H0 : α0 → α1 → α2 → α3 → Prop} {H1 : α0 → α1 → α2 → α3 → Prop} {H2 : α0 → α1 → α2 → α3 → Prop} {H3 : α0 → α1 → α2 → α3 → Prop} {G : β → Ld → Prop} (h : ∀ x0 x1 x2 x3, H0 x0 x1 x2 x3 → H1 x0 x1 x2 x3 → H2 x0 x1 x2 x3 → H3 x0 x1 x2 x3 → G (v x0 x1 x2 x3) (l x0 x1 x2 x3)) : ∀ p ld', (∃ x0 x1 x2 x3, p = v x0 x1 x2 x3 ∧ H0 x0 x1 x2 x3 ∧ H1 x0 x1 x2 x3 ∧ H2 x0 x1 x2 x3 ∧ H3 x0 x1 x2 x3 ∧ ld' = l x0 x1 x2 x3) → G p ld' := by
  rintro _ _ ⟨x0, x1, x2, x3, rfl, h0, h1, h2, h3, rfl⟩; exact h x0 x1 x2 x3 h0 h1 h2 h3
theorem elA45 {β : Type} {α0 : Type} {α1 : Type} {α2 : Type} {α3 : Type} {v : α0 → α1 → α2 → α3 → β} {l : α0 → α1 → α2 → α3 → Ld} {H0 : α0 → α1 → α2 → α3 → Prop} {H1 : α0 → α1 → α2 → α3 → Prop} {H2 : α0 → α1 → α2 → α3 → Prop} {H3 : α0 → α1 → α2 → α3 → Prop} {H4 : α0 → α1 → α2 → α3 → Prop} {G : β → Ld → Prop} (h : ∀ x0 x1 x2 x3, H0 x0 x1 x2 x3 → H1 x0 x1 x2 x3 → H2 x0 x1 x2 x3 → H3 x0 x1 x2 x3 → H4 x0 x1 x2 x3 → G (v x0 x1 x2 x3) (l x0 x1 x2 x3)) : ∀ p ld', (∃ x0 x1 x2 x3, p = v x0 x1 x2 x3 ∧ H0 x0 x1 x2 x3 ∧ H1 x0 x1 x2 x3 ∧ H2 x0 x1 x2 x3 ∧ H3 x0 x1 x2 x3 ∧ H4 x0 x1 x2 x3 ∧ ld' = l x0 x1 x2 x3) → G p ld' := by
  rintro _ _ ⟨x0, x1, x2, x3, rfl, h0, h1, h2, h3, h4, rfl⟩; exact h x0 x1 x2 x3 h0 h1 h2 h3 h4
theorem elA50 {β : Type} {α0 : Type} {α1 : Type} {α2 : Type} {α3 : Type} {α4 : Type} {v : α0 → α1 → α2 → α3 → α4 → β} {l : α0 → α1 → α2 → α3 → α4 → Ld} {G : β → Ld → Prop} (h : ∀ x0 x1 x2 x3 x4, G (v x0 x1 x2 x3 x4) (l x0 x1 x2 x3 x4)) : ∀ p ld', (∃ x0 x1 x2 x3 x4, p = v x0 x1 x2 x3 x4 ∧ ld' = l x0 x1 x2 x3 x4) → G p ld' := by
  rintro _ _ ⟨x0, x1, x2, x3, x4, rfl, rfl⟩; exact h x0 x1 x2 x3 x4
theorem elF00 {β : Type} {v : β} {l : Ld} {G : β → Ld → Prop} (h : G v (l)) : ∀ p ld', (p = v ∧ ld' = l) → G p ld' := by
  rintro _ _ ⟨rfl, rfl⟩; exact h
theorem elF10 {β : Type} {α0 : Type} {v : β} {l : α0 → Ld} {G : β → Ld → Prop} (h : ∀ x0, G v (l x0)) : ∀ p ld', (p = v ∧ ∃ x0, ld' = l x0) → G p ld' := by
  rintro _ _ ⟨rfl, x0, rfl⟩; exact h x0
theorem elF21 {β : Type} {α0 : Type} {α1 : Type} {v : β} {l : α0 → α1 → Ld} {H0 : α0 → α1 → Prop} {G : β → Ld → Prop} (h : ∀ x0 x1, H0 x0 x1 → G v (l x0 x1)) : ∀ p ld', (p = v ∧ ∃ x0 x1, H0 x0 x1 ∧ ld' = l x0 x1) → G p ld' := by
  rintro _ _ ⟨rfl, x0, x1, h0, rfl⟩; exact h x0 x1 h0
theorem elF22 {β : Type} {α0 : Type} {α1 : Type} {v : β} {l : α0 → α1 → Ld} {H0 : α0 → α1 → Prop} {H1 : α0 → α1 → Prop} {G : β → Ld → Prop} (h : ∀ x0 x1, H0 x0 x1 → H1 x0 x1 → G v (l x0 x1)) : ∀ p ld', (p = v ∧ ∃ x0 x1, H0 x0 x1 ∧ H1 x0 x1 ∧ ld' = l x0 x1) → G p ld' := by
  rintro _ _ ⟨rfl, x0, x1, h0, h1, rfl⟩; exact h x0 x1 h0 h1
theorem elF30 {β : Type} {α0 : Type} {α1 : Type} {α2 : Type} {v : β} {l : α0 → α1 → α2 → Ld} {G : β → Ld → Prop} (h : ∀ x0 x1 x2, G v (l x0 x1 x2)) : ∀ p ld', (p = v ∧ ∃ x0 x1 x2, ld' = l x0 x1 x2) → G p ld' := by
  rintro _ _ ⟨rfl, x0, x1, x2, rfl⟩; exact h x0 x1 x2
theorem elF31 {β : Type} {α0 : Type} {α1 : Type} {α2 : Type} {v : β} {l : α0 → α1 → α2 → Ld} {H0 : α0 → α1 → α2 → Prop} {G : β → Ld → Prop} (h : ∀ x0 x1 x2, H0 x0 x1 x2 → G v (l x0 x1 x2)) : ∀ p ld', (p = v ∧ ∃ x0 x1 x2, H0 x0 x1 x2 ∧ ld' = l x0 x1 x2) → G p ld' := by
  rintro _ _ ⟨rfl, x0, x1, x2, h0, rfl⟩; exact h x0 x1 x2 h0
theorem elF34 {β : Type} {α0 : Type} {α1 : Type} {α2 : Type} {v : β} {l : α0 → α1 → α2 → Ld} {H0 : α0 → α1 → α2 → Prop} {H1 : α0 → α1 → α2 → Prop} {H2 : α0 → α1 → α2 → Prop} {H3 : α0 → α1 → α2 → Prop} {G : β → Ld → Prop} (h : ∀ x0 x1 x2, H0 x0 x1 x2 → H1 x0 x1 x2 → H2 x0 x1 x2 → H3 x0 x1 x2 → G v (l x0 x1 x2)) : ∀ p ld', (p = v ∧ ∃ x0 x1 x2, H0 x0 x1 x2 ∧ H1 x0 x1 x2 ∧ H2 x0 x1 x2 ∧ H3 x0 x1 x2 ∧ ld' = l x0 x1 x2) → G p ld' := by
  rintro _ _ ⟨rfl, x0, x1, x2, h0, h1, h2, h3, rfl⟩; exact h x0 x1 x2 h0 h1 h2 h3
theorem elR {β : Type} {v : β} {H : Ld → Prop} {G : β → Ld → Prop} (h : ∀ ld', H ld' → G v ld') : ∀ p ld', (p = v ∧ H ld') → G p ld' := by
  rintro _ l ⟨rfl, q⟩; exact h l q
theorem elD43 {A B C D : Type} {H0 H1 H2 : A → B → C → D → Prop} {l : A → B → C → D → Ld} {G : Ld → Prop} (h : ∀ a b c d, H0 a b c d → H1 a b c d → H2 a b c d → G (l a b c d)) : ∀ ld', (∃ a b c d, H0 a b c d ∧ H1 a b c d ∧ H2 a b c d ∧ ld' = l a b c d) → G ld' := by
  rintro _ ⟨a, b, c, d, p, q, r, rfl⟩; exact h a b c d p q r
theorem elD21 {A B : Type} {H0 : A → B → Prop} {l : A → B → Ld} {G : Ld → Prop} (h : ∀ a b, H0 a b → G (l a b)) : ∀ ld', (∃ a b, H0 a b ∧ ld' = l a b) → G ld' := by
  rintro _ ⟨a, b, p, rfl⟩; exact h a b p
theorem elH22 {A B : Type} {H0 : PV → A → B → Prop} {H1 : A → B → Prop} {l : A → B → Ld} {G : PV → Ld → Prop} (h : ∀ p a b, H0 p a b → H1 a b → G p (l a b)) : ∀ p ld', (∃ a b, H0 p a b ∧ H1 a b ∧ ld' = l a b) → G p ld' := by
  rintro x _ ⟨a, b, p, q, rfl⟩; exact h x a b p q
theorem elE31 {A B C : Type} {H : A → B → C → Prop} {l : A → B → C → Ld} {G : Ld → Prop} (h : ∀ a b c, H a b c → G (l a b c)) : ∀ ld', (∃ a b c, ld' = l a b c ∧ H a b c) → G ld' := by
  rintro _ ⟨a, b, c, rfl, p⟩; exact h a b c p
theorem elE21 {A B : Type} {H : A → B → Prop} {l : A → B → Ld} {G : Ld → Prop} (h : ∀ a b, H a b → G (l a b)) : ∀ ld', (∃ a b, ld' = l a b ∧ H a b) → G ld' := by
  rintro _ ⟨a, b, rfl, p⟩; exact h a b p
theorem elP2 {A B : Type} {G : A × B → Prop} (h : ∀ a b, G (a, b)) : ∀ x, G x := by
  rintro ⟨a, b⟩; exact h a b
theorem elP3 {A B C : Type} {G : A × B × C → Prop} (h : ∀ a b c, G (a, b, c)) : ∀ x, G x := by
  rintro ⟨a, b, c⟩; exact h a b c
theorem elP4 {A B C D : Type} {G : A × B × C × D → Prop} (h : ∀ a b c d, G (a, b, c, d)) : ∀ x, G x := by
  rintro ⟨a, b, c, d⟩; exact h a b c d
theorem and2 {a0 a1 g : Prop} (x : a0 ∧ a1) (k : a0 → a1 → g) : g := by
  obtain ⟨x0, x1⟩ := x; exact k x0 x1
theorem and3 {a0 a1 a2 g : Prop} (x : a0 ∧ a1 ∧ a2) (k : a0 → a1 → a2 → g) : g := by
  obtain ⟨x0, x1, x2⟩ := x; exact k x0 x1 x2
theorem and4 {a0 a1 a2 a3 g : Prop} (x : a0 ∧ a1 ∧ a2 ∧ a3) (k : a0 → a1 → a2 → a3 → g) : g := by
  obtain ⟨x0, x1, x2, x3⟩ := x; exact k x0 x1 x2 x3
theorem and5 {a0 a1 a2 a3 a4 g : Prop} (x : a0 ∧ a1 ∧ a2 ∧ a3 ∧ a4) (k : a0 → a1 → a2 → a3 → a4 → g) : g := by
  obtain ⟨x0, x1, x2, x3, x4⟩ := x; exact k x0 x1 x2 x3 x4
theorem and6 {a0 a1 a2 a3 a4 a5 g : Prop} (x : a0 ∧ a1 ∧ a2 ∧ a3 ∧ a4 ∧ a5) (k : a0 → a1 → a2 → a3 → a4 → a5 → g) : g := by
  obtain ⟨x0, x1, x2, x3, x4, x5⟩ := x; exact k x0 x1 x2 x3 x4 x5
theorem and7 {a0 a1 a2 a3 a4 a5 a6 g : Prop} (x : a0 ∧ a1 ∧ a2 ∧ a3 ∧ a4 ∧ a5 ∧ a6) (k : a0 → a1 → a2 → a3 → a4 → a5 → a6 → g) : g := by
  obtain ⟨x0, x1, x2, x3, x4, x5, x6⟩ := x; exact k x0 x1 x2 x3 x4 x5 x6
theorem fn_assertNested {b dx : Addr} {S : BS} {r : Ld} (h : S.ne = true) : Fn 462 1 [.v (.ref b)] (B b dx S r) (fun p ld' => p = .v .none ∧ ld' = B b dx S r) := by
  refine Fn_intro ["self"] f462 c462 (by intro vs h; obtain ⟨a, rfl⟩ := len_1 h; rfl) (by decide +kernel) (by decide) ?_ (by kernel_rfl) (by kernel_rfl) (by kernel_rfl) (by decide +kernel)
  intros
  refine' Bl_if ?t ?a ?b
  case t => exact Tr_not (Tr_ev (Ea.ev (Ea_attr (Ea_loc (by with_unfolding_all rfl) (by kernel_rfl)) at_ne)) th_bool)
  case a => intro q; rw [h] at q; cases q
  case b => intro q; exact Bl_nil (Bl_nil ⟨rfl, rfl⟩)
theorem fn_assertNotNested {b dx : Addr} {S : BS} {r : Ld} (h : S.ne = false) : Fn 469 1 [.v (.ref b)] (B b dx S r) (fun p ld' => p = .v .none ∧ ld' = B b dx S r) := by
  refine Fn_intro ["self"] f469 c469 (by intro vs h; obtain ⟨a, rfl⟩ := len_1 h; rfl) (by decide +kernel) (by decide) ?_ (by kernel_rfl) (by kernel_rfl) (by kernel_rfl) (by decide +kernel)
  intros
  refine' Bl_if ?t ?a ?b
  case t => exact Tr_ev (Ea.ev (Ea_attr (Ea_loc (by with_unfolding_all rfl) (by kernel_rfl)) at_ne)) th_bool
  case a => intro q; rw [h] at q; cases q
  case b => intro q; exact Bl_nil (Bl_nil ⟨rfl, rfl⟩)
theorem fn_Offset {b dx : Addr} {S : BS} {r : Ld} (hz : (S.jk ++ S.tl).length < 2 ^ 40) : Fn 391 1 [.v (.ref b)] (B b dx S r) (fun p ld' => p = .i S.tl.length ∧ ld' = B b dx S r) := by
  refine Fn_intro ["self"] f391 c391 (by intro vs h; obtain ⟨a, rfl⟩ := len_1 h; rfl) (by decide +kernel) (by decide) ?_ (by kernel_rfl) (by kernel_rfl) (by kernel_rfl) (by decide +kernel)
  intros
  refine' Bl_ret ?he ?h
  case he => exact Ev_sub (Ev_lenba (Ea.ev (Ea_attr (Ea_loc (by with_unfolding_all rfl) (by kernel_rfl)) at_bytes)) (.tail _ (.tail _ (.head _))) hz (by kernel_rfl) (by with_unfolding_all rfl)) (Ea.ev (Ea_attr (Ea_loc (by with_unfolding_all rfl) (by kernel_rfl)) at_head))
  case h => exact ⟨by rw [List.length_append]; congr 1; omega, rfl⟩
theorem Ev_Offset {C : Cn} {lc : Lc} {b dx : Addr} {S : BS} {r : Ld} {o : Str} {op apos pos : Pos} (ho : Ea C lc (B b dx S r) (.Name o op) (.v (.ref b))) (hz : (S.jk ++ S.tl).length < 2 ^ 40) (hk : 1 ≤ C.k) (hp : methOk [] apos pos = true) :
    Ev C lc (B b dx S r) (.Call (.Attribute (.Name o op) "Offset" apos) [] [] pos) (.i S.tl.length) :=
  (Ex_m0 (fn_Offset hz) ho (.head _) (.tail _ (.head _)) m391 (by kernel_rfl) hk hp).ev fun _ _ h => h
local macro_rules | `(tactic| walk_at "gl") => `(tactic| first
  | with_reducible exact Ea_glob q_uo (by kernel_rfl) | with_reducible exact Ea_glob q_so (by kernel_rfl) | with_reducible exact Ea_glob q_vo (by kernel_rfl) | with_reducible exact Ea_glob q_u8 (by kernel_rfl) | with_reducible exact Ea_glob q_u16 (by kernel_rfl) | with_reducible exact Ea_glob q_u32 (by kernel_rfl) | with_reducible exact Ea_glob q_u64 (by kernel_rfl)
  | with_reducible exact Ea_glob q_i8 (by kernel_rfl) | with_reducible exact Ea_glob q_i16 (by kernel_rfl) | with_reducible exact Ea_glob q_i32 (by kernel_rfl) | with_reducible exact Ea_glob q_i64 (by kernel_rfl))
local macro_rules | `(tactic| walk_at "ea") => `(tactic| first
  | with_reducible exact Ea_int | with_reducible exact Ea_none | with_reducible exact Ea_bool | with_reducible exact Ea_bytes
  | with_reducible exact Ea_loc (by with_unfolding_all rfl) (by kernel_rfl) (by decide)
  | with_reducible exact Ea_cell (by with_unfolding_all rfl) (by walk_at "mem") (by kernel_rfl) (by decide)
  | with_reducible exact Ea_str
  | walk_at "gl"
  | ((with_reducible refine' Ea_attr ?x ?y); (case x => walk_at "ea"); (case y => walk_at "at")))
local macro_rules | `(tactic| walk_at "at") => `(tactic| first
  | with_reducible exact at_head | with_reducible exact at_bytes | with_reducible exact at_ma | with_reducible exact at_ne | with_reducible exact at_w | with_reducible exact at_lo | with_reducible exact at_hi | with_reducible exact at_packer)
local macro_rules | `(tactic| walk_at "side") => `(tactic| first | assumption | decide | ((with_reducible refine Nat.le_trans ?a ?b); (case b => with_reducible assumption); (case a => decide)) | omega | (dsimp only; omega) | skip)
local macro_rules | `(tactic| walk_at "ev") => `(tactic| first
  | ((with_reducible refine' Ea.ev ?x); (case x => walk_at "ea"))
  | ((with_reducible refine' Ev_add ?x ?y); (case x => walk_at "ev"); (case y => walk_at "ev"))
  | ((with_reducible refine' Ev_sub ?x ?y); (case x => walk_at "ev"); (case y => walk_at "ev"))
  | ((with_reducible refine' Ev_neg ?x); (case x => walk_at "ev"))
  | ((with_reducible refine' Ev_modp ?x ?y ?z); (case x => walk_at "ev"); (case y => walk_at "ev"); (case z => walk_at "side"))
  | ((with_reducible refine' Ev_divp ?x ?y ?z ?w); (case x => walk_at "ev"); (case y => walk_at "ev"); (case z => walk_at "side"); (case w => walk_at "side"))
  | ((with_reducible refine' Ev_mul ?x ?y ?z); (case x => walk_at "ev"); (case y => walk_at "ev"); (case z => walk_at "side"))
  | ((with_reducible refine' Ev_pow ?x ?y ?z ?w ?u); (case x => walk_at "ev"); (case y => walk_at "ev"); (case z => walk_at "side"); (case w => walk_at "side"); (case u => walk_at "side"))
  | ((with_reducible refine' Ev_inv ?x); (case x => walk_at "ev"))
  | ((with_reducible refine' Ev_zeros ?x ?y ?z ?w); (case x => walk_at "ev"); (case y => walk_at "ev"); (case z => walk_at "side"); (case w => walk_at "side"))
  | ((with_reducible refine' Ev_max ?x ?y (by kernel_rfl)); (case x => walk_at "ev"); (case y => walk_at "ev"))
  | ((with_reducible refine' Ev_lenba ?x ?m ?y (by kernel_rfl) (by with_unfolding_all rfl)); (case x => walk_at "ev"); (case m => walk_at "mem"); (case y => walk_at "side"))
  | ((with_reducible refine' Ev_lenl ?x ?m ?z (by kernel_rfl)); (case x => walk_at "ev"); (case m => walk_at "mem"); (case z => walk_at "side"))
  | ((with_reducible refine' Ev_itl ?x ?y ?m ?z ?w); (case x => walk_at "ev"); (case m => walk_at "mem"); (case y => walk_at "ev"); (case z => walk_at "side"); (case w => walk_at "idx"))
  | ((with_reducible refine' Ev_itt ?x ?y ?m ?z ?w); (case x => walk_at "ev"); (case m => walk_at "mem"); (case y => walk_at "ev"); (case z => walk_at "side"); (case w => walk_at "idx"))
  | ((with_reducible refine' Ev_Offset ?x ?y ?z (by with_unfolding_all rfl)); (case x => walk_at "ea"); (case y => walk_at "side"); (case z => walk_at "side")))
local macro_rules | `(tactic| walk_at "tr") => `(tactic| first
  | ((with_reducible refine' Tr_lt ?x ?y (by with_unfolding_all rfl)); (case x => walk_at "ev"); (case y => walk_at "ev"))
  | ((with_reducible refine' Tr_le ?x ?y (by with_unfolding_all rfl)); (case x => walk_at "ev"); (case y => walk_at "ev"))
  | ((with_reducible refine' Tr_gt ?x ?y (by with_unfolding_all rfl)); (case x => walk_at "ev"); (case y => walk_at "ev"))
  | ((with_reducible refine' Tr_eq ?x ?y (by with_unfolding_all rfl)); (case x => walk_at "ev"); (case y => walk_at "ev"))
  | ((with_reducible refine' Tr_not ?x); (case x => walk_at "tr"))
  | ((refine' Tr_ev ?x th_bool); (case x => walk_at "ev")))
local macro_rules | `(tactic| walk_at "intro") => `(tactic| (intro vs h; first | (obtain ⟨a, e⟩ := len_1 h; subst e; exact rfl) | (obtain ⟨a, b, e⟩ := len_2 h; subst e; exact rfl) | (obtain ⟨a, b, c, e⟩ := len_3 h; subst e; exact rfl) | (obtain ⟨a, b, c, d, e⟩ := len_4 h; subst e; exact rfl)))
local macro_rules | `(tactic| walk_at "mem") => `(tactic| first | assumption | with_unfolding_all exact List.Mem.head _ | (with_unfolding_all refine List.Mem.tail _ ?_; walk_at "mem") | (refine List.mem_append_right _ ?_; walk_at "mem") | (refine List.mem_append_left _ ?_; walk_at "mem"))
local macro_rules | `(tactic| walk_at "idx") => `(tactic| first | rfl | assumption | skip)
/-- self.a = e -/
theorem Bl_stb {C : Cn} {lc : Lc} {ld : Ld} {K : Fl → Lc → Ld → Prop} {rest : List Stmt} {o : Str} {op ap pos : Pos} {a : Str} {e : Expr} {P : PV → Ld → Prop} {x dx : Addr} (i : Nat) (he : Ex C lc ld e P) (hl : lc.lookup o = some (.v (.ref x))) (hk : C.env.kindOf o = some .local) (hok : ∀ P, slotOk (frag P) 721 a i = true)
    (h : ∀ p ld', P p ld' → ∃ sl r, ld' = (x, PO.ins 721 dx sl) :: (dx, .raw (dictOf [] 0)) :: r ∧ i < sl.length ∧ Bl C lc ((x, .ins 721 dx (sl.set i (some p))) :: (dx, .raw (dictOf [] 0)) :: r) rest K) (hd : (o == ("__debug__" : Str)) = false := by decide) (hi : i < 1000 := by decide)
    (hs : swapsWith e (some (.Attribute (.Name o op) a ap)) pos.line C.env = pure false := by with_unfolding_all rfl) : Bl C lc ld (.Assign [.Attribute (.Name o op) a ap] e pos :: rest) K :=
  Bl_sta (i := i) he (fun ld' => Ea_loc hl hk hd) (fun p ld' hp => by
    obtain ⟨sl, r, rfl, hl, hb⟩ := h p ld' hp
    exact ⟨[], _, sl, dictOf [] 0, rfl, .tail _ (.head _), hl, hb⟩) hi hok hs
theorem Bl_stv {C : Cn} {lc : Lc} {r : Ld} {K : Fl → Lc → Ld → Prop} {rest : List Stmt} {o : Str} {op ap pos : Pos} {a : Str} {e : Expr} {p : PV} {x dx : Addr} {sl : List (Option PV)} (i : Nat) (he : Ev C lc ((x, PO.ins 721 dx sl) :: (dx, .raw (dictOf [] 0)) :: r) e p) (hl : lc.lookup o = some (.v (.ref x))) (hk : C.env.kindOf o = some .local) (hok : ∀ P, slotOk (frag P) 721 a i = true)
    (hn : i < sl.length) (h : Bl C lc ((x, .ins 721 dx (sl.set i (some p))) :: (dx, .raw (dictOf [] 0)) :: r) rest K) (hd : (o == ("__debug__" : Str)) = false := by decide) (hi : i < 1000 := by decide)
    (hs : swapsWith e (some (.Attribute (.Name o op) a ap)) pos.line C.env = pure false := by with_unfolding_all rfl) : Bl C lc ((x, PO.ins 721 dx sl) :: (dx, .raw (dictOf [] 0)) :: r) (.Assign [.Attribute (.Name o op) a ap] e pos :: rest) K :=
  Bl_stb i he.ex hl hk hok (fun p' ld' ⟨a, b⟩ => by subst a b; exact ⟨sl, r, rfl, hn, h⟩) hd hi hs
/-- self.Bytes[a:b] = bytes -/
theorem Bl_slB {C : Cn} {lc : Lc} {r : Ld} {K : Fl → Lc → Ld → Prop} {rest : List Stmt} {o a b value : Expr} {sp slp pos : Pos} {y1 y2 : Addr × PO} {d : Addr} {bs v : List UInt8} {lo hi : Int} (hv : Ev C lc (y1 :: y2 :: (d, .ba bs) :: r) value (.y v)) (ho : Ev C lc (y1 :: y2 :: (d, .ba bs) :: r) o (.v (.ref d)))
    (ha : Ev C lc (y1 :: y2 :: (d, .ba bs) :: r) a (.i lo)) (hb : Ev C lc (y1 :: y2 :: (d, .ba bs) :: r) b (.i hi)) (h0 : 0 ≤ lo) (h1 : lo ≤ hi) (h2 : hi ≤ bs.length) (hl : (v.length : Int) = hi - lo) (hz : bs.length ≤ 2 ^ 20)
    (h : Bl C lc (y1 :: y2 :: (d, .ba (bs.take lo.toNat ++ v ++ bs.drop hi.toNat)) :: r) rest K)
    (hs : swapsWith value (some (.Subscript o (.Slice (some a) (some b) none slp) sp)) pos.line C.env = pure false := by with_unfolding_all rfl) :
    Bl C lc (y1 :: y2 :: (d, .ba bs) :: r) (.Assign [.Subscript o (.Slice (some a) (some b) none slp) sp] value pos :: rest) K :=
  Bl_slb (pre := [y1, y2]) hv ho ha hb h0 h1 h2 hl hz h hs
/-- n zeros ahead of what is written -/
abbrev BS.pad (S : BS) (n : Nat) : BS := { S with jk := S.jk.take (S.jk.length - n), tl := List.replicate n 0 ++ S.tl }
theorem fn_Pad {b dx : Addr} {S : BS} {r : Ld} {n : Nat} (hn : n ≤ S.jk.length) (hz : (S.jk ++ S.tl).length ≤ 2 ^ 20) : Fn 398 1 [.v (.ref b), .i n] (B b dx S r) (fun p ld' => p = .v .none ∧ ld' = B b dx (S.pad n) r) := by
  rw [List.length_append] at hz
  refine Fn_intro ["self", "n"] f398 c398 (by walk_at "intro") (by decide +kernel) (by decide) ?_ (by kernel_rfl) (by kernel_rfl) (by kernel_rfl) (by decide +kernel)
  intros
  refine' Bl_if ?t ?a ?b
  case t => walk_at "tr"
  case a =>
    intro q
    have h0 : n = 0 := by have := of_decide_eq_true q; omega
    subst h0
    refine Bl_retn ⟨rfl, ?_⟩
    simp [BS.pad]
  case b =>
    intro q
    refine Bl_nil ?_
    refine' Bl_asg ?e ?k1 (by kernel_rfl)
    case e => walk_at "ev"
    refine' Bl_slB ?v ?o ?l ?u ?h0 ?h1 ?h2 ?hl ?hz ?k2
    case v => walk_at "ev"
    case o => walk_at "ev"
    case l => walk_at "ev"
    case u => walk_at "ev"
    case h0 => omega
    case h1 => omega
    case h2 => simp; omega
    case hl => simp; omega
    case hz => simp; omega
    refine' Bl_stv 4 ?e3 (by with_unfolding_all rfl) (by kernel_rfl) so_head (by exact (by decide : 4 < 11)) ?k3
    case e3 => walk_at "ev"
    refine Bl_nil ⟨rfl, ?_⟩
    have e1 : ((S.jk.length : Int) - n).toNat = S.jk.length - n := by omega
    have e2 : ((S.jk.length : Int)).toNat = S.jk.length := by omega
    have e3 : (S.jk.length : Int) - n = ((S.jk.take (S.jk.length - n)).length : Nat) := by rw [List.length_take]; omega
    rw [e1, e2, e3, List.take_append_of_le_length (by omega), List.drop_append_of_le_length (by omega), List.drop_length, List.nil_append, List.append_assoc]
    rfl
theorem max_ok (P : Params) : (readsIn (frag P) 721 (.type "type") && isInt (clsVal (frag P) 721 "MAX_BUFFER_SIZE") 2147483648) = true := by kernel_rfl
theorem at_max {C : Cn} {lc : Lc} {ld : Ld} : At C lc ld (.v (.ref 721)) "MAX_BUFFER_SIZE" (.i 2147483648) := fun ok s I u r x Q E q => by
  subst r
  have h0 := max_ok C.w.params
  rw [Bool.and_eq_true] at h0
  obtain ⟨t, ht⟩ := isInt_of h0.2
  exact cls_value (I.keeps ok) h0.1 (clsVal_of ht) rfl (q _ _ I.tok ⟨t, rfl⟩)
local macro_rules | `(tactic| walk_at "max") => `(tactic| ((with_reducible refine' Ea.ev (Ea_attr ?x ?y)); (case x => with_reducible exact Ea_glob g721 (by kernel_rfl) (by decide)); (case y => with_reducible exact at_max)))
/-- the bytearray twice as long -/
theorem fn_Grow {b dx : Addr} {S : BS} {r : Ld} {h : Int} (hz : (S.jk ++ S.tl).length ≤ 2 ^ 18) : Fn 377 1 [.v (.ref b)] (BH b dx S h r) (fun p ld' => p = .v .none ∧ ∃ d', ld' = BH b dx { S with d := d', jk := List.replicate (max 1 (S.jk ++ S.tl).length) 0 ++ S.jk } h r) := by
  have hl := List.length_append (as := S.jk) (bs := S.tl)
  generalize hL : (S.jk ++ S.tl).length = len at *
  refine Fn_intro ["self"] f377 c377 (by walk_at "intro") (by decide +kernel) (by decide) ?_ (by kernel_rfl) (by kernel_rfl) (by kernel_rfl) (by decide +kernel)
  intros
  refine' Bl_if ?t1 ?a1 ?b1
  case t1 =>
    refine' Tr_eq ?x ?y (by with_unfolding_all rfl)
    case x => walk_at "ev"
    case y => walk_at "max"
  case a1 => intro q; rw [hL] at q; have := of_decide_eq_true q; omega
  case b1 =>
    intro _
    refine Bl_nil ?_
    refine' Bl_asg (Ev_bi2 (Ea_bi b_min (by kernel_rfl) (by decide) (by kernel_rfl)) ?e1 ?e2 bi_min2) ?k1 (by kernel_rfl)
    case e1 =>
      refine' Ev_mul ?x ?y ?z
      case x => walk_at "ev"
      case y => walk_at "ev"
      case z => left; decide
    case e2 => walk_at "max"
    have hmin : (if (2147483648 : Int) < ((S.jk ++ S.tl).length : Int) * 2 then 2147483648 else ((S.jk ++ S.tl).length : Int) * 2) = ((len + len : Nat) : Int) := by rw [hL, if_neg (by omega)]; omega
    rw [hmin]
    refine' Bl_ifj [("newSize", .i ((len + max 1 len : Nat) : Int)), ("self", .v (.ref b))] (BH b dx S h r) ?t2 ?a2 ?b2 ?c2
    case t2 => walk_at "tr"
    case a2 =>
      intro q
      have q := of_decide_eq_true q
      refine Bl_asg (Ea.ev Ea_int) (Bl_nil ⟨rfl, lsub_cons ?_ (lsub_cons (by with_unfolding_all rfl) lsub_nil), rfl⟩) (by kernel_rfl)
      rw [show len + max 1 len = 1 by omega]; rfl
    case b2 =>
      intro q
      have q := of_decide_eq_false q
      refine Bl_nil ⟨rfl, lsub_cons ?_ (lsub_cons (by with_unfolding_all rfl) lsub_nil), rfl⟩
      rw [show len + max 1 len = len + len by omega]; rfl
    case c2 =>
      refine' Bl_asgx (Ex_bi1 (Ea_bi b_bytearray (by kernel_rfl) (by decide) (by kernel_rfl)) ?e3 (bi_ba (n := len + max 1 len) (by omega))) ?k3 (by kernel_rfl)
      case e3 => walk_at "ev"
      refine elA10 ?_; intro a
      refine' Bl_slba (pre := BH b dx S h r) (post := []) (d := a) (d2 := S.d) (v := S.jk ++ S.tl) (lo := ((max 1 len : Nat) : Int)) ?v ?o ?l (by simp) (by omega) ?hl (by simp; omega) ?k4
      case v => change Ev _ _ (BH b dx S h (r ++ [_])) _ _; walk_at "ev"
      case o => change Ev _ _ (BH b dx S h (r ++ [_])) _ _; walk_at "ev"
      case l =>
        have e : ((max 1 len : Nat) : Int) = ((len + max 1 len : Nat) : Int) - ((S.jk ++ S.tl).length : Int) := by rw [hL]; omega
        rw [e]
        change Ev _ _ (BH b dx S h (r ++ [_])) _ _
        walk_at "ev"
      case hl => simp; omega
      change Bl _ _ ((b, .ins 721 dx (S.sh h)) :: (dx, .raw (dictOf [] 0)) :: (S.d, .ba (S.jk ++ S.tl)) :: (r ++ [(a, .ba _)])) _ _
      refine' Bl_stv 0 ?e4 (by with_unfolding_all rfl) (by kernel_rfl) so_Bytes (by exact (by decide : 0 < 11)) ?k5
      case e4 => walk_at "ev"
      refine Bl_sub (l := (b, .ins 721 dx ((S.sh h).set 0 (some (.v (.ref a))))) :: (dx, .raw (dictOf [] 0)) :: (r ++ [(a, .ba ((List.replicate (len + max 1 len) 0).take ((max 1 len : Nat) : Int).toNat ++ (S.jk ++ S.tl)))]))
        (ld' := BH b dx { S with d := a, jk := List.replicate (max 1 len) 0 ++ S.jk } h r) (.cons_cons _ (.cons_cons _ (.cons _ (List.Sublist.refl _)))) ?_ (Bl_nil ⟨rfl, a, rfl⟩)
      have e1 : (List.replicate (len + max 1 len) (0 : UInt8)).take ((max 1 len : Nat) : Int).toNat ++ (S.jk ++ S.tl) = List.replicate (max 1 len) 0 ++ S.jk ++ S.tl := by
        rw [Int.toNat_natCast, List.take_replicate, Nat.min_eq_left (by omega), List.append_assoc]
      rw [e1]
      exact (List.Perm.cons _ (List.Perm.cons _ (List.perm_append_singleton _ _)))
/-- a size or an alignment -/
def Pz (z : Int) : Prop := z = 1 ∨ z = 2 ∨ z = 4 ∨ z = 8 ∨ z = 16 ∨ z = 32
theorem band_zero (x : Int) : Builtin.bitAnd x 0 = 0 := by
  unfold Builtin.bitAnd
  by_cases h : 0 ≤ x <;> simp [h]
theorem band_pz {z : Int} (h : Pz z) (x : Int) : Builtin.bitAnd x (z - 1) = x % z := by
  rcases h with rfl | rfl | rfl | rfl | rfl | rfl
  · rw [show (1 : Int) - 1 = 0 from rfl, band_zero]; omega
  · exact bitAnd_m1 x
  · exact bitAnd_m2 x
  · exact bitAnd_m3 x
  · exact bitAnd_m4 x
  · exact bitAnd_m5 x
theorem Pz.pos {z : Int} (h : Pz z) : 1 ≤ z ∧ z ≤ 32 := by rcases h with rfl | rfl | rfl | rfl | rfl | rfl <;> decide
/-- how many zeros lie ahead of a thing of a octets, aligned to z, behind n octets -/
def gap (z : Int) (n a : Nat) : Nat := ((-((n : Int) + a)) % z).toNat
theorem gap_int {z : Int} (h : Pz z) (n a : Nat) : ((gap z n a : Nat) : Int) = (-((n : Int) + a)) % z := by
  have := h.pos
  exact Int.toNat_of_nonneg (Int.emod_nonneg _ (by omega))
theorem gap_lt {z : Int} (h : Pz z) (n a : Nat) : ((gap z n a : Nat) : Int) < z := by
  have := h.pos
  rw [gap_int h]; exact Int.emod_lt_of_pos _ (by omega)
abbrev BS.prep (S : BS) (d : Addr) (jk : List UInt8) (z : Int) (g : Nat) : BS := { S with d := d, ma := if S.ma < z then z else S.ma, jk := jk, tl := List.replicate g 0 ++ S.tl }
def kO (n : Nat) : Prop := n ≤ 2 ^ 18
theorem fn_Prep {b dx : Addr} {S : BS} {r : Ld} {z : Int} {a : Nat} (hP : Pz z) (hz : (S.jk ++ S.tl).length ≤ 2 ^ 18) (ht : S.tl.length + a ≤ 2 ^ 16) : Fn 405 2 [.v (.ref b), .i z, .i a] (B b dx S r)
    (fun p ld' => p = .v .none ∧ ∃ d jk, (z + a ≤ jk.length ∧ S.jk.length ≤ jk.length + gap z S.tl.length a) ∧ (jk ++ (List.replicate (gap z S.tl.length a) 0 ++ S.tl)).length ≤ 2 ^ 18 ∧ ld' = B b dx (S.prep d jk z (gap z S.tl.length a)) r) := by
  have hg1 := gap_int hP S.tl.length a
  have hg2 := gap_lt hP S.tl.length a
  have hp := hP.pos
  have hlen := List.length_append (as := S.jk) (bs := S.tl)
  generalize hg : gap z S.tl.length a = g at *
  refine Fn_intro ["self", "size", "additionalBytes"] f405 c405 (by walk_at "intro") (by decide +kernel) (by decide) ?_ (by kernel_rfl) (by kernel_rfl) (by kernel_rfl) (by decide +kernel)
  intro w A h₀ L mg mb os gens k' hk
  generalize hma : (if S.ma < z then z else S.ma) = ma
  refine' Bl_ifj [("self", .v (.ref b)), ("size", .i z), ("additionalBytes", .i a)] (B b dx { S with ma := ma } r) ?t1 ?a1 ?b1 ?c1
  case t1 => walk_at "tr"
  case a1 =>
    intro q
    have q := of_decide_eq_true q
    refine' Bl_stv 5 ?e1 (by with_unfolding_all rfl) (by kernel_rfl) so_minalign (by exact (by decide : 5 < 11)) ?k1
    case e1 => walk_at "ev"
    refine Bl_nil ⟨rfl, fun _ _ h => h, ?_⟩
    rw [← hma, if_pos q]; rfl
  case b1 =>
    intro q
    have q := of_decide_eq_false q
    refine Bl_nil ⟨rfl, fun _ _ h => h, ?_⟩
    rw [← hma, if_neg q]
  case c1 =>
    refine' Bl_asg ?e2 ?k2 (by kernel_rfl)
    case e2 => walk_at "ev"
    refine' Bl_asg ?e3 ?k3 (by kernel_rfl)
    case e3 => walk_at "ev"
    refine' Bl_asg ?e4 ?k4 (by kernel_rfl)
    case e4 => walk_at "ev"
    refine' Bl_aug (by with_unfolding_all rfl) ?e5 op_iand ?k5 (by kernel_rfl)
    case e5 => walk_at "ev"
    refine' Bl_asg ?e6 ?k6 (by kernel_rfl)
    case e6 => walk_at "ev"
    have hal : Builtin.bitAnd (Builtin.bitNot (((S.jk ++ S.tl).length : Int) - (S.jk.length : Int) + a) + 1) (z - 1) = g := by
      rw [band_pz hP, hg1, hlen]
      congr 1
      show -(((S.jk.length + S.tl.length : Nat) : Int) - (S.jk.length : Int) + a) - 1 + 1 = _
      omega
    simp only [hal]
    refine' Bl_wh (α := Addr × List UInt8) (fun x => [("head", .i x.2.length), ("buf_len", .i (x.2 ++ S.tl).length), ("needed", .i (g + z + a)), ("alignSize", .i g), ("self", .v (.ref b))]) (fun x => BH b dx { S with d := x.1, ma := ma, jk := x.2 } S.jk.length r)
      (fun x => ((g : Int) + z + a).toNat - x.2.length) (fun x => (x.2 ++ S.tl).length ≤ 2 ^ 18 ∧ S.jk.length ≤ x.2.length) ?turn (S.d, S.jk) ⟨hz, Nat.le_refl _⟩ ?l0 rfl
    case l0 => exact lsub_cons (by with_unfolding_all rfl) (lsub_cons (by with_unfolding_all rfl) (lsub_cons (by with_unfolding_all rfl) (lsub_cons (by with_unfolding_all rfl) (lsub_cons (by with_unfolding_all rfl) lsub_nil))))
    case turn =>
      rintro ⟨d, jk⟩ hJ
      dsimp only at hJ ⊢
      have hl2 := List.length_append (as := jk) (bs := S.tl)
      refine ⟨decide ((jk.length : Int) < g + z + a), ?tr, ?body, ?out⟩
      case tr => walk_at "tr"
      case body =>
        intro q
        have q := of_decide_eq_true q
        refine' Bl_asg ?e7 ?k7 (by kernel_rfl)
        case e7 => walk_at "ev"
        refine' Bl_ex (Ex_m0 (fn_Grow (S := { S with d := d, ma := ma, jk := jk }) (by dsimp only; omega)) ?o8 (.head _) (.tail _ (.head _)) m377 (by kernel_rfl) (by omega)) ?k8 (by kernel_rfl) (by with_unfolding_all rfl)
        case o8 => walk_at "ea"
        refine elF10 ?_; intro d'
        refine ⟨trivial, ?_⟩
        dsimp only
        have hl3 : (List.replicate (max 1 (jk ++ S.tl).length) (0 : UInt8) ++ jk ++ S.tl).length = max 1 (jk ++ S.tl).length + jk.length + S.tl.length := by
          rw [List.length_append, List.length_append, List.length_replicate]
        refine' Bl_asg ?e9 ?k9 (by kernel_rfl)
        case e9 => walk_at "ev"
        refine' Bl_aug (by with_unfolding_all rfl) ?e10 op_iadd ?k10 (by kernel_rfl)
        case e10 => walk_at "ev"
        have e : (jk.length : Int) + (((List.replicate (max 1 (jk ++ S.tl).length) (0 : UInt8) ++ jk ++ S.tl).length : Int) - ((jk ++ S.tl).length : Int)) = ((List.replicate (max 1 (jk ++ S.tl).length) (0 : UInt8) ++ jk).length : Nat) := by
          rw [hl3, List.length_append (as := List.replicate _ _), List.length_replicate]; omega
        refine Bl_nil ⟨.inl rfl, (d', List.replicate (max 1 (jk ++ S.tl).length) 0 ++ jk), ?_, ?_, ?_, rfl⟩
        · dsimp only
          rw [hl3]
          refine ⟨by omega, ?_⟩
          rw [List.length_append (as := List.replicate _ _)]; omega
        · dsimp only
          rw [List.length_append, List.length_replicate]
          exact Nat.sub_lt_sub_left (Int.lt_toNat.mpr q) (Nat.lt_add_of_pos_left (Nat.lt_of_lt_of_le Nat.zero_lt_one (Nat.le_max_left _ _)))
        · exact lsub_cons (by with_unfolding_all exact congrArg (fun n : Int => some (PV.i n)) e) (lsub_cons (by with_unfolding_all rfl) (lsub_cons (by with_unfolding_all rfl) (lsub_cons (by with_unfolding_all rfl) (lsub_cons (by with_unfolding_all rfl) lsub_nil))))
      case out =>
        intro q
        have q := of_decide_eq_false q
        refine' Bl_stv 4 ?e11 (by with_unfolding_all rfl) (by kernel_rfl) so_head (by exact (by decide : 4 < 11)) ?k11
        case e11 => walk_at "ev"
        change Bl _ _ (B b dx { S with d := d, ma := ma, jk := jk } r) _ _
        refine' Bl_ex (Ex_m1 (fn_Pad (S := { S with d := d, ma := ma, jk := jk }) (n := g) (by dsimp only; omega) (by dsimp only; omega)) ?o12 (.head _) (.tail _ (.head _)) m398 (by kernel_rfl) (by omega) ?e12) ?k12 (by kernel_rfl) (by with_unfolding_all rfl)
        case o12 => walk_at "ea"
        case e12 => walk_at "ev"
        refine elF00 ?_
        refine ⟨trivial, Bl_nil ⟨by trivial, d, jk.take (jk.length - g), ?_, ?_, ?_⟩⟩
        · rw [List.length_take]; omega
        · rw [List.length_append, List.length_take, List.length_append, List.length_replicate]; omega
        · subst hma; rfl
theorem fn_enf {k : FK} {ld : Ld} {n : Int} (h : k.lo ≤ n ∧ n ≤ k.hi) : Fn 214 1 [.i n, .v (.ref k.addr)] ld (fun p ld' => p = .v .none ∧ ld' = ld) := by
  refine Fn_intro ["n", "flags"] f214 c214 (by walk_at "intro") (by decide +kernel) (by decide) ?_ (by kernel_rfl) (by kernel_rfl) (by kernel_rfl) (by decide +kernel)
  intros
  refine' Bl_if (c := false && true) (Tr_and2 (Tr_isnone ?x ?y none_i (by with_unfolding_all rfl)) (fun q => by cases q)) ?a ?b
  case x => walk_at "ev"
  case y => walk_at "ev"
  case a => intro q; cases q
  case b =>
    intro _
    refine Bl_nil ?_
    refine' Bl_if (Tr_not (Tr_chain ?e1 ?e2 ?e3 cp_le cp_le (by with_unfolding_all rfl))) ?a2 ?b2
    case e1 => walk_at "ev"
    case e2 => walk_at "ev"
    case e3 => walk_at "ev"
    case a2 => intro q; rw [decide_eq_true h.1, decide_eq_true h.2] at q; cases q
    case b2 => intro _; exact Bl_nil (Bl_nil ⟨rfl, rfl⟩)
/-- the octets of a number -/
abbrev FK.en (k : FK) (n : Int) : List UInt8 := (enc k.w n).toList
theorem FK.en_len (k : FK) (n : Int) : (k.en n).length = k.w := by rw [Array.length_toList]; exact enc_size ..
theorem fn_Write {k : FK} {y1 y2 : Addr × PO} {d : Addr} {bs : List UInt8} {r : Ld} {i n : Int} (h0 : 0 ≤ i) (h1 : i + k.w ≤ bs.length) (hz : bs.length ≤ 2 ^ 20) (hn : k.lo ≤ n ∧ n ≤ k.hi) :
    Fn 228 1 [.v (.ref k.obj), .v (.ref d), .i i, .i n] (y1 :: y2 :: (d, .ba bs) :: r) (fun p ld' => p = .v .none ∧ ld' = y1 :: y2 :: (d, .ba (bs.take i.toNat ++ k.en n ++ bs.drop (i + k.w).toNat)) :: r) := by
  refine Fn_intro ["packer_type", "buf", "head", "n"] f228 c228 (by walk_at "intro") (by decide +kernel) (by decide) ?_ (by kernel_rfl) (by kernel_rfl) (by kernel_rfl) (by decide +kernel)
  intros
  refine' Bl_ex (Ex_bm (P₁ := fun ps ld' => ps = [.v (.ref d), .i i, .i n] ∧ ld' = y1 :: y2 :: (d, .ba bs) :: r) (T := "_struct.Struct") (id := "_struct.Struct.pack_into") (x := k.obj) ?o ?t pa_struct ss_pack ty_pack
    (Ag_1 ?e1 (Ag_1 ?e2 (Ag_1 ?e3 (Ag_end ⟨rfl, rfl⟩) (by with_unfolding_all rfl)) (by with_unfolding_all rfl)) (by with_unfolding_all rfl)) ?f) ?k (by kernel_rfl) (by with_unfolding_all rfl)
  case o => walk_at "ea"
  case t => intro ok s I; obtain ⟨t, ht⟩ := isSt ok I k; exact ⟨_, ht, rfl, rfl⟩
  case e1 => walk_at "ev"
  case e2 => walk_at "ev"
  case e3 => walk_at "ev"
  case f =>
    refine elF00 ?_
    exact bi_pack (pre := [y1, y2]) h0 h1 hz hn
  case k =>
    refine elF00 ?_
    exact ⟨trivial, Bl_nil ⟨rfl, rfl⟩⟩
/-- octets e laid ahead -/
abbrev BS.app (S : BS) (e : List UInt8) : BS := { S with jk := S.jk.take (S.jk.length - e.length), tl := e ++ S.tl }
theorem take_app {jk tl e : List UInt8} {w : Nat} (hw : e.length = w) (h : w ≤ jk.length) : (jk ++ tl).take ((jk.length : Int) - w).toNat ++ e ++ (jk ++ tl).drop ((jk.length : Int) - w + w).toNat = jk.take (jk.length - e.length) ++ (e ++ tl) := by
  have e1 : ((jk.length : Int) - w).toNat = jk.length - w := by omega
  have e2 : ((jk.length : Int) - w + w).toNat = jk.length := by omega
  rw [e1, e2, hw, List.take_append_of_le_length (by omega), List.drop_append_of_le_length (by omega), List.drop_length, List.nil_append, List.append_assoc]
theorem head_app {jk : List UInt8} {w : Nat} (h : w ≤ jk.length) : (jk.length : Int) - w = ((jk.take (jk.length - w)).length : Nat) := by rw [List.length_take]; omega
theorem fn_Place {k : FK} {b dx : Addr} {S : BS} {r : Ld} {n : Int} (hw : k.w ≤ S.jk.length) (hz : (S.jk ++ S.tl).length ≤ 2 ^ 20) (hn : k.lo ≤ n ∧ n ≤ k.hi) :
    Fn 696 2 [.v (.ref b), .i n, .v (.ref k.addr)] (B b dx S r) (fun p ld' => p = .v .none ∧ ld' = B b dx (S.app (k.en n)) r) := by
  have hl := List.length_append (as := S.jk) (bs := S.tl)
  refine Fn_intro ["self", "x", "flags"] f696 c696 (by walk_at "intro") (by decide +kernel) (by decide) ?_ (by kernel_rfl) (by kernel_rfl) (by kernel_rfl) (by decide +kernel)
  intro w A h₀ L mg mb os gens k' hk
  refine' Bl_ex (Ex_f2 (fn_enf (k := k) hn) (Ea_glob g214 (by kernel_rfl)) (by omega) k214 ?e1 ?e2) ?k1 (by kernel_rfl) (by with_unfolding_all rfl)
  case e1 => walk_at "ev"
  case e2 => walk_at "ev"
  refine elF00 ?_
  refine ⟨trivial, ?_⟩
  refine' Bl_asg ?e3 ?k3 (by kernel_rfl)
  case e3 => walk_at "ev"
  refine' Bl_stv 4 ?e4 (by with_unfolding_all rfl) (by kernel_rfl) so_head (by exact (by decide : 4 < 11)) ?k4
  case e4 => walk_at "ev"
  change Bl _ _ (BH b dx S ((S.jk.length : Int) - k.w) r) _ _
  refine' Bl_ex (Ex_f4 (fn_Write (k := k) (i := (S.jk.length : Int) - k.w) (n := n) (by omega) (by omega) (by omega) hn) (Ea_glob g228 (by kernel_rfl)) (by omega) k228 ?e5 ?e6 ?e7 ?e8) ?k5 (by kernel_rfl) (by with_unfolding_all rfl)
  case e5 => walk_at "ev"
  case e6 => walk_at "ev"
  case e7 => walk_at "ev"
  case e8 => walk_at "ev"
  refine elF00 ?_
  refine ⟨trivial, Bl_nil ⟨rfl, ?_⟩⟩
  rw [take_app (k.en_len n) hw, head_app hw]
  simp only [BS.app, FK.en_len]
/-- more content: its alignment, its octets -/
abbrev BS.to (S : BS) (d : Addr) (jk : List UInt8) (z : Int) (e : List UInt8) : BS := { S with d := d, ma := if S.ma < z then z else S.ma, jk := jk, tl := e ++ S.tl }
abbrev BS.ok (S : BS) : Prop := (S.jk ++ S.tl).length ≤ 2 ^ 18
abbrev BS.okm (S : BS) (m : Nat) : Prop := m ≤ (S.jk ++ S.tl).length ∧ (S.jk ++ S.tl).length ≤ 2 ^ 18
theorem FK.pz (k : FK) : Pz k.w := by unfold Pz; cases k <;> decide
/-- a number ahead, aligned to its width -/
abbrev BS.num (S : BS) (k : FK) (n : Int) : List UInt8 := k.en n ++ List.replicate (gap k.w S.tl.length 0) 0
theorem fn_Prepend {k : FK} {b dx : Addr} {S : BS} {r : Ld} {n : Int} (hz : S.ok) (ht : S.tl.length ≤ 2 ^ 16) (hn : k.lo ≤ n ∧ n ≤ k.hi) :
    Fn 514 3 [.v (.ref b), .v (.ref k.addr), .i n] (B b dx S r) (fun p ld' => p = .v .none ∧ ∃ d jk, (S.to d jk k.w (S.num k n)).okm (S.jk ++ S.tl).length ∧ ld' = B b dx (S.to d jk k.w (S.num k n)) r) := by
  refine Fn_intro ["self", "flags", "off"] f514 c514 (by walk_at "intro") (by decide +kernel) (by decide) ?_ (by kernel_rfl) (by kernel_rfl) (by kernel_rfl) (by decide +kernel)
  intro w A h₀ L mg mb os gens k' hk
  refine' Bl_ex (Ex_m2 (fn_Prep (z := k.w) (a := 0) k.pz hz ht) ?o1 (.head _) (.tail _ (.head _)) m405 (by kernel_rfl) (by omega) ?e1 ?e2) ?k1 (by kernel_rfl) (by with_unfolding_all rfl)
  case o1 => walk_at "ea"
  case e1 => walk_at "ev"
  case e2 => exact Ea.ev Ea_int
  (first | refine elF22 ?_ | refine elF31 ?_); intro d jk h1 h2
  refine ⟨trivial, ?_⟩
  refine' Bl_ex (Ex_m2 (fn_Place (k := k) (S := S.prep d jk k.w (gap k.w S.tl.length 0)) (n := n) (by dsimp only; omega) (by dsimp only; omega) hn) ?o2 (.head _) (.tail _ (.head _)) m696 (by kernel_rfl) (by omega) ?e3 ?e4) ?k2 (by kernel_rfl) (by with_unfolding_all rfl)
  case o2 => walk_at "ea"
  case e3 => walk_at "ev"
  case e4 => walk_at "ev"
  refine elF00 ?_
  refine ⟨trivial, Bl_nil ⟨rfl, d, jk.take (jk.length - (k.en n).length), ?_, ?_⟩⟩
  · have := k.en_len n
    show _ ≤ (jk.take (jk.length - (k.en n).length) ++ (k.en n ++ List.replicate _ 0 ++ S.tl)).length ∧ (jk.take (jk.length - (k.en n).length) ++ (k.en n ++ List.replicate _ 0 ++ S.tl)).length ≤ 2 ^ 18
    simp only [List.length_append, List.length_take, List.length_replicate] at h2 ⊢
    omega
  · simp only [BS.app, BS.to, BS.num, List.append_assoc]
theorem fn_Pu8 {b dx : Addr} {S : BS} {r : Ld} {n : Int} (hz : S.ok) (ht : S.tl.length ≤ 2 ^ 16) (hn : FK.u8.lo ≤ n ∧ n ≤ FK.u8.hi) :
    Fn 626 4 [.v (.ref b), .i n] (B b dx S r) (fun p ld' => p = .v .none ∧ ∃ d jk, (S.to d jk FK.u8.w (S.num .u8 n)).okm (S.jk ++ S.tl).length ∧ ld' = B b dx (S.to d jk FK.u8.w (S.num .u8 n)) r) := by
  refine Fn_intro ["self", "x"] f626 c626 (by walk_at "intro") (by decide +kernel) (by decide) ?_ (by kernel_rfl) (by kernel_rfl) (by kernel_rfl) (by decide +kernel)
  intro w A h₀ L mg mb os gens k' hk
  refine' Bl_ex (Ex_m2 (fn_Prepend (k := .u8) hz ht hn) ?o1 (.head _) (.tail _ (.head _)) m514 (by kernel_rfl) hk ?e1 ?e2) ?k1 (by kernel_rfl) (by with_unfolding_all rfl)
  case o1 => walk_at "ea"
  case e1 => walk_at "ev"
  case e2 => walk_at "ev"
  refine elR ?_; intro ld' h
  exact ⟨trivial, Bl_nil ⟨rfl, h⟩⟩
theorem fn_Pu16 {b dx : Addr} {S : BS} {r : Ld} {n : Int} (hz : S.ok) (ht : S.tl.length ≤ 2 ^ 16) (hn : FK.u16.lo ≤ n ∧ n ≤ FK.u16.hi) :
    Fn 633 4 [.v (.ref b), .i n] (B b dx S r) (fun p ld' => p = .v .none ∧ ∃ d jk, (S.to d jk FK.u16.w (S.num .u16 n)).okm (S.jk ++ S.tl).length ∧ ld' = B b dx (S.to d jk FK.u16.w (S.num .u16 n)) r) := by
  refine Fn_intro ["self", "x"] f633 c633 (by walk_at "intro") (by decide +kernel) (by decide) ?_ (by kernel_rfl) (by kernel_rfl) (by kernel_rfl) (by decide +kernel)
  intro w A h₀ L mg mb os gens k' hk
  refine' Bl_ex (Ex_m2 (fn_Prepend (k := .u16) hz ht hn) ?o1 (.head _) (.tail _ (.head _)) m514 (by kernel_rfl) hk ?e1 ?e2) ?k1 (by kernel_rfl) (by with_unfolding_all rfl)
  case o1 => walk_at "ea"
  case e1 => walk_at "ev"
  case e2 => walk_at "ev"
  refine elR ?_; intro ld' h
  exact ⟨trivial, Bl_nil ⟨rfl, h⟩⟩
theorem fn_Pu32 {b dx : Addr} {S : BS} {r : Ld} {n : Int} (hz : S.ok) (ht : S.tl.length ≤ 2 ^ 16) (hn : FK.u32.lo ≤ n ∧ n ≤ FK.u32.hi) :
    Fn 640 4 [.v (.ref b), .i n] (B b dx S r) (fun p ld' => p = .v .none ∧ ∃ d jk, (S.to d jk FK.u32.w (S.num .u32 n)).okm (S.jk ++ S.tl).length ∧ ld' = B b dx (S.to d jk FK.u32.w (S.num .u32 n)) r) := by
  refine Fn_intro ["self", "x"] f640 c640 (by walk_at "intro") (by decide +kernel) (by decide) ?_ (by kernel_rfl) (by kernel_rfl) (by kernel_rfl) (by decide +kernel)
  intro w A h₀ L mg mb os gens k' hk
  refine' Bl_ex (Ex_m2 (fn_Prepend (k := .u32) hz ht hn) ?o1 (.head _) (.tail _ (.head _)) m514 (by kernel_rfl) hk ?e1 ?e2) ?k1 (by kernel_rfl) (by with_unfolding_all rfl)
  case o1 => walk_at "ea"
  case e1 => walk_at "ev"
  case e2 => walk_at "ev"
  refine elR ?_; intro ld' h
  exact ⟨trivial, Bl_nil ⟨rfl, h⟩⟩
theorem fn_Pu64 {b dx : Addr} {S : BS} {r : Ld} {n : Int} (hz : S.ok) (ht : S.tl.length ≤ 2 ^ 16) (hn : FK.u64.lo ≤ n ∧ n ≤ FK.u64.hi) :
    Fn 647 4 [.v (.ref b), .i n] (B b dx S r) (fun p ld' => p = .v .none ∧ ∃ d jk, (S.to d jk FK.u64.w (S.num .u64 n)).okm (S.jk ++ S.tl).length ∧ ld' = B b dx (S.to d jk FK.u64.w (S.num .u64 n)) r) := by
  refine Fn_intro ["self", "x"] f647 c647 (by walk_at "intro") (by decide +kernel) (by decide) ?_ (by kernel_rfl) (by kernel_rfl) (by kernel_rfl) (by decide +kernel)
  intro w A h₀ L mg mb os gens k' hk
  refine' Bl_ex (Ex_m2 (fn_Prepend (k := .u64) hz ht hn) ?o1 (.head _) (.tail _ (.head _)) m514 (by kernel_rfl) hk ?e1 ?e2) ?k1 (by kernel_rfl) (by with_unfolding_all rfl)
  case o1 => walk_at "ea"
  case e1 => walk_at "ev"
  case e2 => walk_at "ev"
  refine elR ?_; intro ld' h
  exact ⟨trivial, Bl_nil ⟨rfl, h⟩⟩
theorem fn_Pi8 {b dx : Addr} {S : BS} {r : Ld} {n : Int} (hz : S.ok) (ht : S.tl.length ≤ 2 ^ 16) (hn : FK.i8.lo ≤ n ∧ n ≤ FK.i8.hi) :
    Fn 654 4 [.v (.ref b), .i n] (B b dx S r) (fun p ld' => p = .v .none ∧ ∃ d jk, (S.to d jk FK.i8.w (S.num .i8 n)).okm (S.jk ++ S.tl).length ∧ ld' = B b dx (S.to d jk FK.i8.w (S.num .i8 n)) r) := by
  refine Fn_intro ["self", "x"] f654 c654 (by walk_at "intro") (by decide +kernel) (by decide) ?_ (by kernel_rfl) (by kernel_rfl) (by kernel_rfl) (by decide +kernel)
  intro w A h₀ L mg mb os gens k' hk
  refine' Bl_ex (Ex_m2 (fn_Prepend (k := .i8) hz ht hn) ?o1 (.head _) (.tail _ (.head _)) m514 (by kernel_rfl) hk ?e1 ?e2) ?k1 (by kernel_rfl) (by with_unfolding_all rfl)
  case o1 => walk_at "ea"
  case e1 => walk_at "ev"
  case e2 => walk_at "ev"
  refine elR ?_; intro ld' h
  exact ⟨trivial, Bl_nil ⟨rfl, h⟩⟩
theorem fn_Pi16 {b dx : Addr} {S : BS} {r : Ld} {n : Int} (hz : S.ok) (ht : S.tl.length ≤ 2 ^ 16) (hn : FK.i16.lo ≤ n ∧ n ≤ FK.i16.hi) :
    Fn 661 4 [.v (.ref b), .i n] (B b dx S r) (fun p ld' => p = .v .none ∧ ∃ d jk, (S.to d jk FK.i16.w (S.num .i16 n)).okm (S.jk ++ S.tl).length ∧ ld' = B b dx (S.to d jk FK.i16.w (S.num .i16 n)) r) := by
  refine Fn_intro ["self", "x"] f661 c661 (by walk_at "intro") (by decide +kernel) (by decide) ?_ (by kernel_rfl) (by kernel_rfl) (by kernel_rfl) (by decide +kernel)
  intro w A h₀ L mg mb os gens k' hk
  refine' Bl_ex (Ex_m2 (fn_Prepend (k := .i16) hz ht hn) ?o1 (.head _) (.tail _ (.head _)) m514 (by kernel_rfl) hk ?e1 ?e2) ?k1 (by kernel_rfl) (by with_unfolding_all rfl)
  case o1 => walk_at "ea"
  case e1 => walk_at "ev"
  case e2 => walk_at "ev"
  refine elR ?_; intro ld' h
  exact ⟨trivial, Bl_nil ⟨rfl, h⟩⟩
theorem fn_Pi32 {b dx : Addr} {S : BS} {r : Ld} {n : Int} (hz : S.ok) (ht : S.tl.length ≤ 2 ^ 16) (hn : FK.i32.lo ≤ n ∧ n ≤ FK.i32.hi) :
    Fn 668 4 [.v (.ref b), .i n] (B b dx S r) (fun p ld' => p = .v .none ∧ ∃ d jk, (S.to d jk FK.i32.w (S.num .i32 n)).okm (S.jk ++ S.tl).length ∧ ld' = B b dx (S.to d jk FK.i32.w (S.num .i32 n)) r) := by
  refine Fn_intro ["self", "x"] f668 c668 (by walk_at "intro") (by decide +kernel) (by decide) ?_ (by kernel_rfl) (by kernel_rfl) (by kernel_rfl) (by decide +kernel)
  intro w A h₀ L mg mb os gens k' hk
  refine' Bl_ex (Ex_m2 (fn_Prepend (k := .i32) hz ht hn) ?o1 (.head _) (.tail _ (.head _)) m514 (by kernel_rfl) hk ?e1 ?e2) ?k1 (by kernel_rfl) (by with_unfolding_all rfl)
  case o1 => walk_at "ea"
  case e1 => walk_at "ev"
  case e2 => walk_at "ev"
  refine elR ?_; intro ld' h
  exact ⟨trivial, Bl_nil ⟨rfl, h⟩⟩
theorem fn_Pi64 {b dx : Addr} {S : BS} {r : Ld} {n : Int} (hz : S.ok) (ht : S.tl.length ≤ 2 ^ 16) (hn : FK.i64.lo ≤ n ∧ n ≤ FK.i64.hi) :
    Fn 675 4 [.v (.ref b), .i n] (B b dx S r) (fun p ld' => p = .v .none ∧ ∃ d jk, (S.to d jk FK.i64.w (S.num .i64 n)).okm (S.jk ++ S.tl).length ∧ ld' = B b dx (S.to d jk FK.i64.w (S.num .i64 n)) r) := by
  refine Fn_intro ["self", "x"] f675 c675 (by walk_at "intro") (by decide +kernel) (by decide) ?_ (by kernel_rfl) (by kernel_rfl) (by kernel_rfl) (by decide +kernel)
  intro w A h₀ L mg mb os gens k' hk
  refine' Bl_ex (Ex_m2 (fn_Prepend (k := .i64) hz ht hn) ?o1 (.head _) (.tail _ (.head _)) m514 (by kernel_rfl) hk ?e1 ?e2) ?k1 (by kernel_rfl) (by with_unfolding_all rfl)
  case o1 => walk_at "ea"
  case e1 => walk_at "ev"
  case e2 => walk_at "ev"
  refine elR ?_; intro ld' h
  exact ⟨trivial, Bl_nil ⟨rfl, h⟩⟩
theorem fn_Pvo {b dx : Addr} {S : BS} {r : Ld} {n : Int} (hz : S.ok) (ht : S.tl.length ≤ 2 ^ 16) (hn : FK.vo.lo ≤ n ∧ n ≤ FK.vo.hi) :
    Fn 689 4 [.v (.ref b), .i n] (B b dx S r) (fun p ld' => p = .v .none ∧ ∃ d jk, (S.to d jk FK.vo.w (S.num .vo n)).okm (S.jk ++ S.tl).length ∧ ld' = B b dx (S.to d jk FK.vo.w (S.num .vo n)) r) := by
  refine Fn_intro ["self", "x"] f689 c689 (by walk_at "intro") (by decide +kernel) (by decide) ?_ (by kernel_rfl) (by kernel_rfl) (by kernel_rfl) (by decide +kernel)
  intro w A h₀ L mg mb os gens k' hk
  refine' Bl_ex (Ex_m2 (fn_Prepend (k := .vo) hz ht hn) ?o1 (.head _) (.tail _ (.head _)) m514 (by kernel_rfl) hk ?e1 ?e2) ?k1 (by kernel_rfl) (by with_unfolding_all rfl)
  case o1 => walk_at "ea"
  case e1 => walk_at "ev"
  case e2 => walk_at "ev"
  refine elR ?_; intro ld' h
  exact ⟨trivial, Bl_nil ⟨rfl, h⟩⟩
theorem fn_Plso {b dx : Addr} {S : BS} {r : Ld} {n : Int} (hw : 4 ≤ S.jk.length) (hz : (S.jk ++ S.tl).length ≤ 2 ^ 20) (hn : FK.so.lo ≤ n ∧ n ≤ FK.so.hi) :
    Fn 710 2 [.v (.ref b), .i n] (B b dx S r) (fun p ld' => p = .v .none ∧ ld' = B b dx (S.app (FK.so.en n)) r) := by
  have hl := List.length_append (as := S.jk) (bs := S.tl)
  have hww : FK.so.w = 4 := rfl
  refine Fn_intro ["self", "x"] f710 c710 (by walk_at "intro") (by decide +kernel) (by decide) ?_ (by kernel_rfl) (by kernel_rfl) (by kernel_rfl) (by decide +kernel)
  intro w A h₀ L mg mb os gens k' hk
  refine' Bl_ex (Ex_f2 (fn_enf (k := .so) hn) (Ea_glob g214 (by kernel_rfl)) (by omega) k214 ?e1 ?e2) ?k1 (by kernel_rfl) (by with_unfolding_all rfl)
  case e1 => walk_at "ev"
  case e2 => walk_at "ev"
  refine elF00 ?_
  refine ⟨trivial, ?_⟩
  refine' Bl_asg ?e3 ?k3 (by kernel_rfl)
  case e3 => walk_at "ev"
  refine' Bl_stv 4 ?e4 (by with_unfolding_all rfl) (by kernel_rfl) so_head (by exact (by decide : 4 < 11)) ?k4
  case e4 => walk_at "ev"
  change Bl _ _ (BH b dx S ((S.jk.length : Int) - FK.so.w) r) _ _
  refine' Bl_ex (Ex_f4 (fn_Write (k := .so) (i := (S.jk.length : Int) - FK.so.w) (n := n) (by omega) (by omega) (by omega) hn) (Ea_glob g228 (by kernel_rfl)) (by omega) k228 ?e5 ?e6 ?e7 ?e8) ?k5 (by kernel_rfl) (by with_unfolding_all rfl)
  case e5 => exact Ea.ev (Ea_glob g58 (by kernel_rfl))
  case e6 => walk_at "ev"
  case e7 => walk_at "ev"
  case e8 => walk_at "ev"
  refine elF00 ?_
  refine ⟨trivial, Bl_nil ⟨rfl, ?_⟩⟩
  rw [take_app (FK.so.en_len n) (by omega), head_app (by omega)]
  simp only [BS.app, FK.en_len]
theorem fn_Pluo {b dx : Addr} {S : BS} {r : Ld} {n : Int} (hw : 4 ≤ S.jk.length) (hz : (S.jk ++ S.tl).length ≤ 2 ^ 20) (hn : FK.uo.lo ≤ n ∧ n ≤ FK.uo.hi) :
    Fn 717 2 [.v (.ref b), .i n] (B b dx S r) (fun p ld' => p = .v .none ∧ ld' = B b dx (S.app (FK.uo.en n)) r) := by
  have hl := List.length_append (as := S.jk) (bs := S.tl)
  have hww : FK.uo.w = 4 := rfl
  refine Fn_intro ["self", "x"] f717 c717 (by walk_at "intro") (by decide +kernel) (by decide) ?_ (by kernel_rfl) (by kernel_rfl) (by kernel_rfl) (by decide +kernel)
  intro w A h₀ L mg mb os gens k' hk
  refine' Bl_ex (Ex_f2 (fn_enf (k := .uo) hn) (Ea_glob g214 (by kernel_rfl)) (by omega) k214 ?e1 ?e2) ?k1 (by kernel_rfl) (by with_unfolding_all rfl)
  case e1 => walk_at "ev"
  case e2 => walk_at "ev"
  refine elF00 ?_
  refine ⟨trivial, ?_⟩
  refine' Bl_asg ?e3 ?k3 (by kernel_rfl)
  case e3 => walk_at "ev"
  refine' Bl_stv 4 ?e4 (by with_unfolding_all rfl) (by kernel_rfl) so_head (by exact (by decide : 4 < 11)) ?k4
  case e4 => walk_at "ev"
  change Bl _ _ (BH b dx S ((S.jk.length : Int) - FK.uo.w) r) _ _
  refine' Bl_ex (Ex_f4 (fn_Write (k := .uo) (i := (S.jk.length : Int) - FK.uo.w) (n := n) (by omega) (by omega) (by omega) hn) (Ea_glob g228 (by kernel_rfl)) (by omega) k228 ?e5 ?e6 ?e7 ?e8) ?k5 (by kernel_rfl) (by with_unfolding_all rfl)
  case e5 => exact Ea.ev (Ea_glob g54 (by kernel_rfl))
  case e6 => walk_at "ev"
  case e7 => walk_at "ev"
  case e8 => walk_at "ev"
  refine elF00 ?_
  refine ⟨trivial, Bl_nil ⟨rfl, ?_⟩⟩
  rw [take_app (FK.uo.en_len n) (by omega), head_app (by omega)]
  simp only [BS.app, FK.en_len]
/-- an offset counted from its own place -/
abbrev BS.rel (S : BS) (k : FK) (off : Int) : List UInt8 := k.en ((gap 4 S.tl.length 0 : Int) + S.tl.length - off + 4) ++ List.replicate (gap 4 S.tl.length 0) 0
theorem gap4 (n : Nat) : gap 4 n 0 ≤ 3 := by
  have := gap_lt (z := 4) (by unfold Pz; omega) n 0
  omega
theorem fn_Relso {b dx : Addr} {S : BS} {r : Ld} {off : Int} (hz : S.ok) (ht : S.tl.length ≤ 2 ^ 16 - 4) (h0 : 0 ≤ off) (h1 : off ≤ S.tl.length) :
    Fn 412 3 [.v (.ref b), .i off] (B b dx S r) (fun p ld' => p = .v .none ∧ ∃ d jk, (S.to d jk 4 (S.rel .so off)).ok ∧ ld' = B b dx (S.to d jk 4 (S.rel .so off)) r) := by
  have hg := gap4 S.tl.length
  refine Fn_intro ["self", "off"] f412 c412 (by walk_at "intro") (by decide +kernel) (by decide) ?_ (by kernel_rfl) (by kernel_rfl) (by kernel_rfl) (by decide +kernel)
  intro w A h₀ L mg mb os gens k' hk
  refine' Bl_ex (Ex_m2 (fn_Prep (z := FK.so.w) (a := 0) (FK.pz _) hz (by omega)) ?o1 (.head _) (.tail _ (.head _)) m405 (by kernel_rfl) (by omega) ?e1 ?e2) ?k1 (by kernel_rfl) (by with_unfolding_all rfl)
  case o1 => walk_at "ea"
  case e1 => walk_at "ev"
  case e2 => exact Ea.ev Ea_int
  (first | refine elF22 ?_ | refine elF31 ?_); intro d jk h2 h3
  refine ⟨trivial, ?_⟩
  have hl : (List.replicate (gap 4 S.tl.length 0) (0 : UInt8) ++ S.tl).length = gap 4 S.tl.length 0 + S.tl.length := by rw [List.length_append, List.length_replicate]
  have h3' : (jk ++ (List.replicate (gap 4 S.tl.length 0) (0 : UInt8) ++ S.tl)).length ≤ 2 ^ 18 := h3
  have hl2 := List.length_append (as := jk) (bs := List.replicate (gap 4 S.tl.length 0) (0 : UInt8) ++ S.tl)
  have h2' : (4 : Int) ≤ jk.length := by have : ((FK.so.w : Nat) : Int) = 4 := rfl; omega
  change Bl _ _ (B b dx (S.prep d jk 4 (gap 4 S.tl.length 0)) r) _ _
  refine' Bl_if (Tr_not (Tr_le ?x1 ?x2 (by with_unfolding_all rfl))) ?a1 ?b1
  case x1 => walk_at "ev"
  case x2 => walk_at "ev"
  case a1 =>
    intro q
    have : off ≤ ((List.replicate (gap 4 S.tl.length 0) (0 : UInt8) ++ S.tl).length : Int) := by omega
    rw [decide_eq_true this] at q; cases q
  case b1 =>
    intro _
    refine Bl_nil ?_
    refine' Bl_asg ?e3 ?k3 (by kernel_rfl)
    case e3 => walk_at "ev"
    have hv : ((List.replicate (gap 4 S.tl.length 0) (0 : UInt8) ++ S.tl).length : Int) - off + (FK.so.w : Int) = (gap 4 S.tl.length 0 : Int) + S.tl.length - off + 4 := by
      rw [hl]; have : ((FK.so.w : Nat) : Int) = 4 := rfl; omega
    rw [hv]
    have hv2 : FK.so.lo ≤ (gap 4 S.tl.length 0 : Int) + S.tl.length - off + 4 ∧ (gap 4 S.tl.length 0 : Int) + S.tl.length - off + 4 ≤ FK.so.hi := by
      have q1 : FK.so.lo ≤ 0 := by decide
      have q2 : (2147483647 : Int) ≤ FK.so.hi := by decide
      omega
    refine' Bl_ex (Ex_m1 (fn_Plso (S := S.prep d jk 4 (gap 4 S.tl.length 0)) (n := (gap 4 S.tl.length 0 : Int) + S.tl.length - off + 4) (by dsimp only; omega) (by dsimp only; omega) hv2) ?o4 (.head _) (.tail _ (.head _)) m710 (by kernel_rfl) (by omega) ?e4) ?k4 (by kernel_rfl) (by with_unfolding_all rfl)
    case o4 => walk_at "ea"
    case e4 => walk_at "ev"
    refine elF00 ?_
    refine ⟨trivial, Bl_nil ⟨rfl, d, jk.take (jk.length - 4), ?_, ?_⟩⟩
    · have e := FK.en_len .so ((gap 4 S.tl.length 0 : Int) + S.tl.length - off + 4)
      have e' : FK.w .so = 4 := rfl
      show (jk.take (jk.length - 4) ++ (FK.en .so _ ++ List.replicate _ 0 ++ S.tl)).length ≤ 2 ^ 18
      rw [List.length_append, List.length_append, List.length_append, List.length_take, List.length_replicate, e, e']
      omega
    · simp only [BS.app, BS.to, BS.rel, List.append_assoc, FK.en_len]
      rfl
theorem fn_Reluo {b dx : Addr} {S : BS} {r : Ld} {off : Int} (hz : S.ok) (ht : S.tl.length ≤ 2 ^ 16 - 4) (h0 : 0 ≤ off) (h1 : off ≤ S.tl.length) :
    Fn 419 3 [.v (.ref b), .i off] (B b dx S r) (fun p ld' => p = .v .none ∧ ∃ d jk, (S.to d jk 4 (S.rel .uo off)).ok ∧ ld' = B b dx (S.to d jk 4 (S.rel .uo off)) r) := by
  have hg := gap4 S.tl.length
  refine Fn_intro ["self", "off"] f419 c419 (by walk_at "intro") (by decide +kernel) (by decide) ?_ (by kernel_rfl) (by kernel_rfl) (by kernel_rfl) (by decide +kernel)
  intro w A h₀ L mg mb os gens k' hk
  refine' Bl_ex (Ex_m2 (fn_Prep (z := FK.uo.w) (a := 0) (FK.pz _) hz (by omega)) ?o1 (.head _) (.tail _ (.head _)) m405 (by kernel_rfl) (by omega) ?e1 ?e2) ?k1 (by kernel_rfl) (by with_unfolding_all rfl)
  case o1 => walk_at "ea"
  case e1 => walk_at "ev"
  case e2 => exact Ea.ev Ea_int
  (first | refine elF22 ?_ | refine elF31 ?_); intro d jk h2 h3
  refine ⟨trivial, ?_⟩
  have hl : (List.replicate (gap 4 S.tl.length 0) (0 : UInt8) ++ S.tl).length = gap 4 S.tl.length 0 + S.tl.length := by rw [List.length_append, List.length_replicate]
  have h3' : (jk ++ (List.replicate (gap 4 S.tl.length 0) (0 : UInt8) ++ S.tl)).length ≤ 2 ^ 18 := h3
  have hl2 := List.length_append (as := jk) (bs := List.replicate (gap 4 S.tl.length 0) (0 : UInt8) ++ S.tl)
  have h2' : (4 : Int) ≤ jk.length := by have : ((FK.uo.w : Nat) : Int) = 4 := rfl; omega
  change Bl _ _ (B b dx (S.prep d jk 4 (gap 4 S.tl.length 0)) r) _ _
  refine' Bl_if (Tr_not (Tr_le ?x1 ?x2 (by with_unfolding_all rfl))) ?a1 ?b1
  case x1 => walk_at "ev"
  case x2 => walk_at "ev"
  case a1 =>
    intro q
    have : off ≤ ((List.replicate (gap 4 S.tl.length 0) (0 : UInt8) ++ S.tl).length : Int) := by omega
    rw [decide_eq_true this] at q; cases q
  case b1 =>
    intro _
    refine Bl_nil ?_
    refine' Bl_asg ?e3 ?k3 (by kernel_rfl)
    case e3 => walk_at "ev"
    have hv : ((List.replicate (gap 4 S.tl.length 0) (0 : UInt8) ++ S.tl).length : Int) - off + (FK.uo.w : Int) = (gap 4 S.tl.length 0 : Int) + S.tl.length - off + 4 := by
      rw [hl]; have : ((FK.uo.w : Nat) : Int) = 4 := rfl; omega
    rw [hv]
    have hv2 : FK.uo.lo ≤ (gap 4 S.tl.length 0 : Int) + S.tl.length - off + 4 ∧ (gap 4 S.tl.length 0 : Int) + S.tl.length - off + 4 ≤ FK.uo.hi := by
      have q1 : FK.uo.lo ≤ 0 := by decide
      have q2 : (2147483647 : Int) ≤ FK.uo.hi := by decide
      omega
    refine' Bl_ex (Ex_m1 (fn_Pluo (S := S.prep d jk 4 (gap 4 S.tl.length 0)) (n := (gap 4 S.tl.length 0 : Int) + S.tl.length - off + 4) (by dsimp only; omega) (by dsimp only; omega) hv2) ?o4 (.head _) (.tail _ (.head _)) m717 (by kernel_rfl) (by omega) ?e4) ?k4 (by kernel_rfl) (by with_unfolding_all rfl)
    case o4 => walk_at "ea"
    case e4 => walk_at "ev"
    refine elF00 ?_
    refine ⟨trivial, Bl_nil ⟨rfl, d, jk.take (jk.length - 4), ?_, ?_⟩⟩
    · have e := FK.en_len .uo ((gap 4 S.tl.length 0 : Int) + S.tl.length - off + 4)
      have e' : FK.w .uo = 4 := rfl
      show (jk.take (jk.length - 4) ++ (FK.en .uo _ ++ List.replicate _ 0 ++ S.tl)).length ≤ 2 ^ 18
      rw [List.length_append, List.length_append, List.length_append, List.length_take, List.length_replicate, e, e']
      omega
    · simp only [BS.app, BS.to, BS.rel, List.append_assoc, FK.en_len]
      rfl
theorem at_ve {C : Cn} {lc : Lc} {b dx : Addr} {S : BS} {r : Ld} {h : Int} {n : Int} (hv : S.ve = some (.i n)) : At C lc (BH b dx S h r) (.v (.ref b)) "vectorNumElems" (.i n) :=
  At_slot (i := 9) (.head _) (.tail _ (.head _)) so_ve (by show some S.ve = some (some (.i n)); rw [hv]) hi_int
/-- the zeros of a vector's start -/
def vgap (al : Int) (n a : Nat) : Nat := gap al (gap 4 n a + n) a + gap 4 n a
abbrev BS.vec (S : BS) (d : Addr) (jk : List UInt8) (n a : Nat) (al : Int) : BS :=
  { S with d := d, jk := jk, ne := true, ve := some (.i n), ma := if (if S.ma < 4 then 4 else S.ma) < al then al else (if S.ma < 4 then 4 else S.ma), tl := List.replicate (vgap al S.tl.length a) 0 ++ S.tl }
theorem fn_StartVector {b dx : Addr} {S : BS} {r : Ld} {es n : Nat} {al : Int} (hne : S.ne = false) (hz : S.ok) (hal : Pz al) (hes : es ≤ 64) (hn : n ≤ 64) (ht : S.tl.length + es * n ≤ 2 ^ 16 - 64) :
    Fn 426 3 [.v (.ref b), .i es, .i n, .i al] (B b dx S r) (fun p ld' => ∃ d jk, p = .i (S.vec d jk n (es * n) al).tl.length ∧ (S.vec d jk n (es * n) al).ok ∧ 4 + (es * n : Nat) ≤ jk.length ∧ ld' = B b dx (S.vec d jk n (es * n) al) r) := by
  have hg1 := gap_lt (z := 4) (by unfold Pz; omega) S.tl.length (es * n)
  have hvg : vgap al S.tl.length (es * n) = gap al (gap 4 S.tl.length (es * n) + S.tl.length) (es * n) + gap 4 S.tl.length (es * n) := rfl
  generalize hg : gap 4 S.tl.length (es * n) = g1 at *
  have hg2 := gap_lt hal (g1 + S.tl.length) (es * n)
  have hal2 := hal.pos
  refine Fn_intro ["self", "elemSize", "numElems", "alignment"] f426 c426 (by walk_at "intro") (by decide +kernel) (by decide) ?_ (by kernel_rfl) (by kernel_rfl) (by kernel_rfl) (by decide +kernel)
  intro w A h₀ L mg mb os gens k' hk
  refine' Bl_ex (Ex_m0 (fn_assertNotNested hne) ?o1 (.head _) (.tail _ (.head _)) m469 (by kernel_rfl) (by walk_at "side")) ?k1 (by kernel_rfl) (by with_unfolding_all rfl)
  case o1 => walk_at "ea"
  refine elF00 ?_
  refine ⟨trivial, ?_⟩
  refine' Bl_stv 6 ?e2 (by with_unfolding_all rfl) (by kernel_rfl) so_nested (by exact (by decide : 6 < 11)) ?k2
  case e2 => walk_at "ev"
  change Bl _ _ (B b dx { S with ne := true } r) _ _
  refine' Bl_stv 9 ?e3 (by with_unfolding_all rfl) (by kernel_rfl) so_ve (by exact (by decide : 9 < 11)) ?k3
  case e3 => walk_at "ev"
  change Bl _ _ (B b dx { S with ne := true, ve := some (.i n) } r) _ _
  refine' Bl_ex (Ex_m2 (fn_Prep (S := { S with ne := true, ve := some (.i n) }) (z := FK.u32.w) (a := es * n) (FK.pz _) hz (by dsimp only; omega)) ?o4 (.head _) (.tail _ (.head _)) m405 (by kernel_rfl) (by walk_at "side") ?e4 ?e5) ?k4 (by kernel_rfl) (by with_unfolding_all rfl)
  case o4 => walk_at "ea"
  case e4 => walk_at "ev"
  case e5 =>
    rw [Int.natCast_mul]
    refine' Ev_mul ?x ?y (.inl (by omega))
    case x => walk_at "ev"
    case y => walk_at "ev"
  (first | refine elF22 ?_ | refine elF31 ?_); intro d jk h2 h3
  refine ⟨trivial, ?_⟩
  have hw : ((FK.u32.w : Nat) : Int) = 4 := rfl
  dsimp only at h2 h3
  rw [hw, hg] at h3
  change Bl _ _ (B b dx { S with d := d, jk := jk, ne := true, ve := some (.i n), ma := if S.ma < 4 then 4 else S.ma, tl := List.replicate (gap (FK.u32.w : Int) S.tl.length (es * n)) 0 ++ S.tl } r) _ _
  rw [hw, hg]
  have hl : (List.replicate g1 (0 : UInt8) ++ S.tl).length = g1 + S.tl.length := by rw [List.length_append, List.length_replicate]
  refine' Bl_ex (Ex_m2 (fn_Prep (S := { S with d := d, jk := jk, ne := true, ve := some (.i n), ma := if S.ma < 4 then 4 else S.ma, tl := List.replicate g1 0 ++ S.tl }) (z := al) (a := es * n) hal h3 (by dsimp only; omega)) ?o6 (.head _) (.tail _ (.head _)) m405 (by kernel_rfl) (by walk_at "side") ?e6 ?e7) ?k6 (by kernel_rfl) (by with_unfolding_all rfl)
  case o6 => walk_at "ea"
  case e6 => walk_at "ev"
  case e7 =>
    rw [Int.natCast_mul]
    refine' Ev_mul ?x ?y (.inl (by omega))
    case x => walk_at "ev"
    case y => walk_at "ev"
  (first | refine elF22 ?_ | refine elF31 ?_); intro d2 jk2 h4 h5
  refine ⟨trivial, ?_⟩
  dsimp only at h4 h5
  rw [hl] at h5
  have hl2 := List.length_append (as := jk2) (bs := List.replicate (gap al (g1 + S.tl.length) (es * n)) (0 : UInt8) ++ (List.replicate g1 0 ++ S.tl))
  change Bl _ _ (B b dx { S with d := d2, jk := jk2, ne := true, ve := some (.i n), ma := if (if S.ma < 4 then 4 else S.ma) < al then al else (if S.ma < 4 then 4 else S.ma), tl := List.replicate (gap al (List.replicate g1 (0 : UInt8) ++ S.tl).length (es * n)) 0 ++ (List.replicate g1 0 ++ S.tl) } r) _ _
  rw [hl]
  refine' Bl_ret ?e8 ?k8
  case e8 => walk_at "ev"
  case k8 =>
    have e : List.replicate (gap al (g1 + S.tl.length) (es * n)) (0 : UInt8) ++ (List.replicate g1 0 ++ S.tl) = List.replicate (vgap al S.tl.length (es * n)) 0 ++ S.tl := by
      rw [hvg, ← List.append_assoc, List.replicate_append_replicate]
    dsimp only
    rw [e] at h5 ⊢
    refine ⟨d2, jk2, rfl, h5, ?_, rfl⟩
    rw [hl] at h4
    have q1 := gap_int (z := 4) (by unfold Pz; omega) S.tl.length (es * n)
    rw [hg] at q1
    have q2 := gap_int hal (g1 + S.tl.length) (es * n)
    rw [hw] at h2
    generalize gap al (g1 + S.tl.length) (es * n) = g2 at *
    generalize es * n = m at *
    rcases hal with rfl | rfl | rfl | rfl | rfl | rfl <;> omega
theorem d427 (P : Params) : (frag P).lookup 427 = some (o427 P) := by kernel_rfl
/-- a vector's end -/
abbrev BS.endv (S : BS) (e : List UInt8) : BS := { S with jk := S.jk.take (S.jk.length - e.length), tl := e ++ S.tl, ne := false, ve := some (.v .none) }
theorem fn_EndVector {b dx : Addr} {S : BS} {r : Ld} {n : Nat} (hne : S.ne = true) (hve : S.ve = some (.i n)) (hz : S.ok) (hw : 4 ≤ S.jk.length) (hn : n ≤ 2 ^ 16) :
    Fn 434 3 [.v (.ref b)] (B b dx S r) (fun p ld' => p = .i (S.tl.length + 4 : Nat) ∧ ld' = B b dx (S.endv (FK.uo.en n)) r) := by
  have hl := List.length_append (as := S.jk) (bs := S.tl)
  intro C ok hk lc s I vs hv R q
  refine FnK_intro (f := 434) (k := 2) (ps := [.v (.ref b)]) (kn := []) (ks := []) (ld := B b dx S r) (P := fun p ld' => p = .i (S.tl.length + 4 : Nat) ∧ ld' = B b dx (S.endv (FK.uo.en n)) r) (lc₀ := [("self", .v (.ref b)), ("numElems", .v .none)]) f434 c434 (fun vs _ => [("self", vs.headD .none), ("numElems", .none)]) ?hb ?body (by kernel_rfl) (by kernel_rfl) (by kernel_rfl) (by decide +kernel) C ok hk lc s I vs [] hv trivial R q
  case hb =>
    intro P s vs us X h1 h2
    obtain ⟨v, rfl, r1⟩ := relL_1 h1
    obtain rfl := relL_nil h2
    next =>
      refine ⟨binds_K (T := 427) X rfl (d427 P) rfl (by rfl) (by rfl), ?_, locs (by kernel_rfl)⟩
      exact relB_zip (names := ["self", "numElems"]) (by decide) (ps := [.v (.ref b), .v .none]) (vs := [v, .none]) ⟨r1, rfl, trivial⟩
  case body =>
    intro w A h₀ L mg mb os gens k' hk
    refine' Bl_ex (Ex_m0 (fn_assertNested hne) ?o1 (.head _) (.tail _ (.head _)) m462 (by kernel_rfl) (by walk_at "side")) ?k1 (by kernel_rfl) (by with_unfolding_all rfl)
    case o1 => walk_at "ea"
    refine elF00 ?_
    refine ⟨trivial, ?_⟩
    refine' Bl_stv 6 ?e2 (by with_unfolding_all rfl) (by kernel_rfl) so_nested (by exact (by decide : 6 < 11)) ?k2
    case e2 => walk_at "ev"
    change Bl _ _ (B b dx { S with ne := false } r) _ _
    refine' Bl_if (Tr_ev ?e3 th_none) ?a3 ?b3
    case e3 => walk_at "ev"
    case a3 => intro q; cases q
    case b3 =>
      intro _
      refine Bl_nil ?_
      refine' Bl_ex (Ex_m1 (fn_Pluo (S := { S with ne := false }) (n := (n : Int)) hw (by dsimp only; omega) ?r4) ?o4 (.head _) (.tail _ (.head _)) m717 (by kernel_rfl) (by walk_at "side") ?e4) ?k4 (by kernel_rfl) (by with_unfolding_all rfl)
      case r4 =>
        have q1 : FK.uo.lo ≤ 0 := by decide
        have q2 : (2147483647 : Int) ≤ FK.uo.hi := by decide
        omega
      case o4 => walk_at "ea"
      case e4 => exact Ea.ev (Ea_attr (Ea_loc (by with_unfolding_all rfl) (by kernel_rfl)) (at_ve (S := { S with ne := false }) hve))
      refine elF00 ?_
      refine ⟨trivial, ?_⟩
      refine' Bl_stv 9 ?e5 (by with_unfolding_all rfl) (by kernel_rfl) so_ve (by exact (by decide : 9 < 11)) ?k5
      case e5 => walk_at "ev"
      have e : (FK.uo.en n).length = 4 := FK.en_len .uo n
      have hl2 : (S.jk.take (S.jk.length - (FK.uo.en n).length) ++ (FK.uo.en n ++ S.tl)).length ≤ 2 ^ 18 + 4 := by
        rw [List.length_append, List.length_take, List.length_append]; omega
      change Bl _ _ (B b dx (S.endv (FK.uo.en n)) r) _ _
      refine' Bl_ret ?e6 ?k6
      case e6 => walk_at "ev"
      case k6 =>
        refine ⟨?_, rfl⟩
        show PV.i ((FK.uo.en n ++ S.tl).length : Nat) = _
        rw [List.length_append, e, Nat.add_comm]
theorem u8w (n : Nat) : n * FK.u8.w = n := Nat.mul_one n
/-- a vector of octets -/
abbrev BS.cbv (S : BS) (d : Addr) (jk : List UInt8) (x : List UInt8) : BS :=
  { S with d := d, jk := jk, ne := false, ve := some (.v .none), ma := if S.ma < 4 then 4 else S.ma, tl := FK.uo.en x.length ++ (x ++ (List.replicate (gap 4 S.tl.length x.length) 0 ++ S.tl)) }
theorem fn_CBV {b dx : Addr} {S : BS} {r : Ld} {x : List UInt8} (hne : S.ne = false) (hz : S.ok) (hx : x.length ≤ 64) (ht : S.tl.length ≤ 2 ^ 16 - 128) :
    Fn 455 4 [.v (.ref b), .y x] (B b dx S r) (fun p ld' => ∃ d jk n, p = .i n ∧ (S.cbv d jk x).ok ∧ ld' = B b dx (S.cbv d jk x) r) := by
  have hg1 := gap_lt (z := 4) (by unfold Pz; omega) S.tl.length x.length
  refine Fn_intro ["self", "x"] f455 c455 (by walk_at "intro") (by decide +kernel) (by decide) ?_ (by kernel_rfl) (by kernel_rfl) (by kernel_rfl) (by decide +kernel)
  intro w A h₀ L mg mb os gens k' hk
  refine' Bl_ex (Ex_m0 (fn_assertNotNested hne) ?o1 (.head _) (.tail _ (.head _)) m469 (by kernel_rfl) (by walk_at "side")) ?k1 (by kernel_rfl) (by with_unfolding_all rfl)
  case o1 => walk_at "ea"
  refine elF00 ?_
  refine ⟨trivial, ?_⟩
  refine' Bl_stv 6 ?e2 (by with_unfolding_all rfl) (by kernel_rfl) so_nested (by exact (by decide : 6 < 11)) ?k2
  case e2 => walk_at "ev"
  change Bl _ _ (B b dx { S with ne := true } r) _ _
  refine' Bl_if (Tr_not (Tr_ev (Ev_bi2 (Ea_bi b_isinstance (by kernel_rfl) (by decide) (by kernel_rfl)) ?e3 ?e4 bi_isi) th_bool)) ?a3 ?b3
  case e3 => walk_at "ev"
  case e4 => exact Ea.ev (Ea_glob g51 (by kernel_rfl))
  case a3 => intro q; cases q
  case b3 =>
    intro _
    refine Bl_nil ?_
    refine' Bl_asg (Ev_bi1 (Ea_bi b_len (by kernel_rfl) (by decide) (by kernel_rfl)) ?e5 (bi_lenby (b := x) (by omega))) ?k5 (by kernel_rfl)
    case e5 => walk_at "ev"
    refine' Bl_ex (Ex_m2 (fn_Prep (S := { S with ne := true }) (z := FK.uo.w) (a := x.length * FK.u8.w) (FK.pz _) hz (by rw [u8w]; dsimp only; omega)) ?o6 (.head _) (.tail _ (.head _)) m405 (by kernel_rfl) (by walk_at "side") ?e6 ?e7) ?k6 (by kernel_rfl) (by with_unfolding_all rfl)
    case o6 => walk_at "ea"
    case e6 => walk_at "ev"
    case e7 =>
      rw [Int.natCast_mul]
      refine' Ev_mul ?x ?y (.inr (by omega))
      case x => walk_at "ev"
      case y => walk_at "ev"
    (first | refine elF22 ?_ | refine elF31 ?_); intro d jk h2 h3
    refine ⟨trivial, ?_⟩
    have hw : ((FK.uo.w : Nat) : Int) = 4 := rfl
    dsimp only at h2 h3
    rw [hw, u8w] at h3
    rw [hw, u8w] at h2
    change Bl _ _ (B b dx { S with d := d, jk := jk, ne := true, ma := if S.ma < 4 then 4 else S.ma, tl := List.replicate (gap (FK.uo.w : Int) S.tl.length (x.length * FK.u8.w)) 0 ++ S.tl } r) _ _
    rw [hw, u8w]
    generalize hT : List.replicate (gap 4 S.tl.length x.length) (0 : UInt8) ++ S.tl = T at *
    have hT2 : T.length = gap 4 S.tl.length x.length + S.tl.length := by rw [← hT, List.length_append, List.length_replicate]
    have hl := List.length_append (as := jk) (bs := T)
    have hjk : x.length ≤ jk.length := by omega
    refine' Bl_asg ?e8 ?k8 (by kernel_rfl)
    case e8 => walk_at "ev"
    refine' Bl_stv 4 ?e9 (by with_unfolding_all rfl) (by kernel_rfl) so_head (by exact (by decide : 4 < 11)) ?k9
    case e9 => walk_at "ev"
    change Bl _ _ (BH b dx { S with d := d, jk := jk, ne := true, ma := if S.ma < 4 then 4 else S.ma, tl := T } ((jk.length : Int) - x.length) r) _ _
    refine' Bl_slB ?v ?o ?l ?u ?h0 ?h1 ?h2 ?hl ?hz ?k10
    case v => walk_at "ev"
    case o => walk_at "ev"
    case l => walk_at "ev"
    case u => walk_at "ev"
    case h0 => dsimp only; omega
    case h1 => dsimp only; omega
    case h2 => dsimp only; omega
    case hl => dsimp only; omega
    case hz => dsimp only; omega
    dsimp only
    rw [take_app rfl hjk, head_app hjk]
    refine' Bl_stv 9 ?e11 (by with_unfolding_all rfl) (by kernel_rfl) so_ve (by exact (by decide : 9 < 11)) ?k11
    case e11 => walk_at "ev"
    have hl2 := List.length_append (as := jk.take (jk.length - x.length)) (bs := x ++ T)
    rw [List.length_take, List.length_append (as := x)] at hl2
    change Bl _ _ (B b dx { S with d := d, jk := jk.take (jk.length - x.length), ne := true, ve := some (.i x.length), ma := if S.ma < 4 then 4 else S.ma, tl := x ++ T } r) _ _
    refine' Bl_retx (Ex_m0 (fn_EndVector (S := { S with d := d, jk := jk.take (jk.length - x.length), ne := true, ve := some (.i x.length), ma := if S.ma < 4 then 4 else S.ma, tl := x ++ T }) (n := x.length) rfl rfl (by show (jk.take (jk.length - x.length) ++ (x ++ T)).length ≤ 2 ^ 18; omega) (by dsimp only; rw [List.length_take]; omega) (by omega)) ?o12 (.head _) (.tail _ (.head _)) m434 (by kernel_rfl) (by walk_at "side")) ?k12
    case o12 => walk_at "ea"
    refine elF00 ?_
    have e := FK.en_len .uo x.length
    refine ⟨d, (jk.take (jk.length - x.length)).take ((jk.take (jk.length - x.length)).length - (FK.uo.en x.length).length), _, rfl, ?_, ?_⟩
    · subst hT
      show ((jk.take _).take _ ++ (FK.uo.en x.length ++ (x ++ (List.replicate (gap 4 S.tl.length x.length) 0 ++ S.tl)))).length ≤ 2 ^ 18
      rw [List.length_append, List.length_take, List.length_take, List.length_append, List.length_append, e]
      have : FK.uo.w = 4 := rfl
      omega
    · subst hT; rfl
theorem at_cv {C : Cn} {lc : Lc} {b dx : Addr} {S : BS} {r : Ld} {h : Int} {v : Addr} (hv : S.cv = .v (.ref v)) : At C lc (BH b dx S h r) (.v (.ref b)) "current_vtable" (.v (.ref v)) :=
  At_slot (i := 1) (.head _) (.tail _ (.head _)) so_cv (by show some (some S.cv) = some (some (.v (.ref v))); rw [hv]) hi_ref
theorem fn_Inline {b dx : Addr} {S : BS} {r : Ld} (hz : S.ok) : Fn 476 2 [.v (.ref b), .i S.tl.length] (B b dx S r) (fun p ld' => p = .v .none ∧ ld' = B b dx S r) := by
  have hl := List.length_append (as := S.jk) (bs := S.tl)
  refine Fn_intro ["self", "obj"] f476 c476 (by walk_at "intro") (by decide +kernel) (by decide) ?_ (by kernel_rfl) (by kernel_rfl) (by kernel_rfl) (by decide +kernel)
  intro w A h₀ L mg mb os gens k' hk
  have hr : FK.uo.lo ≤ (S.tl.length : Int) ∧ (S.tl.length : Int) ≤ FK.uo.hi := by
    have q1 : FK.uo.lo ≤ 0 := by decide
    have q2 : (2147483647 : Int) ≤ FK.uo.hi := by decide
    omega
  refine' Bl_ex (Ex_f2 (fn_enf (k := .uo) hr) (Ea_glob g214 (by kernel_rfl)) (by omega) k214 ?e1 ?e2) ?k1 (by kernel_rfl) (by with_unfolding_all rfl)
  case e1 => walk_at "ev"
  case e2 => walk_at "ev"
  refine elF00 ?_
  refine ⟨trivial, ?_⟩
  refine' Bl_if (Tr_ne ?e3 ?e4 (by with_unfolding_all rfl)) ?a3 ?b3
  case e3 => walk_at "ev"
  case e4 => walk_at "ev"
  case a3 => intro q; rw [decide_eq_true rfl] at q; cases q
  case b3 => intro _; exact Bl_nil (Bl_nil ⟨rfl, rfl⟩)
/-- current_vtable[n] = the place -/
theorem fn_Slot {b dx v : Addr} {S : BS} {r : Ld} {l : List PV} {n : Nat} (hne : S.ne = true) (hcv : S.cv = .v (.ref v)) (hz : S.ok) (hn : n < l.length) (hl : l.length ≤ 64) :
    Fn 483 2 [.v (.ref b), .i n] (B b dx S ((v, .sq "list" l) :: r)) (fun p ld' => p = .v .none ∧ ld' = B b dx S ((v, .sq "list" (l.set n (.i S.tl.length))) :: r)) := by
  refine Fn_intro ["self", "slotnum"] f483 c483 (by walk_at "intro") (by decide +kernel) (by decide) ?_ (by kernel_rfl) (by kernel_rfl) (by kernel_rfl) (by decide +kernel)
  intro w A h₀ L mg mb os gens k' hk
  refine' Bl_ex (Ex_m0 (fn_assertNested hne) ?o1 (.head _) (.tail _ (.head _)) m462 (by kernel_rfl) (by walk_at "side")) ?k1 (by kernel_rfl) (by with_unfolding_all rfl)
  case o1 => walk_at "ea"
  refine elF00 ?_
  refine ⟨trivial, ?_⟩
  refine' Bl_seti (pre := [_, _, _]) (post := r) (l := l) (n := (n : Int)) ?e1 ?e2 ?e3 (by omega) (by omega) (by omega) ?k2
  case e1 => change Ev _ _ (B b dx S ((v, .sq "list" l) :: r)) _ _; walk_at "ev"
  case e2 =>
    change Ev _ _ (B b dx S ((v, .sq "list" l) :: r)) _ _
    exact Ea.ev (Ea_attr (Ea_loc (by with_unfolding_all rfl) (by kernel_rfl)) (at_cv hcv))
  case e3 => change Ev _ _ (B b dx S ((v, .sq "list" l) :: r)) _ _; walk_at "ev"
  exact Bl_nil ⟨rfl, rfl⟩
theorem at_fd {C : Cn} {lc : Lc} {b dx : Addr} {S : BS} {r : Ld} {h : Int} : At C lc (BH b dx S h r) (.v (.ref b)) "forceDefaults" (.v (.bool false)) := At_slot (i := 3) (.head _) (.tail _ (.head _)) so_fd rfl hi_bool
theorem fn_USlot {b dx v : Addr} {S : BS} {r : Ld} {l : List PV} {n : Nat} {x : Int} (hne : S.ne = true) (hcv : S.cv = .v (.ref v)) (hz : S.ok) (ht : S.tl.length ≤ 2 ^ 16 - 4) (hn : n < l.length) (hl : l.length ≤ 64) (h0 : 0 < x) (h1 : x ≤ S.tl.length) :
    Fn 598 4 [.v (.ref b), .i n, .i x, .i 0] (B b dx S ((v, .sq "list" l) :: r)) (fun p ld' => p = .v .none ∧ ∃ d jk, (S.to d jk 4 (S.rel .uo x)).ok ∧ ld' = B b dx (S.to d jk 4 (S.rel .uo x)) ((v, .sq "list" (l.set n (.i (S.to d jk 4 (S.rel .uo x)).tl.length))) :: r)) := by
  refine Fn_intro ["self", "o", "x", "d"] f598 c598 (by walk_at "intro") (by decide +kernel) (by decide) ?_ (by kernel_rfl) (by kernel_rfl) (by kernel_rfl) (by decide +kernel)
  intro w A h₀ L mg mb os gens k' hk
  refine' Bl_if (c := true || false) (Tr_or2 (c := true) (d := false) ?t1 (fun q => by cases q)) ?a1 ?b1
  case t1 =>
    have e : (!decide (x = 0)) = true := by rw [decide_eq_false (by omega)]; rfl
    rw [← e]
    refine' Tr_ne ?e3 ?e4 (by with_unfolding_all rfl)
    case e3 => walk_at "ev"
    case e4 => walk_at "ev"
  case b1 => intro q; cases q
  case a1 =>
    intro _
    refine' Bl_ex (Ex_m1 (fn_Reluo hz ht (by omega) h1) ?o2 (.head _) (.tail _ (.head _)) m419 (by kernel_rfl) (by walk_at "side") ?e5) ?k2 (by kernel_rfl) (by with_unfolding_all rfl)
    case o2 => walk_at "ea"
    case e5 => walk_at "ev"
    (first | refine elF21 ?_ | refine elF30 ?_); intro d jk h2
    refine ⟨trivial, ?_⟩
    refine' Bl_ex (Ex_m1 (fn_Slot (S := S.to d jk 4 (S.rel .uo x)) (v := v) (l := l) (n := n) (r := r) hne hcv h2 hn hl) ?o3 (.head _) (.tail _ (.head _)) m483 (by kernel_rfl) (by walk_at "side") ?e6) ?k3 (by kernel_rfl) (by with_unfolding_all rfl)
    case o3 => walk_at "ea"
    case e6 => walk_at "ev"
    refine elF00 ?_
    exact ⟨trivial, Bl_nil (Bl_nil ⟨rfl, d, jk, h2, rfl⟩)⟩
theorem fn_SSlot {b dx v : Addr} {S : BS} {r : Ld} {l : List PV} {n : Nat} (hne : S.ne = true) (hcv : S.cv = .v (.ref v)) (hz : S.ok) (hn : n < l.length) (hl : l.length ≤ 64) (h0 : 0 < S.tl.length) :
    Fn 605 3 [.v (.ref b), .i n, .i S.tl.length, .i 0] (B b dx S ((v, .sq "list" l) :: r)) (fun p ld' => p = .v .none ∧ ld' = B b dx S ((v, .sq "list" (l.set n (.i S.tl.length))) :: r)) := by
  refine Fn_intro ["self", "v", "x", "d"] f605 c605 (by walk_at "intro") (by decide +kernel) (by decide) ?_ (by kernel_rfl) (by kernel_rfl) (by kernel_rfl) (by decide +kernel)
  intro w A h₀ L mg mb os gens k' hk
  have hr : FK.uo.lo ≤ 0 ∧ 0 ≤ FK.uo.hi := by decide
  refine' Bl_ex (Ex_f2 (fn_enf (k := .uo) (n := 0) hr) (Ea_glob g214 (by kernel_rfl)) (by walk_at "side") k214 ?e1 ?e2) ?k1 (by kernel_rfl) (by with_unfolding_all rfl)
  case e1 => walk_at "ev"
  case e2 => walk_at "ev"
  refine elF00 ?_
  refine ⟨trivial, ?_⟩
  refine' Bl_if (Tr_ne ?e3 ?e4 (by with_unfolding_all rfl)) ?a3 ?b3
  case e3 => walk_at "ev"
  case e4 => walk_at "ev"
  case b3 => intro q; rw [decide_eq_false (by omega)] at q; cases q
  case a3 =>
    intro _
    refine' Bl_ex (Ex_m1 (fn_Inline hz) ?o2 (.head _) (.tail _ (.head _)) m476 (by kernel_rfl) (by walk_at "side") ?e5) ?k2 (by kernel_rfl) (by with_unfolding_all rfl)
    case o2 => walk_at "ea"
    case e5 => walk_at "ev"
    refine elF00 ?_
    refine ⟨trivial, ?_⟩
    refine' Bl_ex (Ex_m1 (fn_Slot (v := v) (l := l) (n := n) (r := r) hne hcv hz hn hl) ?o3 (.head _) (.tail _ (.head _)) m483 (by kernel_rfl) (by walk_at "side") ?e6) ?k3 (by kernel_rfl) (by with_unfolding_all rfl)
    case o3 => walk_at "ea"
    case e6 => walk_at "ev"
    refine elF00 ?_
    exact ⟨trivial, Bl_nil (Bl_nil ⟨rfl, rfl⟩)⟩
theorem at_fi {C : Cn} {lc : Lc} {b dx : Addr} {S : BS} {r : Ld} {h : Int} : At C lc (BH b dx S h r) (.v (.ref b)) "finished" (.v (.bool S.fi)) := At_slot (i := 2) (.head _) (.tail _ (.head _)) so_fi rfl hi_bool
theorem fn_Output {b dx : Addr} {S : BS} {r : Ld} (hf : S.fi = true) (hz : S.ok) : Fn 349 1 [.v (.ref b)] (B b dx S r) (fun p ld' => ∃ x, p = .v (.ref x) ∧ ld' = B b dx S r ++ [(x, .ba S.tl)]) := by
  have hl := List.length_append (as := S.jk) (bs := S.tl)
  refine Fn_intro ["self"] f349 c349 (by walk_at "intro") (by decide +kernel) (by decide) ?_ (by kernel_rfl) (by kernel_rfl) (by kernel_rfl) (by decide +kernel)
  intros
  refine' Bl_if (Tr_not (Tr_ev (Ea.ev (Ea_attr ?x1 at_fi)) th_bool)) ?a1 ?b1
  case x1 => walk_at "ea"
  case a1 => intro q; rw [hf] at q; cases q
  case b1 =>
    intro _
    refine Bl_nil ?_
    refine' Bl_retx (Ex_baFrom (bs := S.jk ++ S.tl) (lo := S.jk.length) ?o ?a (.tail _ (.tail _ (.head _))) (by omega) (by omega) (by omega)) ?k
    case o => walk_at "ev"
    case a => walk_at "ev"
    refine elA10 ?_; intro x
    refine ⟨x, rfl, ?_⟩
    rw [Int.toNat_natCast, List.drop_append_of_le_length (Nat.le_refl _), List.drop_length, List.nil_append]
section
variable {C : Cn} {lc : Lc} {ld : Ld}
/-- the number read -/
abbrev FK.de (k : FK) (bs : List UInt8) (i : Int) : Int := dec bs.toArray i.toNat k.w k.ch.isLower
theorem bi_unpack {k : FK} {d : Addr} {bs : List UInt8} {i : Int} (hm : (d, PO.ba bs) ∈ ld) (h0 : 0 ≤ i) (h1 : i + k.w ≤ bs.length) (hz : bs.length ≤ 2 ^ 20) :
    Bi C (.builtin "_struct.Struct.unpack_from") [.v (.ref k.obj), .v (.ref d), .i i] ld (fun p ld' => ∃ x, p = .v (.ref x) ∧ ld' = ld ++ [(x, .sq "tuple" [.i (k.de bs i)])]) := fun ok lc s I vs rs Q E q => by
  obtain ⟨v1, v2, v3, rfl, r1, r2, ⟨t, r3⟩⟩ := relL_3 rs
  next =>
    have r1 : v1 = .ref k.obj := r1
    have r2 : v2 = .ref d := r2
    subst r1 r2 r3
    obtain ⟨ob, hob, rfl⟩ := I.at_ hm
    refine N_any (unpack_any (b := bs.toArray) k.pk (isSt ok I k) hob h0 (by simpa using h1) (by simp; omega) ?_)
    exact q _ (.v (.ref s.heap.objs.size)) _ _ (I.growE (o := .sq "tuple" [.i (k.de bs i)]) (t := s.toks + 1) (fun b o e => Heap.get?_push_of_some _ e) (fresh_none _) (Heap.get?_push_size _ rfl) ⟨[.int (k.de bs i) s.toks], 0, ⟨⟨_, rfl⟩, trivial⟩, rfl⟩) rfl ⟨_, rfl, rfl⟩
/-- (..)[0], a temporary tuple -/
theorem Ex_first {e : Expr} {kk : Nat} {p2 pos : Pos} {q : PV} (he : Ex C lc ld e (fun p ld' => ∃ x, p = .v (.ref x) ∧ ld' = ld ++ [(x, .sq "tuple" [q])])) : Ex C lc ld (.Subscript e (.Constant (.int 0) kk p2) pos) (fun p ld' => p = q ∧ ld' = ld) := fun ok s I Q E k => by
  rw [arm_eval_Subscript]
  refine N_bind (he ok s I _ _ fun ov p ld' s₁ I₁ ro hp => N_bind (N_holding ?_))
  obtain ⟨x, rfl, rfl⟩ := hp
  have ro : ov = .ref x := ro
  subst ro
  refine N_any (wpAny_Constant_int ?_)
  have I₂ := I₁.tok (t := s₁.toks + 1)
  obtain ⟨ob, hob, vs, n, rl, rfl⟩ := I₂.at_ (x := x) (o := .sq "tuple" [q]) (by simp)
  obtain ⟨v, rfl, rv⟩ := relL_1 rl
  next =>
    have ht : IsTup ({ s₁ with toks := s₁.toks + 1 } : Shared).heap x #[v] := ⟨_, hob, rfl, _, rfl⟩
    refine N_bind (N_standAt (N_bind (N_any ?_)))
    rw [getitemInPython_of_ne (by intro e; cases e)]
    refine wpAny_bind (wpAny_specialOf ht.typeIs slot_tuple_getitem.lookup (wpAny_pure (N_bind ?_)))
    show wpN _ _ (operate _ (getItem (.ref x) (.int 0 _))) _ _ _
    refine N_operate (N_any (getItem_tuple ht (by decide) (by decide) (j := 0) (by rfl) (x := v) (by rfl) (N_bind (N_any (A_temp (N_pure ?_))))))
    exact k v q ld _ (I₂.sub (List.sublist_append_left _ _) (List.Perm.refl _)) rv ⟨rfl, rfl⟩
end
/-- encode.Get -/
theorem fn_EGet {k : FK} {ld : Ld} {d : Addr} {bs : List UInt8} {i : Int} (hm : (d, PO.ba bs) ∈ ld) (h0 : 0 ≤ i) (h1 : i + k.w ≤ bs.length) (hz : bs.length ≤ 2 ^ 20) :
    Fn 221 1 [.v (.ref k.obj), .v (.ref d), .i i] ld (fun p ld' => p = .i (k.de bs i) ∧ ld' = ld) := by
  refine Fn_intro ["packer_type", "buf", "head"] f221 c221 (by walk_at "intro") (by decide +kernel) (by decide) ?_ (by kernel_rfl) (by kernel_rfl) (by kernel_rfl) (by decide +kernel)
  intros
  refine' Bl_retx (Ex_first (Ex_bm (P₁ := fun ps ld' => ps = [.v (.ref d), .i i] ∧ ld' = ld) (T := "_struct.Struct") (id := "_struct.Struct.unpack_from") (x := k.obj) ?o ?t pa_struct ss_unpack ty_unpack
    (Ag_1 ?e1 (Ag_1 ?e2 (Ag_end ⟨rfl, rfl⟩) (by with_unfolding_all rfl)) (by with_unfolding_all rfl)) ?f)) ?k
  case o => walk_at "ea"
  case t => intro ok s I; obtain ⟨t, ht⟩ := isSt ok I k; exact ⟨_, ht, rfl, rfl⟩
  case e1 => walk_at "ev"
  case e2 => walk_at "ev"
  case f =>
    refine elF00 ?_
    exact bi_unpack hm h0 h1 hz
  case k => refine elF00 ?_; exact ⟨rfl, rfl⟩
def wid (k : Nat) : Nat := 2 ^ (k % 4)
def up (e w : Nat) : Nat := e + ((-(e : Int)) % (w : Int)).toNat
def fKinds (n : Int) : List Nat := (List.range (1 + n % 3).toNat).map fun (k : Nat) => ((n / 3 + (k : Int) * (3 + n / 24)) % 8).toNat
def fStep (st : List Nat × Nat × Nat) (k : Nat) : List Nat × Nat × Nat := (st.1 ++ [up st.2.1 (wid k)], up st.2.1 (wid k) + wid k, max st.2.2 (wid k))
def fFold (ks : List Nat) : List Nat × Nat × Nat := ks.foldl fStep ([], 0, 1)
def fLen (ks : List Nat) : Nat := up (fFold ks).2.1 (fFold ks).2.2
def fAlign (n : Int) (ks : List Nat) : Nat := if 1 + n % 3 = 1 ∧ n / 9 % 2 = 1 then max (fFold ks).2.2 (2 ^ (n / 18 % 6).toNat) else (fFold ks).2.2
def fCount (n : Int) : Nat := ((n / 5 + 1) % 5).toNat
def nz (l : List Nat) : List PV := l.map fun k => .i (k : Nat)
theorem nz_get {l : List Nat} {i : Nat} (h : i < l.length) : (nz l).getD i (.v .none) = .i (l.getD i 0 : Nat) := by
  unfold nz
  rw [List.getD_eq_getElem?_getD, List.getElem?_map, List.getD_eq_getElem?_getD, List.getElem?_eq_getElem h]; rfl
theorem nz_len (l : List Nat) : (nz l).length = l.length := List.length_map _
theorem wid_pos (k : Nat) : 0 < wid k ∧ wid k ≤ 8 := by
  unfold wid
  have : k % 4 < 4 := Nat.mod_lt _ (by decide)
  have h : k % 4 = 0 ∨ k % 4 = 1 ∨ k % 4 = 2 ∨ k % 4 = 3 := by omega
  rcases h with h | h | h | h <;> rw [h] <;> decide
theorem up_int {e w : Nat} (h : 0 < w) : ((up e w : Nat) : Int) = e + (-(e : Int)) % w := by
  have := Int.emod_nonneg (-(e : Int)) (show (w : Int) ≠ 0 by omega)
  unfold up; omega
theorem fFold_snoc (ks : List Nat) (k : Nat) : fFold (ks ++ [k]) = fStep (fFold ks) k := by unfold fFold; rw [List.foldl_append]; rfl
theorem fFold_pos : ∀ ks : List Nat, 0 < (fFold ks).2.2 := fun ks => by
  have : ∀ (ks : List Nat) (st : List Nat × Nat × Nat), 0 < st.2.2 → 0 < (ks.foldl fStep st).2.2 := by
    intro ks
    induction ks with
    | nil => intro st h; exact h
    | cons k ks ih => intro st h; exact ih _ (by show 0 < max st.2.2 (wid k); omega)
  exact this ks _ (by decide)
theorem fKinds_len (n : Int) : (fKinds n).length ≤ 3 := by
  unfold fKinds; rw [List.length_map, List.length_range]; omega
theorem fFold_len (ks : List Nat) : (fFold ks).1.length = ks.length := by
  have : ∀ (ks : List Nat) (st : List Nat × Nat × Nat), (ks.foldl fStep st).1.length = st.1.length + ks.length := by
    intro ks
    induction ks with
    | nil => intro st; rfl
    | cons k ks ih => intro st; rw [List.foldl_cons, ih]; simp [fStep]; omega
  rw [fFold, this]; simp
theorem fn_form {n : Int} {ld : Ld} : Fn 839 1 [.i n] ld (fun p ld' => ∃ a b x, p = .v (.ref x) ∧ ld' = ld ++ [(a, .sq "list" (nz (fKinds n))), (b, .sq "list" (nz (fFold (fKinds n)).1)),
    (x, .sq "tuple" [.v (.ref a), .v (.ref b), .i (fLen (fKinds n) : Nat), .i (fAlign n (fKinds n) : Nat), .i (fCount n : Nat)])]) := by
  refine Fn.less (Fn_introC (P := fun p ld' => ∃ c y a b x, p = .v (.ref x) ∧ ld' = (c, PO.cell (.i n)) :: ld ++ [(a, .sq "list" (nz (fKinds n))), (b, .sq "list" (nz (fFold (fKinds n)).1)), y,
    (x, .sq "tuple" [.v (.ref a), .v (.ref b), .i (fLen (fKinds n) : Nat), .i (fAlign n (fKinds n) : Nat), .i (fCount n : Nat)])]) ["number"] [] f839 c839 (by walk_at "intro") (by decide +kernel) (by decide) (fun x p h => by cases h) (by decide +kernel) ?_ (by kernel_rfl) (by kernel_rfl) (by kernel_rfl)) ?_
  · intro w A h₀ L mg mb os gens k' hk
    change Bl _ [] ((L + 1, PO.cell (.i n)) :: ld) _ _
    have hm : 0 ≤ 1 + n % 3 ∧ 1 + n % 3 ≤ 3 := by omega
    obtain ⟨m, hm1⟩ : ∃ m : Nat, 1 + n % 3 = m := ⟨(1 + n % 3).toNat, by omega⟩
    refine' Bl_asg (p := .i (m : Nat)) (Ev.cast ?e1 hm1) ?k1 (by kernel_rfl)
    case e1 => walk_at "ev"
    refine' Bl_asgM (fun i => .i ((n / 3 + (0 + (i : Nat) * 1) * (3 + n / 24)) % 8)) (Sc_range (n := m) (Ea_rng (by kernel_rfl)) ?e2 (by omega)) (fun y hy => nomatch hy) (by omega) ?t2 ?k2 (cl := [("number", L + 1)]) (by with_unfolding_all rfl) (by decide +kernel) (by kernel_rfl) (by decide +kernel) (by kernel_rfl) (by kernel_rfl) (by with_unfolding_all rfl)
    case e2 => walk_at "ev"
    case t2 =>
      intro i hi ex h L'
      walk_at "ev"
    intro a
    have hks : (List.range m).map (fun i => PV.i ((n / 3 + (0 + (i : Nat) * 1) * (3 + n / 24)) % 8)) = nz (fKinds n) := by
      unfold nz fKinds
      rw [List.map_map, show (1 + n % 3).toNat = m by omega]
      refine List.map_congr_left fun i _ => ?_
      show PV.i _ = PV.i _
      have e : (0 : Int) + (i : Int) * 1 = i := by omega
      rw [e, Int.toNat_of_nonneg (Int.emod_nonneg _ (by decide))]
    rw [hks]
    generalize hK : fKinds n = ks at *
    have hl3 : ks.length ≤ 3 := hK ▸ fKinds_len n
    change Bl _ [("kinds", .v (.ref a)), ("many", .i (m : Nat))] ((L + 1, PO.cell (.i n)) :: ld ++ [(a, .sq "list" (nz ks))]) _ _
    refine' Bl_unps ["places", "end", "align"] (Ex_tup (P := fun (ps : List PV) (ld' : Ld) => ∃ b : Addr, ps = [PV.v (Value.ref b), PV.i 0, PV.i 1] ∧ ld' = (L + 1, PO.cell (.i n)) :: ld ++ [(a, .sq "list" (nz ks)), (b, .sq "list" [])])
      (Ag_cons (Ex_listE (ps := []) .nil) ?g3 (by with_unfolding_all rfl)) ?l4) ?k4 ?k3 (by with_unfolding_all rfl) (by with_unfolding_all rfl)
    case l4 => refine elA10 ?_; intro b; exact (by decide : 3 ≤ 2 ^ 20)
    case k4 => kernel_rfl
    case g3 =>
      refine elA10 ?_; intro b
      refine Ag_1 (Ea.ev Ea_int) (Ag_1 (Ea.ev Ea_int) (Ag_end ⟨b, rfl, ?_⟩) (by with_unfolding_all rfl)) (by with_unfolding_all rfl)
      rw [List.append_assoc]; rfl
    rintro p ld' ⟨y, ps, ld₁, ⟨b, rfl, rfl⟩, rfl, rfl⟩
    refine ⟨y, _, rfl, List.mem_append_right _ (.head _), rfl, ?_⟩
    rw [List.append_assoc]
    change Bl _ [("places", .v (.ref b)), ("end", .i 0), ("align", .i 1), ("kinds", .v (.ref a)), ("many", .i (m : Nat))] ((L + 1, PO.cell (.i n)) :: ld ++ [(a, .sq "list" (nz ks)), (b, .sq "list" []), (y, _)]) _ _
    generalize PO.sq "tuple" [.v (.ref b), .i 0, .i 1] = yo
    refine' Bl_for (α := Unit) (fun i _ => [("places", .v (.ref b)), ("end", .i ((fFold (ks.take i)).2.1 : Nat)), ("align", .i ((fFold (ks.take i)).2.2 : Nat)), ("kinds", .v (.ref a)), ("many", .i (m : Nat))])
      (fun i _ => (L + 1, PO.cell (.i n)) :: ld ++ [(a, .sq "list" (nz ks)), (b, .sq "list" (nz (fFold (ks.take i)).1)), (y, yo)]) (fun _ _ => True) (Sc_list (l := a) (xs := nz ks) ?e5 ?m5) () trivial ?l5 ?d5 ?n5 ?t5 ?k5
    case e5 => walk_at "ev"
    case m5 => exact List.mem_append_right _ (.head _)
    case l5 => exact fun _ _ h => h
    case d5 => rfl
    case n5 => intro i _ _ z hz; rw [List.mem_singleton.mp hz]; exact List.mem_append_right _ (.head _)
    case t5 =>
      intro i _ hi _ it o
      rw [nz_len] at hi
      rw [nz_get hi]
      have htk : ks.take (i + 1) = ks.take i ++ [ks.getD i 0] := by
        rw [List.take_add_one, List.getD_eq_getElem?_getD, List.getElem?_eq_getElem hi]; rfl
      delta Kt
      simp only [htk, fFold_snoc]
      have hfl := fFold_len (ks.take i)
      rw [List.length_take] at hfl
      generalize fFold (ks.take i) = st at *
      generalize ks.getD i 0 = kd
      refine ⟨_, _, Sto_loc (by kernel_rfl), ?_⟩
      have hw := wid_pos kd
      refine' Bl_asg (p := .i (wid kd : Nat)) (Ev.cast ?e6 ?q6) ?k6 (by kernel_rfl)
      case e6 => walk_at "ev"
      case q6 =>
        unfold wid
        have : (((kd : Nat) : Int) % 4).toNat = kd % 4 := by omega
        rw [this]; simp
      refine' Bl_asg (p := .i (up st.2.1 (wid kd) : Nat)) (Ev.cast ?e7 (up_int hw.1).symm) ?k7 (by kernel_rfl)
      case e7 => walk_at "ev"
      refine Bl_eq (ld' := ((L + 1, PO.cell (.i n)) :: ld ++ [(a, .sq "list" (nz ks))]) ++ (b, .sq "list" (nz st.1)) :: [(y, yo), (it, o)]) ?_
      refine' Bl_app ?o8 (p := .i (up st.2.1 (wid kd) : Nat)) ?e8 ?z8 ?k8
      case o8 => walk_at "ea"
      case e8 => walk_at "ev"
      case z8 => rw [nz_len]; omega
      refine' Bl_unps ["end", "align"] (Ex_tupE (ps := [PV.i (up st.2.1 (wid kd) + wid kd : Nat), PV.i (max st.2.2 (wid kd) : Nat)]) (.cons ?s9 (Ev.cast ?e9 ?q9) (.cons ?s10 (Ev.cast ?e10 ?q10) .nil))) ?k9 ?j9 (by with_unfolding_all rfl) (by with_unfolding_all rfl)
      case s9 => with_unfolding_all rfl
      case s10 => with_unfolding_all rfl
      case e9 => walk_at "ev"
      case q9 => exact (Int.natCast_add _ _).symm
      case e10 => walk_at "ev"
      case q10 => omega
      case k9 => kernel_rfl
      refine elA10 ?_; intro u
      refine ⟨u, _, rfl, List.mem_append_right _ (.head _), rfl, ?_⟩
      have hz : nz (fStep st kd).1 = nz st.1 ++ [PV.i (up st.2.1 (wid kd) : Nat)] := by unfold nz fStep; rw [List.map_append]; rfl
      refine Bl_sub (List.sublist_append_left _ _) (List.Perm.refl _) (Bl_nil ⟨.inl rfl, (), trivial, ?_, ?_⟩)
      · refine lsub_cons (by with_unfolding_all rfl) (lsub_cons (by with_unfolding_all rfl) (lsub_cons (by with_unfolding_all rfl) (lsub_cons (by with_unfolding_all rfl) (lsub_cons (by with_unfolding_all rfl) lsub_nil))))
      · rw [hz]; simp only [List.append_assoc, List.cons_append, List.nil_append]
    case k5 =>
      intro _ _
      have htk : ks.take (nz ks).length = ks := by rw [nz_len, List.take_length]
      simp only [htk]
      have hpos := fFold_pos ks
      have hfl := fFold_len ks
      refine' Bl_asg (p := .i (fLen ks : Nat)) (Ev.cast ?e11 (up_int hpos).symm) ?k11 (by kernel_rfl)
      case e11 => walk_at "ev"
      refine' Bl_ifj [("places", .v (.ref b)), ("end", .i (fLen ks : Nat)), ("align", .i (fAlign n ks : Nat)), ("kinds", .v (.ref a))] ((L + 1, PO.cell (.i n)) :: ld ++ [(a, .sq "list" (nz ks)), (b, .sq "list" (nz (fFold ks).1)), (y, yo)]) (Tr_and2 (Tr_eq ?e12 ?e13 (by with_unfolding_all rfl)) fun _ => Tr_eq ?e14 ?e15 (by with_unfolding_all rfl)) ?a16 ?b16 ?c16
      case e12 => walk_at "ev"
      case e13 => walk_at "ev"
      case e14 => walk_at "ev"
      case e15 => walk_at "ev"
      case a16 =>
        intro q
        rw [Bool.and_eq_true] at q
        have q1 := of_decide_eq_true q.1
        have q2 := of_decide_eq_true q.2
        refine' Bl_asg (p := .i (fAlign n ks : Nat)) (Ev.cast ?e17 ?q17) ?k17 (by kernel_rfl)
        case e17 => walk_at "ev"
        case q17 =>
          unfold fAlign
          rw [if_pos ⟨by omega, q2⟩]
          have : ((2 ^ (n / 18 % 6).toNat : Nat) : Int) = 2 ^ (n / 18 % 6).toNat := by simp
          omega
        exact Bl_nil ⟨rfl, lsub_cons (by with_unfolding_all rfl) (lsub_cons (by with_unfolding_all rfl) (lsub_cons (by with_unfolding_all rfl) (lsub_cons (by with_unfolding_all rfl) lsub_nil))), rfl⟩
      case b16 =>
        intro q
        have hal : fAlign n ks = (fFold ks).2.2 := by
          unfold fAlign
          rw [if_neg]
          rintro ⟨z1, z2⟩
          rw [decide_eq_true (by omega), decide_eq_true z2] at q
          cases q
        rw [hal]
        exact Bl_nil ⟨rfl, lsub_cons (by with_unfolding_all rfl) (lsub_cons (by with_unfolding_all rfl) (lsub_cons (by with_unfolding_all rfl) (lsub_cons (by with_unfolding_all rfl) lsub_nil))), rfl⟩
      refine' Bl_retx (Ex_tupE (ps := [PV.v (Value.ref a), PV.v (Value.ref b), PV.i (fLen ks : Nat), PV.i (fAlign n ks : Nat), PV.i (fCount n : Nat)]) (.cons ?s20 ?e20 (.cons ?s21 ?e21 (.cons ?s22 ?e22 (.cons ?s23 ?e23 (.cons ?s24 (Ev.cast ?e24 ?q24) .nil)))))) ?k24
      case s20 => with_unfolding_all rfl
      case s21 => with_unfolding_all rfl
      case s22 => with_unfolding_all rfl
      case s23 => with_unfolding_all rfl
      case s24 => with_unfolding_all rfl
      case e20 => walk_at "ev"
      case e21 => walk_at "ev"
      case e22 => walk_at "ev"
      case e23 => walk_at "ev"
      case e24 => walk_at "ev"
      case q24 => unfold fCount; omega
      refine elA10 ?_; intro x
      exact ⟨L + 1, (y, yo), a, b, x, rfl, by simp only [List.append_assoc, List.cons_append, List.nil_append]⟩
  · refine elA50 ?_; intro c y a b x
    exact ⟨_, _, .cons _ (List.Sublist.append_left (.cons_cons _ (.cons_cons _ (.cons _ (List.Sublist.refl _)))) _), List.Perm.refl _, a, b, x, rfl, rfl⟩
def wBound (kd : Nat) : Int := 256 ^ (2 ^ (kd % 4))
def wRaw (part : List Int) (kinds : List Nat) (item k : Nat) : Int := (part.getD ((item + k + 1) % part.length) 0 + 37 * item + 11 * k) % wBound (kinds.getD k 0)
def wOne (part : List Int) (kinds : List Nat) (item k : Nat) : Int := if 3 < kinds.getD k 0 ∧ wBound (kinds.getD k 0) / 2 ≤ wRaw part kinds item k then wRaw part kinds item k - wBound (kinds.getD k 0) else wRaw part kinds item k
def worths (part : List Int) (kinds : List Nat) (item : Nat) : List Int := (List.range kinds.length).map (wOne part kinds item)
def zz (l : List Int) : List PV := l.map .i
theorem zz_len (l : List Int) : (zz l).length = l.length := List.length_map _
theorem zz_get {l : List Int} {i : Nat} (h : i < l.length) : (zz l)[i]? = some (.i (l.getD i 0)) := by
  unfold zz
  rw [List.getElem?_map, List.getD_eq_getElem?_getD, List.getElem?_eq_getElem h]; rfl
theorem nz_at {l : List Nat} {i : Nat} (h : i < l.length) : (nz l)[i]? = some (.i (l.getD i 0 : Nat)) := by
  unfold nz
  rw [List.getElem?_map, List.getD_eq_getElem?_getD, List.getElem?_eq_getElem h]; rfl
theorem idx_nat {xs : List PV} {k : Int} {i : Nat} {q : PV} (e : k = i) (h : xs[i]? = some q) : idx xs k = some q := by
  subst e; unfold idx; rw [if_pos (by omega), Int.toNat_natCast]; exact h
theorem wBound_pos (kd : Nat) : 0 < wBound kd ∧ wBound kd ≤ 18446744073709551616 := by
  unfold wBound
  have h : kd % 4 = 0 ∨ kd % 4 = 1 ∨ kd % 4 = 2 ∨ kd % 4 = 3 := by omega
  rcases h with h | h | h | h <;> rw [h] <;> decide
theorem fn_worths {ld : Ld} {pa ka : Addr} {part : List Int} {kinds : List Nat} {item : Nat} (hp : (pa, PO.sq "list" (zz part)) ∈ ld) (hk : (ka, PO.sq "list" (nz kinds)) ∈ ld) (hpl : 0 < part.length) (hpz : part.length ≤ 64) (hkz : kinds.length ≤ 64) :
    Fn 846 1 [.v (.ref pa), .v (.ref ka), .i item] ld (fun p ld' => ∃ x, p = .v (.ref x) ∧ ld' = ld ++ [(x, .sq "list" (zz (worths part kinds item)))]) := by
  have hz := zz_len part
  have hn := nz_len kinds
  refine Fn_intro ["part", "kinds", "item"] f846 c846 (by walk_at "intro") (by decide +kernel) (by decide) ?_ (by kernel_rfl) (by kernel_rfl) (by kernel_rfl) (by decide +kernel)
  intro w A h₀ L mg mb os gens k' hk'
  refine' Bl_asgx (Ex_listE (ps := []) .nil) ?k1 (by kernel_rfl)
  refine elA10 ?_; intro x
  refine' Bl_for (α := Unit) (fun i _ => [("worths", .v (.ref x)), ("part", .v (.ref pa)), ("kinds", .v (.ref ka)), ("item", .i item)]) (fun i _ => ld ++ [(x, .sq "list" (zz ((List.range i).map (wOne part kinds item))))]) (fun _ _ => True)
    (Sc_range (n := kinds.length) (Ea_rng (by kernel_rfl)) (Ev.cast ?e2 ?q2) (by omega)) () trivial (fun _ _ h => h) ?d2 ?n2 ?t2 ?k2
  case e2 => walk_at "ev"
  case q2 => rw [hn]
  case d2 => rfl
  case n2 => intro _ _ _ _ h; cases h
  case t2 =>
    intro i _ hi _ it o
    refine ⟨_, _, Sto_loc (by kernel_rfl), ?_⟩
    have hik := nz_at hi
    have hm : (item + i + 1) % part.length < part.length := Nat.mod_lt _ hpl
    have hip := zz_get hm
    have hb := wBound_pos (kinds.getD i 0)
    generalize hkd : kinds.getD i 0 = kd at *
    generalize hpv : part.getD ((item + i + 1) % part.length) 0 = pv at *
    refine' Bl_asg (p := .i (wBound kd)) (Ev.cast (Ev_pow ?e3 (Ev_pow ?e4 (Ev_modp (Ev_itl ?e5 ?e6 ?m6 ?z6 (idx_nat ?j6 hik)) ?e7 ?z7) ?z8 ?z9 ?z10) ?z11 ?z12 ?z13) ?q3) ?k3 (by kernel_rfl)
    case e3 => walk_at "ev"
    case e4 => walk_at "ev"
    case e5 => walk_at "ev"
    case m6 => walk_at "mem"
    case e6 => walk_at "ev"
    case e7 => walk_at "ev"
    case z6 => omega
    case j6 => omega
    case z7 => omega
    case z8 => omega
    case z9 => omega
    case z10 => decide
    case z11 => exact Int.pow_nonneg (by omega)
    case z12 =>
      have h : ((kd : Nat) : Int) % 4 = 0 ∨ ((kd : Nat) : Int) % 4 = 1 ∨ ((kd : Nat) : Int) % 4 = 2 ∨ ((kd : Nat) : Int) % 4 = 3 := by omega
      rcases h with h | h | h | h <;> rw [h] <;> decide
    case z13 => decide
    case q3 =>
      unfold wBound
      have h : (((kd : Nat) : Int) % 4).toNat = kd % 4 := by omega
      rw [h]
      congr 1
    have hr : wRaw part kinds item i = (pv + 37 * item + 11 * i) % wBound kd := by unfold wRaw; rw [hkd, hpv]
    have ho : wOne part kinds item i = if 3 < kd ∧ wBound kd / 2 ≤ wRaw part kinds item i then wRaw part kinds item i - wBound kd else wRaw part kinds item i := by unfold wOne; rw [hkd]
    generalize wRaw part kinds item i = rr at *
    refine' Bl_asg (p := .i rr) (Ev.cast (Ev_modp (Ev_add (Ev_add (Ev_itl ?e14 (Ev_modp ?e15 ?e16 ?z16) ?m14 ?z14 (idx_nat ?j14 hip)) ?e17) ?e18) ?e19 hb.1) ?q20) ?k20 (by kernel_rfl)
    case e14 => walk_at "ev"
    case m14 => walk_at "mem"
    case e15 => walk_at "ev"
    case e16 => walk_at "ev"
    case e17 => walk_at "ev"
    case e18 => walk_at "ev"
    case e19 => walk_at "ev"
    case z16 => omega
    case z14 => omega
    case j14 => rw [hz, Int.natCast_emod]; congr 1; omega
    case q20 => rw [hr]; congr 1; omega
    refine Bl_eq (ld' := ld ++ (x, .sq "list" (zz ((List.range i).map (wOne part kinds item)))) :: [(it, o)]) ?_
    refine' Bl_app ?o21 (p := .i (wOne part kinds item i)) (Ev_ite (Tr_and2 (Tr_gt (Ev_itl ?e22 ?e23 ?m22 ?z22 (idx_nat ?j22 hik)) ?e24 (by with_unfolding_all rfl)) fun _ => Tr_ge ?e25 ?e26 (by with_unfolding_all rfl)) (fun q => Ev.cast ?e27 ?q27) (fun q => Ev.cast ?e28 ?q28)) ?z21 ?k21
    case o21 => walk_at "ea"
    case e22 => walk_at "ev"
    case m22 => walk_at "mem"
    case e23 => walk_at "ev"
    case e24 => walk_at "ev"
    case e25 => walk_at "ev"
    case e26 => walk_at "ev"
    case e27 => walk_at "ev"
    case e28 => walk_at "ev"
    case z22 => omega
    case j22 => omega
    case q27 =>
      rw [Bool.and_eq_true, decide_eq_true_eq, decide_eq_true_eq] at q
      rw [ho, if_pos ⟨by omega, q.2⟩]
    case q28 =>
      rw [ho, if_neg]
      rintro ⟨q1, q2⟩
      rw [decide_eq_true (by omega), decide_eq_true q2] at q
      cases q
    case z21 => rw [zz_len, List.length_map, List.length_range]; omega
    refine Bl_nil ⟨.inl rfl, (), trivial, lsub_cons (by with_unfolding_all rfl) (lsub_cons (by with_unfolding_all rfl) (lsub_cons (by with_unfolding_all rfl) (lsub_cons (by with_unfolding_all rfl) lsub_nil))), ?_⟩
    unfold zz
    dsimp only
    rw [List.range_succ, List.map_append, List.map_append]
    simp only [List.append_assoc, List.cons_append, List.nil_append]
    rfl
  case k2 =>
    intro _ _
    refine' Bl_ret ?e30 ⟨x, rfl, rfl⟩
    case e30 => walk_at "ev"
theorem so_tB (P : Params) : slotOk (frag P) 816 "Bytes" 0 = true := by kernel_rfl
theorem so_tP (P : Params) : slotOk (frag P) 816 "Pos" 1 = true := by kernel_rfl
theorem mk816 (P : Params) : makeOk (frag P) 816 749 = true := by kernel_rfl
theorem Ea_self {C : Cn} {lc : Lc} {ld : Ld} {op : Pos} {x : Addr} (hl : List.lookup (Str.ofString "self") lc = some (PV.v (.ref x))) (hk : C.env.kindOf "self" = some .local) : Ea C lc ld (.Name "self" op) (.v (.ref x)) := Ea_loc hl hk (by decide)
/-- a table of the ledger -/
structure TbAt (ld : Ld) (t dx d : Addr) (pos : Int) (bs : List UInt8) : Prop where
  hm : (t, PO.ins 816 dx [some (.v (.ref d)), some (.i pos)]) ∈ ld
  hd : (dx, PO.raw (dictOf [] 0)) ∈ ld
  hb : (d, PO.ba bs) ∈ ld
  hz : bs.length ≤ 2 ^ 20
section
variable {C : Cn} {lc : Lc} {ld : Ld} {t dx d : Addr} {pos : Int} {bs : List UInt8}
theorem TbAt.atBytes (T : TbAt ld t dx d pos bs) : At C lc ld (.v (.ref t)) "Bytes" (.v (.ref d)) := At_slot (i := 0) T.hm T.hd so_tB rfl hi_ref
theorem TbAt.atPos (T : TbAt ld t dx d pos bs) : At C lc ld (.v (.ref t)) "Pos" (.i pos) := At_slot (i := 1) T.hm T.hd so_tP rfl hi_int
end
theorem uo_in {n : Int} (h0 : 0 ≤ n) (h1 : n ≤ 2 ^ 21) : FK.uo.lo ≤ n ∧ n ≤ FK.uo.hi := by
  have q1 : FK.uo.lo ≤ 0 := by decide
  have q2 : (2147483647 : Int) ≤ FK.uo.hi := by decide
  omega
theorem FK.w_pos (k : FK) : 1 ≤ k.w ∧ k.w ≤ 8 := by cases k <;> decide
theorem fn_TInit {ld : Ld} {b dx d : Addr} {n : Int} (h0 : 0 ≤ n) (h1 : n ≤ 2 ^ 20) : Fn 749 2 [.v (.ref b), .v (.ref d), .i n] ((b, .ins 816 dx []) :: (dx, .raw (dictOf [] 0)) :: ld)
    (fun p ld' => p = .v .none ∧ ld' = (b, .ins 816 dx [some (.v (.ref d)), some (.i n)]) :: (dx, .raw (dictOf [] 0)) :: ld) := by
  refine Fn_intro ["self", "buf", "pos"] f749 c749 (by walk_at "intro") (by decide +kernel) (by decide) ?_ (by kernel_rfl) (by kernel_rfl) (by kernel_rfl) (by decide +kernel)
  intro w A h₀ L mg mb os gens k' hk
  refine' Bl_ex (Ex_f2 (fn_enf (k := .uo) (uo_in h0 (by omega))) (Ea_glob g214 (by kernel_rfl)) (by walk_at "side") k214 ?e1 ?e2) ?k1 (by kernel_rfl) (by with_unfolding_all rfl)
  case e1 => walk_at "ev"
  case e2 => walk_at "ev"
  refine elF00 ?_
  refine ⟨trivial, ?_⟩
  refine' Bl_stx 0 (Ev.ex ?e3) (fun _ => Ea_self (by with_unfolding_all rfl) (by kernel_rfl)) ?k3 so_tB
  case e3 => walk_at "ev"
  refine elF00 ?_
  refine ⟨_, rfl, ?_⟩
  refine' Bl_stx 1 (Ev.ex ?e4) (fun _ => Ea_self (by with_unfolding_all rfl) (by kernel_rfl)) ?k4 so_tP
  case e4 => walk_at "ev"
  refine elF00 ?_
  exact ⟨_, rfl, Bl_nil ⟨rfl, rfl⟩⟩
theorem fn_TGet {k : FK} {ld : Ld} {t dx d : Addr} {pos off : Int} {bs : List UInt8} (T : TbAt ld t dx d pos bs) (h0 : 0 ≤ off) (h1 : off + k.w ≤ bs.length) : Fn 798 2 [.v (.ref t), .v (.ref k.addr), .i off] ld (fun p ld' => p = .i (k.de bs off) ∧ ld' = ld) := by
  have hz := T.hz
  have hw := k.w_pos
  refine Fn_intro ["self", "flags", "off"] f798 c798 (by walk_at "intro") (by decide +kernel) (by decide) ?_ (by kernel_rfl) (by kernel_rfl) (by kernel_rfl) (by decide +kernel)
  intro w A h₀ L mg mb os gens k' hk
  refine' Bl_ex (Ex_f2 (fn_enf (k := .uo) (uo_in h0 (by omega))) (Ea_glob g214 (by kernel_rfl)) (by walk_at "side") k214 ?e1 ?e2) ?k1 (by kernel_rfl) (by with_unfolding_all rfl)
  case e1 => walk_at "ev"
  case e2 => walk_at "ev"
  refine elF00 ?_
  refine ⟨trivial, ?_⟩
  refine' Bl_ret (Ex_py (k := k) ?o2 (Ex_f3 (fn_EGet (k := k) T.hb h0 h1 hz) (Ea_glob gGe (by kernel_rfl)) (by walk_at "side") k221 ?e3 ?e4 ?e5) ?k3) ⟨rfl, rfl⟩
  case o2 => walk_at "ea"
  case e3 => walk_at "ev"
  case e4 => exact Ea.ev (Ea_attr (Ea_self (by with_unfolding_all rfl) (by kernel_rfl)) T.atBytes)
  case e5 => walk_at "ev"
  exact fun _ _ h => h
theorem Ev_TGet {C : Cn} {lc : Lc} {ld : Ld} {k : FK} {t dx d : Addr} {pos off : Int} {bs : List UInt8} {o : Str} {op ap cp : Pos} {e1 e2 : Expr} (T : TbAt ld t dx d pos bs) (ho : Ea C lc ld (.Name o op) (.v (.ref t))) (he1 : Ev C lc ld e1 (.v (.ref k.addr))) (he2 : Ev C lc ld e2 (.i off)) (h0 : 0 ≤ off) (h1 : off + k.w ≤ bs.length) (hk : 2 ≤ C.k)
    (hp : methOk [e1, e2] ap cp = true := by with_unfolding_all rfl) (hs : isStar e1 = false := by with_unfolding_all rfl) (hs' : isStar e2 = false := by with_unfolding_all rfl) : Ev C lc ld (.Call (.Attribute (.Name o op) "Get" ap) [e1, e2] [] cp) (.i (k.de bs off)) :=
  (Ex_m2 (fn_TGet (k := k) T h0 h1) ho T.hm T.hd m798 (by kernel_rfl) hk he1 he2 hp hs hs').ev fun _ _ h => h
theorem fn_TOffset {ld : Ld} {t dx d : Addr} {pos v vt : Int} {bs : List UInt8} (T : TbAt ld t dx d pos bs) (hp0 : 0 ≤ pos) (hp1 : pos + 4 ≤ bs.length) (hvt : vt = pos - FK.so.de bs pos) (h0 : 0 ≤ vt) (h1 : vt + 2 ≤ bs.length) (hv0 : 0 ≤ v) (hv : v < FK.vo.de bs vt) (hv2 : vt + v + 2 ≤ bs.length) :
    Fn 756 3 [.v (.ref t), .i v] ld (fun p ld' => p = .i (FK.vo.de bs (vt + v)) ∧ ld' = ld) := by
  have hz := T.hz
  refine Fn_intro ["self", "vtableOffset"] f756 c756 (by walk_at "intro") (by decide +kernel) (by decide) ?_ (by kernel_rfl) (by kernel_rfl) (by kernel_rfl) (by decide +kernel)
  intro w A h₀ L mg mb os gens k' hk
  refine' Bl_asg (p := .i vt) (Ev.cast ?e0 hvt.symm) ?k1 (by kernel_rfl)
  case e0 =>
    refine' Ev_sub (Ea.ev (Ea_attr (Ea_self (by with_unfolding_all rfl) (by kernel_rfl)) T.atPos)) (Ev_TGet (k := .so) T (Ea_self (by with_unfolding_all rfl) (by kernel_rfl)) ?e1 (Ea.ev (Ea_attr (Ea_self (by with_unfolding_all rfl) (by kernel_rfl)) T.atPos)) hp0 hp1 hk)
    case e1 => walk_at "ev"
  refine' Bl_asg (Ev_TGet (k := .vo) T (Ea_self (by with_unfolding_all rfl) (by kernel_rfl)) ?e2 ?e3 h0 h1 hk) ?k2 (by kernel_rfl)
  case e2 => walk_at "ev"
  case e3 => walk_at "ev"
  refine' Bl_if (Tr_lt ?e4 ?e5 (by with_unfolding_all rfl)) ?a5 ?b5
  case e4 => walk_at "ev"
  case e5 => walk_at "ev"
  case a5 =>
    intro _
    refine' Bl_ret (Ev_TGet (k := .vo) T (Ea_self (by with_unfolding_all rfl) (by kernel_rfl)) ?e6 ?e7 (by omega) hv2 hk) ⟨rfl, rfl⟩
    case e6 => walk_at "ev"
    case e7 => walk_at "ev"
  case b5 => intro q; rw [decide_eq_true hv] at q; cases q
theorem fn_TVecLen {ld : Ld} {t dx d : Addr} {pos off o1 o2 : Int} {bs : List UInt8} (T : TbAt ld t dx d pos bs) (hf0 : 0 ≤ off) (hf1 : off ≤ 2 ^ 20) (e1 : o1 = off + pos) (h0 : 0 ≤ o1) (h1 : o1 + 4 ≤ bs.length) (e2 : o2 = o1 + FK.uo.de bs o1) (h2 : 0 ≤ o2) (h3 : o2 + 4 ≤ bs.length) :
    Fn 777 2 [.v (.ref t), .i off] ld (fun p ld' => p = .i (FK.uo.de bs o2) ∧ ld' = ld) := by
  have hz := T.hz
  refine Fn_intro ["self", "off"] f777 c777 (by walk_at "intro") (by decide +kernel) (by decide) ?_ (by kernel_rfl) (by kernel_rfl) (by kernel_rfl) (by decide +kernel)
  intro w A h₀ L mg mb os gens k' hk
  refine' Bl_ex (Ex_f2 (fn_enf (k := .uo) (uo_in hf0 (by omega))) (Ea_glob g214 (by kernel_rfl)) (by walk_at "side") k214 ?e1 ?e2) ?k1 (by kernel_rfl) (by with_unfolding_all rfl)
  case e1 => walk_at "ev"
  case e2 => walk_at "ev"
  refine elF00 ?_
  refine ⟨trivial, ?_⟩
  refine' Bl_aug (c := .i o1) (by with_unfolding_all rfl) (Ea.ev (Ea_attr (Ea_self (by with_unfolding_all rfl) (by kernel_rfl)) T.atPos)) (e1 ▸ op_iadd) ?k2 (by kernel_rfl)
  refine' Bl_aug (c := .i o2) (by with_unfolding_all rfl) ((Ex_f3 (fn_EGet (k := .uo) T.hb h0 h1 hz) (Ea_glob gGe (by kernel_rfl)) hk k221 ?e3 (Ea.ev (Ea_attr (Ea_self (by with_unfolding_all rfl) (by kernel_rfl)) T.atBytes)) ?e5).ev fun _ _ h => h) (e2 ▸ op_iadd) ?k3 (by kernel_rfl)
  case e3 => walk_at "ev"
  case e5 => walk_at "ev"
  refine' Bl_asg ((Ex_f3 (fn_EGet (k := .uo) T.hb h2 h3 hz) (Ea_glob gGe (by kernel_rfl)) hk k221 ?e6 (Ea.ev (Ea_attr (Ea_self (by with_unfolding_all rfl) (by kernel_rfl)) T.atBytes)) ?e8).ev fun _ _ h => h) ?k4 (by kernel_rfl)
  case e6 => walk_at "ev"
  case e8 => walk_at "ev"
  refine' Bl_ret ?e9 ⟨rfl, rfl⟩
  case e9 => walk_at "ev"
theorem fn_TVec {ld : Ld} {t dx d : Addr} {pos off o1 : Int} {bs : List UInt8} (T : TbAt ld t dx d pos bs) (hf0 : 0 ≤ off) (hf1 : off ≤ 2 ^ 20) (e1 : o1 = off + pos) (h0 : 0 ≤ o1) (h1 : o1 + 4 ≤ bs.length) :
    Fn 784 3 [.v (.ref t), .i off] ld (fun p ld' => p = .i (o1 + FK.uo.de bs o1 + 4) ∧ ld' = ld) := by
  have hz := T.hz
  refine Fn_intro ["self", "off"] f784 c784 (by walk_at "intro") (by decide +kernel) (by decide) ?_ (by kernel_rfl) (by kernel_rfl) (by kernel_rfl) (by decide +kernel)
  intro w A h₀ L mg mb os gens k' hk
  refine' Bl_ex (Ex_f2 (fn_enf (k := .uo) (uo_in hf0 (by omega))) (Ea_glob g214 (by kernel_rfl)) (by walk_at "side") k214 ?e1 ?e2) ?k1 (by kernel_rfl) (by with_unfolding_all rfl)
  case e1 => walk_at "ev"
  case e2 => walk_at "ev"
  refine elF00 ?_
  refine ⟨trivial, ?_⟩
  refine' Bl_aug (c := .i o1) (by with_unfolding_all rfl) (Ea.ev (Ea_attr (Ea_self (by with_unfolding_all rfl) (by kernel_rfl)) T.atPos)) (e1 ▸ op_iadd) ?k2 (by kernel_rfl)
  refine' Bl_asg (Ev_add ?e3 (Ev_TGet (k := .uo) T (Ea_self (by with_unfolding_all rfl) (by kernel_rfl)) ?e4 ?e5 h0 h1 hk)) ?k3 (by kernel_rfl)
  case e3 => walk_at "ev"
  case e4 => walk_at "ev"
  case e5 => walk_at "ev"
  refine' Bl_aug (by with_unfolding_all rfl) ?e6 op_iadd ?k6 (by kernel_rfl)
  case e6 => walk_at "ev"
  refine' Bl_ret ?e9 ⟨rfl, rfl⟩
  case e9 => walk_at "ev"
/-- the kinds of numbers -/
def kk : Nat → FK
  | 0 => .u8 | 1 => .u16 | 2 => .u32 | 3 => .u64 | 4 => .i8 | 5 => .i16 | 6 => .i32 | _ => .i64
theorem fn_prepend {b dx : Addr} {S : BS} {r : Ld} {kd : Nat} {n : Int} (hkd : kd < 8) (hz : S.ok) (ht : S.tl.length ≤ 2 ^ 16) (hn : (kk kd).lo ≤ n ∧ n ≤ (kk kd).hi) :
    Fn 827 5 [.v (.ref b), .i kd, .i n] (B b dx S r) (fun p ld' => p = .v .none ∧ ∃ d jk, (S.to d jk (kk kd).w (S.num (kk kd) n)).okm (S.jk ++ S.tl).length ∧ ld' = B b dx (S.to d jk (kk kd).w (S.num (kk kd) n)) r) := by
  refine Fn_intro ["builder", "kind", "worth"] f827 c827 (by walk_at "intro") (by decide +kernel) (by decide) ?_ (by kernel_rfl) (by kernel_rfl) (by kernel_rfl) (by decide +kernel)
  intro w A h₀ L mg mb os gens k' hk
  refine' Bl_if (Tr_eq ?x0 ?y0 (by with_unfolding_all rfl)) ?a0 ?b0
  case x0 => walk_at "ev"
  case y0 => walk_at "ev"
  case a0 =>
    intro q
    have q := of_decide_eq_true q
    obtain rfl : kd = 0 := by omega
    refine' Bl_ex (Ex_m1 (fn_Pu8 hz ht hn) ?o0 (.head _) (.tail _ (.head _)) m626 (by kernel_rfl) (by walk_at "side") ?e0) ?k0 (by kernel_rfl) (by with_unfolding_all rfl)
    case o0 => walk_at "ea"
    case e0 => walk_at "ev"
    refine elR ?_; intro ld' h
    exact ⟨trivial, Bl_nil (Bl_nil (⟨rfl, h⟩))⟩
  case b0 =>
    intro q0
    have q0 := of_decide_eq_false q0
    refine' Bl_if (Tr_eq ?x1 ?y1 (by with_unfolding_all rfl)) ?a1 ?b1
    case x1 => walk_at "ev"
    case y1 => walk_at "ev"
    case a1 =>
      intro q
      have q := of_decide_eq_true q
      obtain rfl : kd = 1 := by omega
      refine' Bl_ex (Ex_m1 (fn_Pu16 hz ht hn) ?o1 (.head _) (.tail _ (.head _)) m633 (by kernel_rfl) (by walk_at "side") ?e1) ?k1 (by kernel_rfl) (by with_unfolding_all rfl)
      case o1 => walk_at "ea"
      case e1 => walk_at "ev"
      refine elR ?_; intro ld' h
      exact ⟨trivial, Bl_nil (Bl_nil (Bl_nil (⟨rfl, h⟩)))⟩
    case b1 =>
      intro q1
      have q1 := of_decide_eq_false q1
      refine' Bl_if (Tr_eq ?x2 ?y2 (by with_unfolding_all rfl)) ?a2 ?b2
      case x2 => walk_at "ev"
      case y2 => walk_at "ev"
      case a2 =>
        intro q
        have q := of_decide_eq_true q
        obtain rfl : kd = 2 := by omega
        refine' Bl_ex (Ex_m1 (fn_Pu32 hz ht hn) ?o2 (.head _) (.tail _ (.head _)) m640 (by kernel_rfl) (by walk_at "side") ?e2) ?k2 (by kernel_rfl) (by with_unfolding_all rfl)
        case o2 => walk_at "ea"
        case e2 => walk_at "ev"
        refine elR ?_; intro ld' h
        exact ⟨trivial, Bl_nil (Bl_nil (Bl_nil (Bl_nil (⟨rfl, h⟩))))⟩
      case b2 =>
        intro q2
        have q2 := of_decide_eq_false q2
        refine' Bl_if (Tr_eq ?x3 ?y3 (by with_unfolding_all rfl)) ?a3 ?b3
        case x3 => walk_at "ev"
        case y3 => walk_at "ev"
        case a3 =>
          intro q
          have q := of_decide_eq_true q
          obtain rfl : kd = 3 := by omega
          refine' Bl_ex (Ex_m1 (fn_Pu64 hz ht hn) ?o3 (.head _) (.tail _ (.head _)) m647 (by kernel_rfl) (by walk_at "side") ?e3) ?k3 (by kernel_rfl) (by with_unfolding_all rfl)
          case o3 => walk_at "ea"
          case e3 => walk_at "ev"
          refine elR ?_; intro ld' h
          exact ⟨trivial, Bl_nil (Bl_nil (Bl_nil (Bl_nil (Bl_nil (⟨rfl, h⟩)))))⟩
        case b3 =>
          intro q3
          have q3 := of_decide_eq_false q3
          refine' Bl_if (Tr_eq ?x4 ?y4 (by with_unfolding_all rfl)) ?a4 ?b4
          case x4 => walk_at "ev"
          case y4 => walk_at "ev"
          case a4 =>
            intro q
            have q := of_decide_eq_true q
            obtain rfl : kd = 4 := by omega
            refine' Bl_ex (Ex_m1 (fn_Pi8 hz ht hn) ?o4 (.head _) (.tail _ (.head _)) m654 (by kernel_rfl) (by walk_at "side") ?e4) ?k4 (by kernel_rfl) (by with_unfolding_all rfl)
            case o4 => walk_at "ea"
            case e4 => walk_at "ev"
            refine elR ?_; intro ld' h
            exact ⟨trivial, Bl_nil (Bl_nil (Bl_nil (Bl_nil (Bl_nil (Bl_nil (⟨rfl, h⟩))))))⟩
          case b4 =>
            intro q4
            have q4 := of_decide_eq_false q4
            refine' Bl_if (Tr_eq ?x5 ?y5 (by with_unfolding_all rfl)) ?a5 ?b5
            case x5 => walk_at "ev"
            case y5 => walk_at "ev"
            case a5 =>
              intro q
              have q := of_decide_eq_true q
              obtain rfl : kd = 5 := by omega
              refine' Bl_ex (Ex_m1 (fn_Pi16 hz ht hn) ?o5 (.head _) (.tail _ (.head _)) m661 (by kernel_rfl) (by walk_at "side") ?e5) ?k5 (by kernel_rfl) (by with_unfolding_all rfl)
              case o5 => walk_at "ea"
              case e5 => walk_at "ev"
              refine elR ?_; intro ld' h
              exact ⟨trivial, Bl_nil (Bl_nil (Bl_nil (Bl_nil (Bl_nil (Bl_nil (Bl_nil (⟨rfl, h⟩)))))))⟩
            case b5 =>
              intro q5
              have q5 := of_decide_eq_false q5
              refine' Bl_if (Tr_eq ?x6 ?y6 (by with_unfolding_all rfl)) ?a6 ?b6
              case x6 => walk_at "ev"
              case y6 => walk_at "ev"
              case a6 =>
                intro q
                have q := of_decide_eq_true q
                obtain rfl : kd = 6 := by omega
                refine' Bl_ex (Ex_m1 (fn_Pi32 hz ht hn) ?o6 (.head _) (.tail _ (.head _)) m668 (by kernel_rfl) (by walk_at "side") ?e6) ?k6 (by kernel_rfl) (by with_unfolding_all rfl)
                case o6 => walk_at "ea"
                case e6 => walk_at "ev"
                refine elR ?_; intro ld' h
                exact ⟨trivial, Bl_nil (Bl_nil (Bl_nil (Bl_nil (Bl_nil (Bl_nil (Bl_nil (Bl_nil (⟨rfl, h⟩))))))))⟩
              case b6 =>
                intro q6
                have q6 := of_decide_eq_false q6
                obtain rfl : kd = 7 := by omega
                refine' Bl_ex (Ex_m1 (fn_Pi64 hz ht hn) ?o7 (.head _) (.tail _ (.head _)) m675 (by kernel_rfl) (by walk_at "side") ?e7) ?k7 (by kernel_rfl) (by with_unfolding_all rfl)
                case o7 => walk_at "ea"
                case e7 => walk_at "ev"
                refine elR ?_; intro ld' h
                exact ⟨trivial, Bl_nil (Bl_nil (Bl_nil (Bl_nil (Bl_nil (Bl_nil (Bl_nil (Bl_nil (⟨rfl, h⟩))))))))⟩
theorem fn_got {ld : Ld} {t dx d : Addr} {pos off : Int} {bs : List UInt8} {kd : Nat} (hkd : kd < 8) (T : TbAt ld t dx d pos bs) (h0 : 0 ≤ off) (h1 : off + (kk kd).w ≤ bs.length) :
    Fn 834 3 [.v (.ref t), .i kd, .i off] ld (fun p ld' => p = .i ((kk kd).de bs off) ∧ ld' = ld) := by
  refine Fn_intro ["table", "kind", "place"] f834 c834 (by walk_at "intro") (by decide +kernel) (by decide) ?_ (by kernel_rfl) (by kernel_rfl) (by kernel_rfl) (by decide +kernel)
  intro w A h₀ L mg mb os gens k' hk
  refine' Bl_if (Tr_eq ?x0 ?y0 (by with_unfolding_all rfl)) ?a0 ?b0
  case x0 => walk_at "ev"
  case y0 => walk_at "ev"
  case a0 =>
    intro q
    have q := of_decide_eq_true q
    obtain rfl : kd = 0 := by omega
    refine' Bl_ret (Ev_TGet (k := .u8) T ?o0 ?e0 ?f0 h0 h1 hk) ⟨rfl, rfl⟩
    case o0 => walk_at "ea"
    case e0 => walk_at "ev"
    case f0 => walk_at "ev"
  case b0 =>
    intro q0
    have q0 := of_decide_eq_false q0
    refine Bl_nil ?_
    refine' Bl_if (Tr_eq ?x1 ?y1 (by with_unfolding_all rfl)) ?a1 ?b1
    case x1 => walk_at "ev"
    case y1 => walk_at "ev"
    case a1 =>
      intro q
      have q := of_decide_eq_true q
      obtain rfl : kd = 1 := by omega
      refine' Bl_ret (Ev_TGet (k := .u16) T ?o1 ?e1 ?f1 h0 h1 hk) ⟨rfl, rfl⟩
      case o1 => walk_at "ea"
      case e1 => walk_at "ev"
      case f1 => walk_at "ev"
    case b1 =>
      intro q1
      have q1 := of_decide_eq_false q1
      refine Bl_nil ?_
      refine' Bl_if (Tr_eq ?x2 ?y2 (by with_unfolding_all rfl)) ?a2 ?b2
      case x2 => walk_at "ev"
      case y2 => walk_at "ev"
      case a2 =>
        intro q
        have q := of_decide_eq_true q
        obtain rfl : kd = 2 := by omega
        refine' Bl_ret (Ev_TGet (k := .u32) T ?o2 ?e2 ?f2 h0 h1 hk) ⟨rfl, rfl⟩
        case o2 => walk_at "ea"
        case e2 => walk_at "ev"
        case f2 => walk_at "ev"
      case b2 =>
        intro q2
        have q2 := of_decide_eq_false q2
        refine Bl_nil ?_
        refine' Bl_if (Tr_eq ?x3 ?y3 (by with_unfolding_all rfl)) ?a3 ?b3
        case x3 => walk_at "ev"
        case y3 => walk_at "ev"
        case a3 =>
          intro q
          have q := of_decide_eq_true q
          obtain rfl : kd = 3 := by omega
          refine' Bl_ret (Ev_TGet (k := .u64) T ?o3 ?e3 ?f3 h0 h1 hk) ⟨rfl, rfl⟩
          case o3 => walk_at "ea"
          case e3 => walk_at "ev"
          case f3 => walk_at "ev"
        case b3 =>
          intro q3
          have q3 := of_decide_eq_false q3
          refine Bl_nil ?_
          refine' Bl_if (Tr_eq ?x4 ?y4 (by with_unfolding_all rfl)) ?a4 ?b4
          case x4 => walk_at "ev"
          case y4 => walk_at "ev"
          case a4 =>
            intro q
            have q := of_decide_eq_true q
            obtain rfl : kd = 4 := by omega
            refine' Bl_ret (Ev_TGet (k := .i8) T ?o4 ?e4 ?f4 h0 h1 hk) ⟨rfl, rfl⟩
            case o4 => walk_at "ea"
            case e4 => walk_at "ev"
            case f4 => walk_at "ev"
          case b4 =>
            intro q4
            have q4 := of_decide_eq_false q4
            refine Bl_nil ?_
            refine' Bl_if (Tr_eq ?x5 ?y5 (by with_unfolding_all rfl)) ?a5 ?b5
            case x5 => walk_at "ev"
            case y5 => walk_at "ev"
            case a5 =>
              intro q
              have q := of_decide_eq_true q
              obtain rfl : kd = 5 := by omega
              refine' Bl_ret (Ev_TGet (k := .i16) T ?o5 ?e5 ?f5 h0 h1 hk) ⟨rfl, rfl⟩
              case o5 => walk_at "ea"
              case e5 => walk_at "ev"
              case f5 => walk_at "ev"
            case b5 =>
              intro q5
              have q5 := of_decide_eq_false q5
              refine Bl_nil ?_
              refine' Bl_if (Tr_eq ?x6 ?y6 (by with_unfolding_all rfl)) ?a6 ?b6
              case x6 => walk_at "ev"
              case y6 => walk_at "ev"
              case a6 =>
                intro q
                have q := of_decide_eq_true q
                obtain rfl : kd = 6 := by omega
                refine' Bl_ret (Ev_TGet (k := .i32) T ?o6 ?e6 ?f6 h0 h1 hk) ⟨rfl, rfl⟩
                case o6 => walk_at "ea"
                case e6 => walk_at "ev"
                case f6 => walk_at "ev"
              case b6 =>
                intro q6
                have q6 := of_decide_eq_false q6
                refine Bl_nil ?_
                obtain rfl : kd = 7 := by omega
                refine' Bl_ret (Ev_TGet (k := .i64) T ?o7 ?e7 ?f7 h0 h1 hk) ⟨rfl, rfl⟩
                case o7 => walk_at "ea"
                case e7 => walk_at "ev"
                case f7 => walk_at "ev"
/-- four octets as a number -/
def rd (bs : List UInt8) (i : Nat) : Int := ((List.range 4).map fun k => ((bs.getD (i + k) 0).toNat : Int) * 256 ^ k).sum
theorem fn_read {ld : Ld} {d : Addr} {bs : List UInt8} {i : Nat} (hd : (d, PO.ba bs) ∈ ld) (h1 : i + 4 ≤ bs.length) (hz : bs.length ≤ 2 ^ 20) : Fn 863 1 [.v (.ref d), .i i] ld (fun p ld' => p = .i (rd bs i) ∧ ld' = ld) := by
  refine Fn.less (Fn_introC (P := fun p ld' => ∃ c1 c2 y, p = .i (rd bs i) ∧ ld' = c1 :: c2 :: ld ++ [y]) ["octets", "place"] [] f863 c863 (by walk_at "intro") (by decide +kernel) (by decide) (fun x p h => by cases h) (by decide +kernel) ?_ (by kernel_rfl) (by kernel_rfl) (by kernel_rfl)) ?_
  · intro w A h₀ L mg mb os gens k' hk
    change Bl _ [] ((L + 1 + 1, PO.cell (.i i)) :: (L + 1, PO.cell (.v (.ref d))) :: ld) _ _
    refine' Bl_retx (Ex_bix (f := .builtin "sum") (P := fun p ld' => ∃ acc, p = .v (.ref acc) ∧ ld' = (L + 1 + 1, PO.cell (.i i)) :: (L + 1, PO.cell (.v (.ref d))) :: ld ++ [(acc, .sq "list" (((List.range 4).map fun k => ((bs.getD (i + k) 0).toNat : Int) * 256 ^ k).map .i))])
      (P' := fun p ld' => ∃ acc, p = .i (rd bs i) ∧ ld' = (L + 1 + 1, PO.cell (.i i)) :: (L + 1, PO.cell (.v (.ref d))) :: ld ++ [(acc, .sq "list" (((List.range 4).map fun k => ((bs.getD (i + k) 0).toNat : Int) * 256 ^ k).map .i))]) (Ea_bi b_sum (by kernel_rfl) (by decide) (by kernel_rfl)) ?c1 ?c2) ?k1
    case c1 =>
      refine' (Ex_compM (fun k => .i (((bs.getD (i + k) 0).toNat : Int) * 256 ^ k)) (Sc_range (n := 4) (Ea_rng (by kernel_rfl)) (Ev.cast ?e1 ?q1) (by omega)) ?n1 (by omega) ?t1 (cl := [("place", L + 1 + 1), ("octets", L + 1)]) (by with_unfolding_all rfl) (by decide +kernel) (by kernel_rfl) (by decide +kernel) (by kernel_rfl)).mono ?m1
      case e1 => walk_at "ev"
      case q1 => rfl
      case n1 => intro _ h; cases h
      case t1 =>
        intro k hk4 ex h L'
        refine' Ev.cast (Ev_mul (Ev_ito (bs := bs) (k := (i : Int) + (0 + (k : Nat) * 1)) ?e2 ?e3 ?m3 (by omega) (by omega) hz) (Ev_pow ?e4 ?e5 ?y4 ?y5 ?y6) ?z5) ?q5
        case e2 => walk_at "ev"
        case e3 => walk_at "ev"
        case m3 => walk_at "mem"
        case e4 => walk_at "ev"
        case e5 => walk_at "ev"
        case y4 => omega
        case y5 => omega
        case y6 => decide
        case z5 =>
          right
          have := (bs.getD ((i : Int) + (0 + (k : Nat) * 1)).toNat 0).toNat_lt
          omega
        case q5 =>
          have e1 : ((i : Int) + (0 + (k : Int) * 1)).toNat = i + k := by omega
          have e2 : ((0 : Int) + (k : Int) * 1).toNat = k := by omega
          rw [e1, e2]
      case m1 =>
        refine elA10 ?_; intro acc
        refine ⟨acc, rfl, ?_⟩
        rw [List.map_map]; rfl
    case c2 =>
      refine elA10 ?_; intro acc
      refine fun ok lc s I vs rs Q E q => bi_sum (ns := (List.range 4).map fun k => ((bs.getD (i + k) 0).toNat : Int) * 256 ^ k) (List.mem_append_right _ (.head _)) ok lc s I vs rs Q E fun v p ld' s' I' r ⟨a, b⟩ => q v p ld' s' I' r ⟨acc, a, b⟩
    refine elA10 ?_; intro acc
    exact ⟨_, _, _, rfl, rfl⟩
  · refine elA30 ?_; intro c1 c2 y
    exact ⟨_, _, .cons _ (.cons _ (List.sublist_append_left _ _)), List.Perm.refl _, rfl, rfl⟩
/-- more content, its alignment left open -/
abbrev BS.too (S : BS) (d : Addr) (jk : List UInt8) (ma : Int) (e : List UInt8) : BS := { S with d := d, jk := jk, ma := ma, tl := e ++ S.tl }
def mwid (ks : List Nat) : Int := lmax (ks.map fun k => (wid k : Int))
abbrev zer (n : Nat) : List UInt8 := List.replicate n 0
/-- the octets of a struct's last i numbers -/
def sPart (ks ps : List Nat) (ws : List Int) (len : Nat) : Nat → List UInt8
  | 0 => []
  | i + 1 => (kk (ks.getD (ks.length - 1 - i) 0)).en (ws.getD (ks.length - 1 - i) 0) ++ (zer (ps.getD (ks.length - i) len - ps.getD (ks.length - 1 - i) len - wid (ks.getD (ks.length - 1 - i) 0)) ++ sPart ks ps ws len i)
structure FormOk (ks ps : List Nat) (len : Nat) : Prop where
  hl : ps.length = ks.length
  h0 : 0 < ks.length
  h3 : ks.length ≤ 3
  h8 : ∀ k, k < ks.length → ks.getD k 0 < 8
  hp : ∀ k, k < ks.length → ps.getD k len % wid (ks.getD k 0) = 0
  hn : ∀ k, k < ks.length → ps.getD k len + wid (ks.getD k 0) ≤ ps.getD (k + 1) len
  hd : ∀ k, k < ks.length → mwid ks % (wid (ks.getD k 0) : Int) = 0
  hz : Pz (mwid ks)
  hm : (len : Int) % mwid ks = 0
  h24 : len ≤ 24
theorem kk_w (kd : Nat) (h : kd < 8) : (kk kd).w = wid kd := by
  rcases kd with _ | _ | _ | _ | _ | _ | _ | _ | kd <;> first | rfl | omega
theorem FormOk.mono {ks ps : List Nat} {len : Nat} (F : FormOk ks ps len) : ∀ k, k ≤ ks.length → ps.getD k len ≤ len := by
  have key : ∀ j, j ≤ ks.length → ps.getD (ks.length - j) len ≤ len := by
    intro j
    induction j with
    | zero => intro _; rw [Nat.sub_zero, List.getD_eq_getElem?_getD, List.getElem?_eq_none (by rw [F.hl]; exact Nat.le_refl _)]; exact Nat.le_refl _
    | succ j ih =>
      intro h
      have := F.hn (ks.length - (j + 1)) (sub_lt2 h)
      rw [sub_step h] at this
      exact Nat.le_trans (Nat.le_add_right _ _) (Nat.le_trans this (ih (Nat.le_of_lt h)))
  intro k hk
  have := key (ks.length - k) (Nat.sub_le _ _)
  rwa [Nat.sub_sub_self hk] at this
theorem sPart_len {ks ps : List Nat} {ws : List Int} {len : Nat} (F : FormOk ks ps len) : ∀ i, i ≤ ks.length → (sPart ks ps ws len i).length = len - ps.getD (ks.length - i) len
  | 0, _ => by
    rw [Nat.sub_zero, List.getD_eq_getElem?_getD, List.getElem?_eq_none (by rw [F.hl]; exact Nat.le_refl _)]
    show 0 = len - len; omega
  | i + 1, h => by
    have ih := sPart_len (ws := ws) F i (Nat.le_of_lt h)
    have hn := F.hn (ks.length - 1 - i) (sub_lt1 h)
    have h8 := F.h8 (ks.length - 1 - i) (sub_lt1 h)
    have hm := F.mono (ks.length - i) (Nat.sub_le _ _)
    rw [sub_pred1 h] at hn
    rw [sPart, List.length_append, List.length_append, List.length_replicate, ih, FK.en_len, kk_w _ h8, sub_pred ks.length i]
    exact len_sub hn hm
theorem nz_d {l : List Nat} {i d : Nat} (h : i < l.length) : (nz l)[i]? = some (.i (l.getD i d : Nat)) := by
  unfold nz
  rw [List.getElem?_map, List.getD_eq_getElem?_getD, List.getElem?_eq_getElem h]; rfl
theorem gap_zero {w : Int} {n a : Nat} (h : ((n : Int) + a) % w = 0) : gap w n a = 0 := by
  unfold gap
  rw [Int.emod_eq_zero_of_dvd ((Int.dvd_neg).mpr (Int.dvd_of_emod_eq_zero h))]; rfl
theorem gap_sum {z : Int} (hz : Pz z) (n a : Nat) : ((gap z n a : Int) + n + a) % z = 0 := by
  have h := gap_int hz n a
  have hp := hz.pos
  rw [h, Int.add_assoc, Int.emod_add_emod]
  rw [show -((n : Int) + a) + (n + a) = 0 by omega]; rfl
theorem Pz.ite {a b : Int} (h : Pz a) (h' : Pz b) : Pz (if a < b then b else a) := by split <;> assumption
theorem fn_struct {b dx ka pa wa fx : Addr} {S : BS} {r : Ld} {ks ps : List Nat} {ws : List Int} {len : Nat} {al cn : PV} (F : FormOk ks ps len) (hws : ws.length = ks.length) (hrg : ∀ k, k < ks.length → (kk (ks.getD k 0)).lo ≤ ws.getD k 0 ∧ ws.getD k 0 ≤ (kk (ks.getD k 0)).hi)
    (hk : (ka, PO.sq "list" (nz ks)) ∈ r) (hp : (pa, PO.sq "list" (nz ps)) ∈ r) (hw : (wa, PO.sq "list" (zz ws)) ∈ r) (hf : (fx, PO.sq "tuple" [.v (.ref ka), .v (.ref pa), .i len, al, cn]) ∈ r) (hz : S.ok) (ht : S.tl.length ≤ 2 ^ 15) (hma : Pz S.ma) :
    Fn 851 6 [.v (.ref b), .v (.ref fx), .v (.ref wa)] (B b dx S r) (fun p ld' => ∃ d jk ma, p = .i ((S.too d jk ma (sPart ks ps ws len ks.length ++ zer (gap (mwid ks) S.tl.length len))).tl.length : Nat) ∧ (S.jk ++ S.tl).length ≤ (jk ++ (sPart ks ps ws len ks.length ++ zer (gap (mwid ks) S.tl.length len) ++ S.tl)).length ∧
      (jk ++ (sPart ks ps ws len ks.length ++ zer (gap (mwid ks) S.tl.length len) ++ S.tl)).length ≤ 2 ^ 18 ∧ Pz ma ∧ S.ma ≤ ma ∧ mwid ks ≤ ma ∧ ld' = B b dx (S.too d jk ma (sPart ks ps ws len ks.length ++ zer (gap (mwid ks) S.tl.length len))) r) := by
  have h3 := F.h3
  have hnl := nz_len ks
  have hpl := nz_len ps
  have hwl := zz_len ws
  have hps := F.hl
  have h24 := F.h24
  have hg := gap_lt F.hz S.tl.length len
  have hgs := gap_sum F.hz S.tl.length len
  have hmp := F.hz.pos
  generalize hg0 : gap (mwid ks) S.tl.length len = g at *
  refine Fn.less (Fn_intro (P := fun p ld' => ∃ y d jk ma, p = .i ((S.too d jk ma (sPart ks ps ws len ks.length ++ zer g)).tl.length : Nat) ∧ (S.jk ++ S.tl).length ≤ (jk ++ (sPart ks ps ws len ks.length ++ zer g ++ S.tl)).length ∧
      (jk ++ (sPart ks ps ws len ks.length ++ zer g ++ S.tl)).length ≤ 2 ^ 18 ∧ Pz ma ∧ S.ma ≤ ma ∧ mwid ks ≤ ma ∧ ld' = B b dx (S.too d jk ma (sPart ks ps ws len ks.length ++ zer g)) (r ++ [y])) ["builder", "form", "worths"] f851 c851 (by walk_at "intro") (by decide +kernel) (by decide) ?_ (by kernel_rfl) (by kernel_rfl) (by kernel_rfl) (by decide +kernel)) ?_
  · intro w A h₀ L mg mb os gens k' hk'
    refine' Bl_unp (Ex_stup (hi := 3) ?o1 (Ev.cast ?b1 ?q1) ?m1 ?y1 ?y2) ?k1 (by with_unfolding_all rfl) (by with_unfolding_all rfl)
    case o1 => walk_at "ev"
    case b1 => walk_at "ev"
    case q1 => rfl
    case m1 => exact .tail _ (.tail _ (.tail _ hf))
    case y1 => exact (by decide : 5 ≤ 2 ^ 20)
    case y2 => exact (by decide : 3 < 5)
    refine elA10 ?_; intro y
    change ∃ x ps_1 lc₂ ld₂, PV.v (.ref y) = .v (.ref x) ∧ (x, PO.sq "tuple" ps_1) ∈ B b dx S (r ++ [(y, PO.sq "tuple" [.v (.ref ka), .v (.ref pa), .i len])]) ∧ _ ∧ _
    refine ⟨y, _, _, _, rfl, .tail _ (.tail _ (.tail _ (List.mem_append_right _ (.head _)))), .cons (Sto_loc (by kernel_rfl)) (.cons (Sto_loc (by kernel_rfl)) (.cons (Sto_loc (by kernel_rfl)) .nil)), ?_⟩
    change Bl _ _ (B b dx S (r ++ [(y, PO.sq "tuple" [.v (.ref ka), .v (.ref pa), .i len])])) _ _
    generalize PO.sq "tuple" [.v (.ref ka), .v (.ref pa), .i len] = yo
    refine' Bl_ex (Ex_m2 (fn_Prep (z := mwid ks) (a := len) F.hz hz (by omega)) ?o2 (.head _) (.tail _ (.head _)) m405 (by kernel_rfl) (by walk_at "side") ?e2 ?e3) ?k2 (by kernel_rfl) (by with_unfolding_all rfl)
    case o2 => walk_at "ea"
    case e3 => walk_at "ev"
    case e2 =>
      refine' (Ex_bix (f := .builtin "max") (P := fun p ld' => ∃ acc, p = .v (.ref acc) ∧ ld' = B b dx S (r ++ [(y, yo)]) ++ [(acc, .sq "list" ((ks.map fun k => (wid k : Int)).map .i))])
        (P' := fun p ld' => p = .i (mwid ks) ∧ ∃ ex, ld' = B b dx S (r ++ [(y, yo)]) ++ ex) (Ea_bi b_max (by kernel_rfl) (by decide) (by kernel_rfl)) ?c1 ?c2).drop fun _ _ h => h
      case c1 =>
        refine' (Ex_compM (fun i => .i (wid (ks.getD i 0) : Nat)) (Sc_list (l := ka) (xs := nz ks) ?e4 ?m4) ?n4 (by omega) ?t4 (cl := []) (by with_unfolding_all rfl) (by decide +kernel) (by kernel_rfl) (by decide +kernel) (by kernel_rfl)).mono ?m5
        case e4 => walk_at "ev"
        case m4 => walk_at "mem"
        case n4 => intro z h; rw [List.mem_singleton.mp h]; walk_at "mem"
        case t4 =>
          intro i hi ex h L'
          rw [nz_get (by omega)]
          generalize ks.getD i 0 = kd
          refine' Ev.cast (Ev_pow ?e6 ?e7 ?z7 ?z8 ?z9) ?q9
          case e6 => walk_at "ev"
          case e7 => walk_at "ev"
          case z7 => omega
          case z8 => omega
          case z9 => decide
          case q9 =>
            unfold wid
            rw [show (((kd : Nat) : Int) % 4).toNat = kd % 4 by omega]; simp
        case m5 =>
          refine elA10 ?_; intro acc
          refine ⟨acc, rfl, ?_⟩
          have : (List.range (nz ks).length).map (fun i => PV.i (wid (ks.getD i 0) : Nat)) = (ks.map fun k => (wid k : Int)).map .i := by
            rw [hnl, List.map_map]
            apply List.ext_getElem
            · simp
            · intro i h1 h2
              simp only [List.getElem_map, List.getElem_range, Function.comp]
              rw [List.getD_eq_getElem?_getD, List.getElem?_eq_getElem (by simpa using h1)]; rfl
          rw [this]
      case c2 =>
        refine elA10 ?_; intro acc
        refine fun ok lc s I vs rs Q E q => bi_maxl (ns := ks.map fun k => (wid k : Int)) (List.mem_append_right _ (.head _)) (by have := F.h0; intro e; rw [List.map_eq_nil_iff] at e; rw [e] at this; cases this) ok lc s I vs rs Q E fun v p ld' s' I' r ⟨a, b⟩ => q v p ld' s' I' r ⟨a, ⟨_, b⟩⟩
    (first | refine elF22 ?_ | refine elF31 ?_); intro d jk h2 h3'
    rw [hg0] at h2 h3' ⊢
    refine ⟨trivial, ?_⟩
    refine' Bl_asg ?e10 ?k10 (by kernel_rfl)
    case e10 => walk_at "ev"
    have hl0 : (zer g ++ S.tl).length = g + S.tl.length := by rw [List.length_append, List.length_replicate]
    have hj0 : (S.jk ++ S.tl).length ≤ (jk ++ (zer g ++ S.tl)).length := by rw [List.length_append, List.length_append, hl0]; omega
    have hT : jk.length + g + S.tl.length ≤ 2 ^ 18 := by rw [List.length_append, hl0] at h3'; omega
    refine' Bl_for (α := Addr × List UInt8 × Int) (fun i _ => [("end", .i (ps.getD (ks.length - i) len : Nat)), ("length", .i len), ("places", .v (.ref pa)), ("kinds", .v (.ref ka)), ("builder", .v (.ref b)), ("worths", .v (.ref wa))])
      (fun i a => B b dx (S.too a.1 a.2.1 a.2.2 (sPart ks ps ws len i ++ zer g)) (r ++ [(y, yo)]))
      (fun i a => jk.length + g + S.tl.length ≤ a.2.1.length + (sPart ks ps ws len i).length + g + S.tl.length ∧ a.2.1.length + (sPart ks ps ws len i).length + g + S.tl.length ≤ 2 ^ 18 ∧ Pz a.2.2 ∧ S.ma ≤ a.2.2 ∧ mwid ks ≤ a.2.2)
      (Sc_rev (n := ks.length) (Ea_rng (by kernel_rfl)) (Ev.cast ?e11 ?q11) ?e12 (by omega)) (d, jk, if S.ma < mwid ks then mwid ks else S.ma) ?j13 ?l13 ?d13 ?n13 ?t13 ?k13
    case e11 => walk_at "ev"
    case q11 => rw [hnl]
    case e12 => intro _; refine' Ev.cast (Ev_neg (Ea.ev Ea_int)) ?q12; case q12 => rfl
    case j13 => exact ⟨by show jk.length + g + S.tl.length ≤ jk.length + 0 + g + S.tl.length; omega, by show jk.length + 0 + g + S.tl.length ≤ _; omega (config := {}), hma.ite F.hz, by dsimp only; split <;> omega, by dsimp only; split <;> omega⟩
    case l13 =>
      refine lsub_cons ?_ (lsub_cons (by with_unfolding_all rfl) (lsub_cons (by with_unfolding_all rfl) (lsub_cons (by with_unfolding_all rfl) (lsub_cons (by with_unfolding_all rfl) (lsub_cons (by with_unfolding_all rfl) lsub_nil)))))
      rw [Nat.sub_zero, List.getD_eq_getElem?_getD, List.getElem?_eq_none (by omega)]; rfl
    case d13 => rfl
    case n13 => intro _ _ _ _ h; cases h
    case t13 =>
      intro i; refine elP3 ?_; intro d2 jk2 ma2 hi jj it o; refine and5 jj ?_; intro j1 j2 j3 j4 j5; clear jj
      dsimp only at j1 j2 j3 j4 j5 ⊢
      have hsl := sPart_len (ws := ws) F i (Nat.le_of_lt hi)
      have hn := F.hn (ks.length - 1 - i) (sub_lt1 hi)
      have h8 := F.h8 (ks.length - 1 - i) (sub_lt1 hi)
      have hpm := F.hp (ks.length - 1 - i) (sub_lt1 hi)
      have hdm := F.hd (ks.length - 1 - i) (sub_lt1 hi)
      have hmo := F.mono (ks.length - i) (Nat.sub_le _ _)
      have hr := hrg (ks.length - 1 - i) (sub_lt1 hi)
      rw [sub_pred1 hi] at hn
      have hkg := nz_d (d := 0) (l := ks) (i := ks.length - 1 - i) (sub_lt1 hi)
      have hpg := nz_d (d := len) (l := ps) (i := ks.length - 1 - i) (sub_lt3 hps hi)
      have hwg := zz_get (l := ws) (i := ks.length - 1 - i) (sub_lt3 hws hi)
      have hsn : sPart ks ps ws len (i + 1) = (kk (ks.getD (ks.length - 1 - i) 0)).en (ws.getD (ks.length - 1 - i) 0) ++ (zer (ps.getD (ks.length - i) len - ps.getD (ks.length - 1 - i) len - wid (ks.getD (ks.length - 1 - i) 0)) ++ sPart ks ps ws len i) := rfl
      have hw8 := kk_w _ h8
      have hen : ((kk (ks.getD (ks.length - 1 - i) 0)).en (ws.getD (ks.length - 1 - i) 0)).length = _ := FK.en_len _ _
      rw [hw8] at hen
      generalize hkd : ks.getD (ks.length - 1 - i) 0 = kd at *
      generalize hpv : ps.getD (ks.length - 1 - i) len = pv at *
      generalize hpw : ps.getD (ks.length - i) len = pw at *
      generalize hwv : ws.getD (ks.length - 1 - i) 0 = wv at *
      have hcc := cut_c hn
      have hee := Nat.add_sub_cancel' hmo
      generalize pw - pv - wid kd = cc at *
      generalize len - pw = ee at *
      refine ⟨_, _, Sto_loc (by kernel_rfl), ?_⟩
      change Bl _ _ (B b dx (S.too d2 jk2 ma2 (sPart ks ps ws len i ++ zer g)) (r ++ [(y, yo)] ++ [(it, o)])) _ _
      have hl2 : (sPart ks ps ws len i ++ zer g ++ S.tl).length = ee + g + S.tl.length := by simp only [List.length_append, List.length_replicate, hsl]
      refine' Bl_ex (Ex_m1 (fn_Pad (n := cc) ?h14 ?z14) ?o14 (.head _) (.tail _ (.head _)) m398 (by kernel_rfl) (by walk_at "side") (Ev.cast ?e14 ?q14)) ?k14 (by kernel_rfl) (by with_unfolding_all rfl)
      case h14 => dsimp only; omega
      case z14 => dsimp only; rw [List.length_append, hl2]; omega
      case o14 => walk_at "ea"
      case e14 =>
        refine' Ev_sub (Ev_sub ?e15 (Ev_itl ?e16 ?e17 ?m16 ?z16 (idx_nat ?i16 hpg))) (Ev_pow ?e18 (Ev_modp (Ev_itl ?e19 ?e20 ?m19 ?z19 (idx_nat ?i19 hkg)) ?e21 ?z20) ?z21 ?z22 ?z23)
        case e15 => walk_at "ev"
        case e16 => walk_at "ev"
        case e17 => walk_at "ev"
        case m16 => walk_at "mem"
        case z16 => omega
        case i16 => omega
        case e18 => walk_at "ev"
        case e19 => walk_at "ev"
        case e20 => walk_at "ev"
        case m19 => walk_at "mem"
        case z19 => omega
        case i19 => omega
        case e21 => walk_at "ev"
        case z20 => omega
        case z21 => omega
        case z22 => omega
        case z23 => decide
      case q14 =>
        have : (2 : Int) ^ ((kd : Int) % 4).toNat = (wid kd : Nat) := by unfold wid; rw [show (((kd : Nat) : Int) % 4).toNat = kd % 4 by omega]; simp
        rw [this]; congr 1; omega
      refine elF00 ?_
      refine ⟨trivial, ?_⟩
      have hdv : (wid kd : Int) ∣ (g : Int) + S.tl.length + len := Int.dvd_trans (Int.dvd_of_emod_eq_zero hdm) (Int.dvd_of_emod_eq_zero hgs)
      have hpd : (wid kd : Int) ∣ (pv : Int) := Int.natCast_dvd_natCast.mpr (Nat.dvd_of_mod_eq_zero hpm)
      have hl3 : (zer (cc) ++ (sPart ks ps ws len i ++ zer g ++ S.tl)).length = (cc) + (ee + g + S.tl.length) := by rw [List.length_append, List.length_replicate, hl2]
      have hg0 : gap (kk kd).w (zer (cc) ++ (sPart ks ps ws len i ++ zer g ++ S.tl)).length 0 = 0 := by
        refine gap_zero (Int.emod_eq_zero_of_dvd ?_)
        rw [hl3, hw8]
        have := Int.dvd_sub (Int.dvd_sub hdv hpd) (Int.dvd_refl (wid kd : Int))
        rw [show (((cc + (ee + g + S.tl.length) : Nat) : Int) + ((0 : Nat) : Int)) = (g : Int) + S.tl.length + len - pv - wid kd by omega]
        exact this
      have hjl : (jk2.take (jk2.length - (cc))).length = jk2.length - (cc) := List.length_take_of_le (Nat.sub_le _ _)
      refine' Bl_ex (Ex_f3 (fn_prepend (kd := kd) (n := wv) h8 ?z24 ?t24 hr) ?o24 (by walk_at "side") (by intro; kernel_rfl) ?e24 (Ev_itl ?e25 ?e26 ?m25 ?z25 (idx_nat ?i25 hkg)) (Ev_itl ?e27 ?e28 ?m27 ?z27 (idx_nat ?i27 hwg))) ?k24 (by kernel_rfl) (by with_unfolding_all rfl)
      case o24 => exact Ea_glob g827 (by kernel_rfl)
      case z24 => show (jk2.take _ ++ (zer (cc) ++ (sPart ks ps ws len i ++ zer g ++ S.tl))).length ≤ _; rw [List.length_append, hl3, hjl]; omega
      case t24 => rw [hl3]; omega
      case e24 => walk_at "ev"
      case e25 => walk_at "ev"
      case e26 => walk_at "ev"
      case m25 => walk_at "mem"
      case z25 => omega
      case i25 => omega
      case e27 => walk_at "ev"
      case e28 => walk_at "ev"
      case m27 => walk_at "mem"
      case z27 => omega
      case i27 => omega
      rintro p ld' ⟨rfl, d3, jk3, ⟨o1, o2⟩, rfl⟩
      refine ⟨trivial, ?_⟩
      have hnum : ((S.too d2 jk2 ma2 (sPart ks ps ws len i ++ zer g)).pad (cc)).num (kk kd) wv = (kk kd).en wv := by
        show (kk kd).en wv ++ List.replicate (gap (kk kd).w (zer (cc) ++ (sPart ks ps ws len i ++ zer g ++ S.tl)).length 0) 0 = _
        rw [hg0]; exact List.append_nil _
      rw [hnum] at o1 o2 ⊢
      dsimp only at o1 o2 ⊢
      simp only [List.length_append, List.length_replicate, hsl, hen, hjl] at o1 o2
      refine' Bl_asg (p := .i pv) (Ev_itl ?e30 ?e31 ?m30 ?z30 (idx_nat ?i30 hpg)) ?k30 (by kernel_rfl)
      case e30 => walk_at "ev"
      case e31 => walk_at "ev"
      case m30 => walk_at "mem"
      case z30 => omega
      case i30 => omega
      refine Bl_nil ⟨.inl rfl, (d3, jk3, if ma2 < (kk kd).w then (kk kd).w else ma2), ?_, ?_, ?_⟩
      · have hsn' : (sPart ks ps ws len (i + 1)).length = wid kd + ((cc) + ee) := by rw [hsn, List.length_append, List.length_append, List.length_replicate, hen, hsl]
        refine ⟨?_, ?_, j3.ite (FK.pz _), ?_, ?_⟩
        · dsimp only; omega
        · dsimp only; omega
        · dsimp only; split <;> omega
        · dsimp only; split <;> omega
      · dsimp only; rw [sub_pred ks.length i, hpv]
        exact lsub_cons (by with_unfolding_all rfl) (lsub_cons (by with_unfolding_all rfl) (lsub_cons (by with_unfolding_all rfl) (lsub_cons (by with_unfolding_all rfl) (lsub_cons (by with_unfolding_all rfl) (lsub_cons (by with_unfolding_all rfl) lsub_nil)))))
      · have hS : ((S.too d2 jk2 ma2 (sPart ks ps ws len i ++ zer g)).pad (cc)).to d3 jk3 (kk kd).w ((kk kd).en wv) = S.too d3 jk3 (if ma2 < (kk kd).w then (kk kd).w else ma2) (sPart ks ps ws len (i + 1) ++ zer g) := by
          rw [hsn]; simp only [BS.too, BS.to, BS.pad, List.append_assoc]
        exact congrArg (fun X => B b dx X (r ++ [(y, yo)] ++ [(it, o)])) hS
    case k13 =>
      refine elP3 ?_; intro d2 jk2 ma2 jj; refine and5 jj ?_; intro j1 j2 j3 j4 j5; clear jj
      dsimp only at j1 j2 j3 j4 j5 ⊢
      have hl1 : (sPart ks ps ws len ks.length ++ zer g ++ S.tl).length = (sPart ks ps ws len ks.length).length + g + S.tl.length := by simp only [List.length_append, List.length_replicate]
      refine' Bl_ret ?e20 ⟨(y, yo), d2, jk2, ma2, rfl, ?r1, ?r2, j3, j4, j5, rfl⟩
      case e20 =>
        have hof : ((S.too d2 jk2 ma2 (sPart ks ps ws len ks.length ++ zer g)).jk ++ (S.too d2 jk2 ma2 (sPart ks ps ws len ks.length ++ zer g)).tl).length < 2 ^ 40 := by
          show (jk2 ++ (sPart ks ps ws len ks.length ++ zer g ++ S.tl)).length < _
          rw [List.length_append, hl1]; omega
        walk_at "ev"
      case r1 => rw [List.length_append, List.length_append, hl1]; rw [List.length_append, List.length_append, hl0] at hj0; omega
      case r2 => rw [List.length_append, hl1]; omega
  · refine elA45 ?_; intro y d jk ma h1 h2 h3 h4 h5
    exact ⟨_, _, .cons_cons _ (.cons_cons _ (.cons_cons _ (List.sublist_append_left _ _))), List.Perm.refl _, d, jk, ma, rfl, h1, h2, h3, h4, h5, rfl⟩
def pzb (z : Int) : Bool := z == 1 || z == 2 || z == 4 || z == 8 || z == 16 || z == 32
theorem pzb_ok {z : Int} (h : pzb z = true) : Pz z := by
  unfold pzb at h
  simp only [Bool.or_eq_true, beq_iff_eq] at h
  unfold Pz; omega
def chk (ks : List Nat) : Bool :=
  let ps := (fFold ks).1
  let len := fLen ks
  ((List.range ks.length).all fun k => ps.getD k len % wid (ks.getD k 0) == 0 && decide (ps.getD k len + wid (ks.getD k 0) ≤ ps.getD (k + 1) len) && mwid ks % (wid (ks.getD k 0) : Int) == 0) &&
    pzb (mwid ks) && (len : Int) % mwid ks == 0 && decide (len ≤ 24) && mwid ks == ((fFold ks).2.2 : Int) && ps.getD 0 len == 0
theorem chk1 : ∀ a, a < 8 → chk [a] = true := by decide +kernel
theorem chk2 : ∀ a, a < 8 → ∀ b, b < 8 → chk [a, b] = true := by decide +kernel
theorem chk3 : ∀ a, a < 8 → ∀ b, b < 8 → ∀ c, c < 8 → chk [a, b, c] = true := by decide +kernel
theorem fKinds_lt (n : Int) : ∀ k ∈ fKinds n, k < 8 := by
  intro k h
  obtain ⟨i, _, rfl⟩ := List.mem_map.mp h
  omega
theorem fKinds_pos (n : Int) : 0 < (fKinds n).length ∧ (fKinds n).length = (1 + n % 3).toNat := by
  unfold fKinds; rw [List.length_map, List.length_range]; omega
theorem chk_of {ks : List Nat} (h0 : 0 < ks.length) (h3 : ks.length ≤ 3) (h8 : ∀ k ∈ ks, k < 8) : chk ks = true := by
  match ks with
  | [a] => exact chk1 a (h8 a (.head _))
  | [a, b] => exact chk2 a (h8 a (.head _)) b (h8 b (.tail _ (.head _)))
  | [a, b, c] => exact chk3 a (h8 a (.head _)) b (h8 b (.tail _ (.head _))) c (h8 c (.tail _ (.tail _ (.head _))))
  | [] => cases h0
  | _ :: _ :: _ :: _ :: _ => simp at h3
theorem formOk (n : Int) : FormOk (fKinds n) (fFold (fKinds n)).1 (fLen (fKinds n)) ∧ mwid (fKinds n) = ((fFold (fKinds n)).2.2 : Int) ∧ (fFold (fKinds n)).1.getD 0 (fLen (fKinds n)) = 0 := by
  have h8 := fKinds_lt n
  have h0 := (fKinds_pos n).1
  have h3 := fKinds_len n
  generalize fKinds n = ks at *
  have h := chk_of h0 h3 h8
  unfold chk at h
  simp only [Bool.and_eq_true, beq_iff_eq, decide_eq_true_eq] at h
  obtain ⟨⟨⟨⟨⟨a, b⟩, c⟩, d⟩, e⟩, f⟩ := h
  have a' : ∀ k, k < ks.length → _ := fun k hk => List.all_eq_true.mp a k (List.mem_range.mpr hk)
  simp only [Bool.and_eq_true, beq_iff_eq, decide_eq_true_eq] at a'
  exact ⟨⟨fFold_len ks, h0, h3, fun k hk => by
    rw [List.getD_eq_getElem?_getD, List.getElem?_eq_getElem hk]; exact h8 _ (List.getElem_mem hk), fun k hk => (a' k hk).1.1, fun k hk => (a' k hk).1.2, fun k hk => (a' k hk).2, pzb_ok b, c, d⟩, e, f⟩
/-- the alignment of a row -/
theorem fal : ∀ e ∈ List.range 6, ∀ m ∈ [1, 2, 4, 8, 16, 32], (((max m (2 ^ e) : Nat) : Int) = 1 ∨ ((max m (2 ^ e) : Nat) : Int) = 2 ∨ ((max m (2 ^ e) : Nat) : Int) = 4 ∨ ((max m (2 ^ e) : Nat) : Int) = 8 ∨ ((max m (2 ^ e) : Nat) : Int) = 16 ∨ ((max m (2 ^ e) : Nat) : Int) = 32) ∧ ((max m (2 ^ e) : Nat) : Int) % (m : Nat) = 0 := by decide +kernel
theorem pz_mem {m : Nat} (h : Pz m) : m ∈ [1, 2, 4, 8, 16, 32] := by
  unfold Pz at h
  simp only [List.mem_cons, List.not_mem_nil, or_false]
  omega
theorem fAlign_ok (n : Int) : Pz (fAlign n (fKinds n)) ∧ (fAlign n (fKinds n) : Int) % mwid (fKinds n) = 0 := by
  obtain ⟨F, e, _⟩ := formOk n
  have hz := F.hz
  unfold fAlign
  rw [e] at hz ⊢
  split
  · exact fal _ (List.mem_range.mpr ((Int.toNat_lt' (by decide)).mpr (Int.emod_lt_of_pos _ (by decide)))) _ (pz_mem hz)
  · exact ⟨hz, Int.emod_self⟩
theorem fCount_lt (n : Int) : fCount n ≤ 4 := by unfold fCount; omega
theorem worths_len (part : List Int) (ks : List Nat) (it : Nat) : (worths part ks it).length = ks.length := by unfold worths; rw [List.length_map, List.length_range]
theorem worths_get (part : List Int) (ks : List Nat) (it k : Nat) (h : k < ks.length) : (worths part ks it).getD k 0 = wOne part ks it k := by
  unfold worths
  rw [List.getD_eq_getElem?_getD, List.getElem?_map, List.getElem?_range h]; rfl
theorem worths_ok (part : List Int) {ks : List Nat} (h8 : ∀ k, k < ks.length → ks.getD k 0 < 8) (it k : Nat) (h : k < ks.length) : (kk (ks.getD k 0)).lo ≤ (worths part ks it).getD k 0 ∧ (worths part ks it).getD k 0 ≤ (kk (ks.getD k 0)).hi := by
  rw [worths_get _ _ _ _ h]
  unfold wOne wRaw wBound
  have hk := h8 k h
  generalize ks.getD k 0 = kd at *
  generalize part.getD _ _ + _ + _ = x
  have : kd = 0 ∨ kd = 1 ∨ kd = 2 ∨ kd = 3 ∨ kd = 4 ∨ kd = 5 ∨ kd = 6 ∨ kd = 7 := by omega
  rcases this with rfl | rfl | rfl | rfl | rfl | rfl | rfl | rfl <;> simp [kk, FK.lo, FK.hi] <;> (try split) <;> omega
/-- a branch whose two ends meet -/
theorem Bl_if2 {C : Cn} {lc : Lc} {ld : Ld} {rest : List Stmt} {K : Fl → Lc → Ld → Prop} {t : Expr} {b o : List Stmt} {pos : Pos} {c : Bool} (J : Ld → Prop) (ht : Tr C lc ld t c) (h1 : c = true → Bl C lc ld b (fun f l d => f = .next ∧ Lsub lc l ∧ J d)) (h2 : c = false → Bl C lc ld o (fun f l d => f = .next ∧ Lsub lc l ∧ J d))
    (h3 : ∀ d, J d → Bl C lc d rest K) : Bl C lc ld (.If t b o pos :: rest) K :=
  Bl_if ht (fun e => Bl_mono (h1 e) fun f l d ⟨a, b, c⟩ => by subst a; exact Bl_less (h3 d c) b (List.Sublist.refl _)) (fun e => Bl_mono (h2 e) fun f l d ⟨a, b, c⟩ => by subst a; exact Bl_less (h3 d c) b (List.Sublist.refl _))
theorem Lsub.rfl {l : Lc} : Lsub l l := fun _ _ h => h
def oct : List UInt8 := [111, 99, 116, 101, 116, 115]
def hd0 (part : List Int) : Int := part.getD 0 0
abbrev kds (part : List Int) : List Nat := fKinds (hd0 part)
abbrev lnf (part : List Int) : Nat := fLen (kds part)
abbrev alf (part : List Int) : Nat := fAlign (hd0 part) (kds part)
abbrev cnf (part : List Int) : Nat := fCount (hd0 part)
/-- a struct's octets -/
def sB (part : List Int) (it : Nat) : List UInt8 := sPart (kds part) (fFold (kds part)).1 (worths part (kds part) it) (lnf part) (kds part).length
/-- the last i structs of c -/
def itB (part : List Int) (c : Nat) : Nat → List UInt8
  | 0 => []
  | i + 1 => sB part (c - 1 - i) ++ itB part c i
def cbB (part : List Int) (n : Nat) : List UInt8 := if hd0 part / 7 % 3 = 1 then FK.uo.en (oct.take (hd0 part % 7).toNat).length ++ (oct.take (hd0 part % 7).toNat ++ zer (gap 4 n (oct.take (hd0 part % 7).toNat).length)) else []
def rowB (part : List Int) (n : Nat) : List UInt8 := FK.uo.en (cnf part) ++ (itB part (cnf part) (cnf part) ++ (zer (vgap (alf part) ((cbB part n).length + n) (lnf part * cnf part)) ++ cbB part n))
theorem sB_len (part : List Int) (it : Nat) : (sB part it).length = lnf part := by
  obtain ⟨F, _, e⟩ := formOk (hd0 part)
  unfold sB
  rw [sPart_len F _ (Nat.le_refl _), Nat.sub_self, e]; rfl
theorem itB_len (part : List Int) (c : Nat) : ∀ i, (itB part c i).length = lnf part * i
  | 0 => rfl
  | i + 1 => by rw [itB, List.length_append, sB_len, itB_len, Nat.mul_succ, Nat.add_comm]
theorem cbB_len (part : List Int) (n : Nat) : (cbB part n).length ≤ 16 := by
  have hol : (oct.take (hd0 part % 7).toNat).length ≤ 6 := by rw [List.length_take]; exact Nat.min_le_right _ _
  have hg := gap_lt (z := 4) (by unfold Pz; omega) n (oct.take (hd0 part % 7).toNat).length
  unfold cbB
  split
  · rw [List.length_append, List.length_append, List.length_replicate, FK.en_len]
    show 4 + _ ≤ _
    omega
  · exact Nat.zero_le _
abbrev BS.fin (S : BS) (d : Addr) (jk : List UInt8) (ma : Int) (ve : Option PV) (e : List UInt8) : BS := { S with d := d, jk := jk, ma := ma, ne := false, ve := ve, tl := e ++ S.tl }
theorem Ev_it5 {C : Cn} {lc : Lc} {ld : Ld} {value slice : Expr} {pos : Pos} {x : Addr} {a b c d e q : PV} {k : Int} (he : Ev C lc ld value (.v (.ref x))) (hs : Ev C lc ld slice (.i k)) (hm : (x, PO.sq "tuple" [a, b, c, d, e]) ∈ ld) (hq : idx [a, b, c, d, e] k = some q) : Ev C lc ld (.Subscript value slice pos) q := Ev_itt he hs hm (show 5 ≤ 2 ^ 20 by decide) hq
theorem vgap_sum {al : Int} (h : Pz al) (n a : Nat) : ((vgap al n a : Int) + n + a) % al = 0 := by
  have := gap_sum h (gap 4 n a + n) a
  unfold vgap
  rw [show (((gap al (gap 4 n a + n) a + gap 4 n a : Nat) : Int) + n + a) = (gap al (gap 4 n a + n) a : Int) + ((gap 4 n a + n : Nat) : Int) + a by omega]
  exact this
theorem vgap_le {al : Int} (h : Pz al) (n a : Nat) : vgap al n a ≤ 64 := by
  have h1 := gap_lt (z := 4) (by unfold Pz; omega) n a
  have h2 := gap_lt h (gap 4 n a + n) a
  have := h.pos
  unfold vgap; omega
theorem fn_row {b dx pa : Addr} {S : BS} {r : Ld} {part : List Int} (hne : S.ne = false) (hz : S.ok) (ht : S.tl.length ≤ 2 ^ 14) (hma : Pz S.ma) (hpa : (pa, PO.sq "list" (zz part)) ∈ r) (hpl : 0 < part.length) (hpz : part.length ≤ 64) :
    Fn 858 7 [.v (.ref b), .v (.ref pa)] (B b dx S r) (fun p ld' => ∃ d jk ma, p = .i (rowB part S.tl.length ++ S.tl).length ∧ (S.fin d jk ma (some (.v .none)) (rowB part S.tl.length)).ok ∧ Pz ma ∧ S.ma ≤ ma ∧ (alf part : Int) ≤ ma ∧
      ld' = B b dx (S.fin d jk ma (some (.v .none)) (rowB part S.tl.length)) r) := by
  refine and3 (formOk (hd0 part)) ?_; intro F hmw hp0
  obtain ⟨hal, ham⟩ := fAlign_ok (hd0 part)
  have hcn := fCount_lt (hd0 part)
  have h24 := F.h24
  have hpg := zz_get hpl
  have hzl := zz_len part
  refine Fn.less (Fn_intro (P := fun p ld' => ∃ R d jk ma, p = .i (rowB part S.tl.length ++ S.tl).length ∧ (S.fin d jk ma (some (.v .none)) (rowB part S.tl.length)).ok ∧ Pz ma ∧ S.ma ≤ ma ∧ (alf part : Int) ≤ ma ∧
      ld' = B b dx (S.fin d jk ma (some (.v .none)) (rowB part S.tl.length)) (r ++ R)) ["builder", "part"] f858 c858 (by walk_at "intro") (by decide +kernel) (by decide) ?_ (by kernel_rfl) (by kernel_rfl) (by kernel_rfl) (by decide +kernel)) ?_
  · intro w A h₀ L mg mb os gens k' hk'
    refine' Bl_asgx (Ex_f1 (fn_form (n := hd0 part)) (Ea_glob g839 (by kernel_rfl)) (by walk_at "side") (by intro; kernel_rfl) (Ev_itl ?e1 ?e2 ?m1 ?z1 (idx_nat ?i1 hpg))) ?k1 (by kernel_rfl)
    case e1 => walk_at "ev"
    case e2 => walk_at "ev"
    case m1 => walk_at "mem"
    case z1 => omega
    case i1 => rfl
    refine elA30 ?_; intro ka qa fx
    change Bl _ _ (B b dx S (r ++ [(ka, PO.sq "list" (nz (kds part))), (qa, PO.sq "list" (nz (fFold (kds part)).1)), (fx, PO.sq "tuple" [.v (.ref ka), .v (.ref qa), .i (lnf part : Nat), .i (alf part : Nat), .i (cnf part : Nat)])])) _ _
    generalize hRe : [(ka, PO.sq "list" (nz (kds part))), (qa, PO.sq "list" (nz (fFold (kds part)).1)), (fx, PO.sq "tuple" [.v (.ref ka), .v (.ref qa), .i (lnf part : Nat), .i (alf part : Nat), .i (cnf part : Nat)])] = Re
    have hka : (ka, PO.sq "list" (nz (kds part))) ∈ r ++ Re := List.mem_append_right _ (by rw [← hRe]; exact .head _)
    have hqa : (qa, PO.sq "list" (nz (fFold (kds part)).1)) ∈ r ++ Re := List.mem_append_right _ (by rw [← hRe]; exact .tail _ (.head _))
    have hfx : (fx, PO.sq "tuple" [.v (.ref ka), .v (.ref qa), .i (lnf part : Nat), .i (alf part : Nat), .i (cnf part : Nat)]) ∈ r ++ Re := List.mem_append_right _ (by rw [← hRe]; exact .tail _ (.tail _ (.head _)))
    have hpa' : (pa, PO.sq "list" (zz part)) ∈ r ++ Re := List.mem_append_left _ hpa
    clear hRe
    refine' Bl_if2 (fun d => ∃ d1 jk ma ve, (S.fin d1 jk ma ve (cbB part S.tl.length)).ok ∧ Pz ma ∧ S.ma ≤ ma ∧ d = B b dx (S.fin d1 jk ma ve (cbB part S.tl.length)) (r ++ Re)) (Tr_eq (Ev_modp (Ev_divp (Ev_itl ?e3 ?e4 ?m3 ?z3 (idx_nat ?i3 hpg)) ?e5 ?z5 ?z6) ?e6 ?z7) ?e7 (by with_unfolding_all rfl)) ?a2 ?b2 ?k2
    case e3 => walk_at "ev"
    case e4 => walk_at "ev"
    case m3 => walk_at "mem"
    case z3 => omega
    case i3 => rfl
    case e5 => walk_at "ev"
    case z5 => omega
    case z6 => omega
    case e6 => walk_at "ev"
    case z7 => omega
    case e7 => walk_at "ev"
    case a2 =>
      intro q
      have q := of_decide_eq_true q
      have hol : (oct.take (hd0 part % 7).toNat).length ≤ 6 := by rw [List.length_take]; exact Nat.min_le_right _ _
      have hcb : cbB part S.tl.length = _ := if_pos q
      refine' Bl_ex (Ex_m1 (fn_CBV (x := oct.take (hd0 part % 7).toNat) hne hz (by omega) (by omega)) ?o8 (.head _) (.tail _ (.head _)) m455 (by kernel_rfl) (by walk_at "side") (Ev_sby ?e8 (Ev.cast ?e9 ?q9) ?z9)) ?k8 (by kernel_rfl) (by with_unfolding_all rfl)
      case o8 => walk_at "ea"
      case e8 => exact Ea.ev Ea_bytes
      case e9 => 
        refine' Ev_modp (Ev_itl ?e10 ?e11 ?m10 ?z10 (idx_nat ?i10 hpg)) ?e12 ?z12
        case e10 => walk_at "ev"
        case e11 => walk_at "ev"
        case m10 => walk_at "mem"
        case z10 => omega
        case i10 => rfl
        case e12 => walk_at "ev"
        case z12 => omega
      case q9 => show hd0 part % 7 = _; omega
      case z9 => decide
      refine elA31 ?_; intro d jk n ho
      have hS : S.cbv d jk (oct.take (hd0 part % 7).toNat) = S.fin d jk (if S.ma < 4 then 4 else S.ma) (some (.v .none)) (cbB part S.tl.length) := by
        rw [hcb]; simp only [BS.cbv, BS.fin, List.append_assoc]
      rw [hS] at ho ⊢
      exact ⟨trivial, Bl_nil ⟨rfl, Lsub.rfl, d, jk, _, _, ho, hma.ite (by unfold Pz; omega), by split <;> omega, rfl⟩⟩
    case b2 =>
      intro q
      have q := of_decide_eq_false q
      have hcb : cbB part S.tl.length = _ := if_neg q
      have hS : S = S.fin S.d S.jk S.ma S.ve (cbB part S.tl.length) := by rw [hcb]; cases S; cases hne; rfl
      exact Bl_nil ⟨rfl, Lsub.rfl, S.d, S.jk, S.ma, S.ve, by rw [← hS]; exact hz, hma, Int.le_refl _, by rw [← hS]⟩
    refine elD43 ?_; intro d1 jk1 ma1 ve1 ho1 hma1 hle1
    have hcl := cbB_len part S.tl.length
    have hrow : rowB part S.tl.length = FK.uo.en (cnf part) ++ (itB part (cnf part) (cnf part) ++ (zer (vgap (alf part) ((cbB part S.tl.length).length + S.tl.length) (lnf part * cnf part)) ++ cbB part S.tl.length)) := rfl
    generalize hcb : cbB part S.tl.length = cb at *
    have hmul : lnf part * cnf part ≤ 24 * 4 := Nat.mul_le_mul h24 hcn
    have hT1 : (cb ++ S.tl).length = cb.length + S.tl.length := List.length_append
    refine' Bl_ex (Ex_m3 (fn_StartVector (es := lnf part) (n := cnf part) (al := alf part) ?h9 ho1 hal (Nat.le_trans h24 (by decide)) (Nat.le_trans hcn (by decide)) ?t9) ?o9 (.head _) (.tail _ (.head _)) m426 (by kernel_rfl) (by walk_at "side") (Ev_it5 ?e9 ?f9 ?m9 ?i9) (Ev_it5 ?e10 ?f10 ?m10 ?i10) (Ev_it5 ?e11 ?f11 ?m11 ?i11)) ?k9 (by kernel_rfl) (by with_unfolding_all rfl)
    case h9 => rfl
    case t9 => show (cb ++ S.tl).length + _ ≤ _; rw [hT1]; omega
    case o9 => walk_at "ea"
    case e9 => walk_at "ev"
    case f9 => walk_at "ev"
    case m9 => walk_at "mem"
    case i9 => rfl
    case e10 => walk_at "ev"
    case f10 => walk_at "ev"
    case m10 => walk_at "mem"
    case i10 => rfl
    case e11 => walk_at "ev"
    case f11 => walk_at "ev"
    case m11 => walk_at "mem"
    case i11 => rfl
    refine elA22 ?_; intro d2 jk2 ho2 hj2
    refine ⟨trivial, ?_⟩
    have hvs := vgap_sum hal (cb ++ S.tl).length (lnf part * cnf part)
    have hvl := vgap_le hal (cb ++ S.tl).length (lnf part * cnf part)
    rw [← hT1] at hrow
    have h1 : ((S.fin d1 jk1 ma1 ve1 cb).vec d2 jk2 (cnf part) (lnf part * cnf part) (alf part)).tl = zer (vgap (alf part) (cb ++ S.tl).length (lnf part * cnf part)) ++ (cb ++ S.tl) := rfl
    have h2 : Pz ((S.fin d1 jk1 ma1 ve1 cb).vec d2 jk2 (cnf part) (lnf part * cnf part) (alf part)).ma := (hma1.ite (by unfold Pz; omega)).ite hal
    have h3 : ma1 ≤ ((S.fin d1 jk1 ma1 ve1 cb).vec d2 jk2 (cnf part) (lnf part * cnf part) (alf part)).ma ∧ (alf part : Int) ≤ ((S.fin d1 jk1 ma1 ve1 cb).vec d2 jk2 (cnf part) (lnf part * cnf part) (alf part)).ma := by
      dsimp only [BS.vec, BS.fin]
      constructor <;> split <;> (try split) <;> omega
    have h4 : ((S.fin d1 jk1 ma1 ve1 cb).vec d2 jk2 (cnf part) (lnf part * cnf part) (alf part)).jk = jk2 := rfl
    have h8 : ((S.fin d1 jk1 ma1 ve1 cb).vec d2 jk2 (cnf part) (lnf part * cnf part) (alf part)).d = d2 := rfl
    have h5 : ((S.fin d1 jk1 ma1 ve1 cb).vec d2 jk2 (cnf part) (lnf part * cnf part) (alf part)).ne = true := rfl
    have h6 : ((S.fin d1 jk1 ma1 ve1 cb).vec d2 jk2 (cnf part) (lnf part * cnf part) (alf part)).ve = some (.i (cnf part)) := rfl
    have h7 : ∀ d jk ma e, ({ (S.fin d1 jk1 ma1 ve1 cb).vec d2 jk2 (cnf part) (lnf part * cnf part) (alf part) with d := d, jk := jk, ma := ma, ne := false, ve := some (.v .none), tl := e } : BS) = { S with d := d, jk := jk, ma := ma, ne := false, ve := some (.v .none), tl := e } := fun _ _ _ _ => rfl
    generalize (S.fin d1 jk1 ma1 ve1 cb).vec d2 jk2 (cnf part) (lnf part * cnf part) (alf part) = S2 at *
    generalize vgap (alf part) (cb ++ S.tl).length (lnf part * cnf part) = vg at *
    have hA : S2.tl.length = vg + (cb.length + S.tl.length) := by rw [h1, List.length_append, List.length_replicate, hT1]
    have hj3 : jk2.length + S2.tl.length ≤ 2 ^ 18 := by rw [← h4, ← List.length_append]; exact ho2
    have hdl : mwid (kds part) ∣ (lnf part : Int) := Int.dvd_of_emod_eq_zero F.hm
    have hdv : mwid (kds part) ∣ (S2.tl.length : Int) := by
      have q1 := Int.dvd_trans (Int.dvd_of_emod_eq_zero ham) (Int.dvd_of_emod_eq_zero hvs)
      rw [hT1] at q1
      have q2 := Int.dvd_sub q1 (Int.dvd_mul_of_dvd_left (c := (cnf part : Int)) hdl)
      rwa [show ((vg : Int) + ((cb.length + S.tl.length : Nat) : Int) + ((lnf part * cnf part : Nat) : Int) - (lnf part : Int) * (cnf part : Int)) = (S2.tl.length : Int) by rw [hA, Int.natCast_mul]; omega] at q2
    refine' Bl_for (α := Addr × List UInt8 × Int) (fun _ _ => [("form", .v (.ref fx)), ("builder", .v (.ref b)), ("part", .v (.ref pa))])
      (fun i a => B b dx (S2.too a.1 a.2.1 a.2.2 (itB part (cnf part) i)) (r ++ Re))
      (fun i a => jk2.length ≤ a.2.1.length + lnf part * i ∧ a.2.1.length + lnf part * i + S2.tl.length ≤ 2 ^ 18 ∧ Pz a.2.2 ∧ S2.ma ≤ a.2.2)
      (Sc_rev (n := cnf part) (Ea_rng (by kernel_rfl)) (Ev_it5 ?e20 ?f20 ?m20 ?i20) ?e21 (Nat.le_trans hcn (by decide))) (d2, jk2, S2.ma) ?j22 ?l22 ?d22 ?n22 ?t22 ?k22
    case e20 => walk_at "ev"
    case f20 => walk_at "ev"
    case m20 => walk_at "mem"
    case i20 => rfl
    case e21 => intro _; refine' Ev.cast (Ev_neg (Ea.ev Ea_int)) ?q21; case q21 => rfl
    case j22 => exact ⟨Nat.le_add_right _ _, by rw [Nat.mul_zero]; exact hj3, h2, Int.le_refl _⟩
    case l22 => exact Lsub.rfl
    case d22 => exact congrArg (fun X => B b dx X (r ++ Re)) (show S2 = S2.too d2 jk2 S2.ma [] by cases S2; cases h4; cases h8; rfl)
    case n22 => intro _ _ _ _ h; cases h
    case t22 =>
      intro i; refine elP3 ?_; intro d3 jk3 ma3 hi jj it o; refine and4 jj ?_; intro j1 j2 j3 j4; clear jj
      dsimp only at j1 j2 j3 j4 ⊢
      have hil := itB_len part (cnf part) i
      have hms : lnf part * (i + 1) = lnf part * i + lnf part := Nat.mul_succ _ _
      have hmm : lnf part * (i + 1) ≤ lnf part * cnf part := Nat.mul_le_mul (Nat.le_refl _) hi
      have hTl : (itB part (cnf part) i ++ S2.tl).length = lnf part * i + S2.tl.length := by rw [List.length_append, hil]
      have hg0 : gap (mwid (kds part)) (itB part (cnf part) i ++ S2.tl).length (lnf part) = 0 := by
        refine gap_zero (Int.emod_eq_zero_of_dvd ?_)
        rw [hTl, Int.natCast_add, Int.natCast_mul]
        exact Int.dvd_add (Int.dvd_add (Int.dvd_mul_of_dvd_left hdl) hdv) hdl
      refine ⟨_, _, Sto_loc (by kernel_rfl), ?_⟩
      change Bl _ _ (B b dx (S2.too d3 jk3 ma3 (itB part (cnf part) i)) (r ++ Re ++ [(it, o)])) _ _
      refine' Bl_ex (P := fun p ld' => ∃ w d jk ma, p = .i (sB part (cnf part - 1 - i) ++ (itB part (cnf part) i ++ S2.tl)).length ∧ (jk3 ++ (itB part (cnf part) i ++ S2.tl)).length ≤ (jk ++ (sB part (cnf part - 1 - i) ++ (itB part (cnf part) i ++ S2.tl))).length ∧
        (jk ++ (sB part (cnf part - 1 - i) ++ (itB part (cnf part) i ++ S2.tl))).length ≤ 2 ^ 18 ∧ Pz ma ∧ ma3 ≤ ma ∧ ld' = B b dx (S2.too d jk ma (itB part (cnf part) (i + 1))) (r ++ Re ++ [(it, o)] ++ [w]))
        (Ex_fn (P₁ := fun ps ld' => ∃ w, ps = [.v (.ref b), .v (.ref fx), .v (.ref w)] ∧ ld' = B b dx (S2.too d3 jk3 ma3 (itB part (cnf part) i)) (r ++ Re ++ [(it, o)] ++ [(w, .sq "list" (zz (worths part (kds part) (cnf part - 1 - i))))])) (Ea_glob g851 (by kernel_rfl)) (Ag_1 ?e23 (Ag_1 ?e24 (Ag_cons (P := fun p ld' => ∃ w, p = .v (.ref w) ∧ ld' = B b dx (S2.too d3 jk3 ma3 (itB part (cnf part) i)) (r ++ Re ++ [(it, o)] ++ [(w, .sq "list" (zz (worths part (kds part) (cnf part - 1 - i))))])) ?c25 ?r25))) ?f26 (by walk_at "side") (by intro; kernel_rfl)) ?k23 (by kernel_rfl) (by with_unfolding_all rfl)
      case e23 => walk_at "ev"
      case e24 => walk_at "ev"
      case c25 =>
        refine' Ex_f3 (fn_worths (part := part) (kinds := kds part) (item := cnf part - 1 - i) ?m27 ?n27 hpl hpz (Nat.le_trans F.h3 (by decide))) (Ea_glob g846 (by kernel_rfl)) (by walk_at "side") (by intro; kernel_rfl) ?e27 (Ev_it5 ?e28 ?f28 ?m28 ?i28) (Ev.cast ?e29 ?q29)
        case m27 => walk_at "mem"
        case n27 => walk_at "mem"
        case e27 => walk_at "ev"
        case e28 => walk_at "ev"
        case f28 => walk_at "ev"
        case m28 => walk_at "mem"
        case i28 => rfl
        case e29 => walk_at "ev"
        case q29 => omega
      case r25 =>
        refine elA10 ?_; intro w
        exact Ag_end ⟨w, rfl, rfl⟩
      case f26 =>
        refine elA10 ?_; intro w
        have hgg : gap (mwid (kds part)) (S2.too d3 jk3 ma3 (itB part (cnf part) i)).tl.length (lnf part) = 0 := hg0
        have hsb : sPart (kds part) (fFold (kds part)).1 (worths part (kds part) (cnf part - 1 - i)) (lnf part) (kds part).length ++ zer 0 = sB part (cnf part - 1 - i) := List.append_nil _
        refine (fn_struct (ka := ka) (pa := qa) (al := .i (alf part : Nat)) (cn := .i (cnf part : Nat)) (S := S2.too d3 jk3 ma3 (itB part (cnf part) i)) F (worths_len _ _ _) (worths_ok part F.h8 (cnf part - 1 - i)) ?_ ?_ (List.mem_append_right _ (.head _)) ?_ ?_ ?_ j3).mono (Nat.le_refl _) ?_
        · walk_at "mem"
        · walk_at "mem"
        · walk_at "mem"
        · show (jk3 ++ (itB part (cnf part) i ++ S2.tl)).length ≤ _; rw [List.length_append, hTl]; omega
        · show (itB part (cnf part) i ++ S2.tl).length ≤ _; rw [hTl]; omega
        refine elA35 ?_; intro d jk ma q1 q2 q3 q4 q5
        rw [hgg, hsb] at q1 q2 ⊢
        exact ⟨_, d, jk, ma, rfl, q1, q2, q3, q4, congrArg (fun X => B b dx X (r ++ Re ++ [(it, o)] ++ [(w, .sq "list" (zz (worths part (kds part) (cnf part - 1 - i))))])) (by simp only [BS.too, itB, List.append_assoc])⟩
      case k23 =>
        refine elA44 ?_; intro w d jk ma q1 q2 q3 q4
        refine ⟨trivial, Bl_less (lc' := _) (ld' := B b dx (S2.too d jk ma (itB part (cnf part) (i + 1))) (r ++ Re ++ [(it, o)])) (Bl_nil ⟨.inl rfl, (d, jk, ma), ⟨?_, ?_, q3, Int.le_trans j4 q4⟩, ?_, rfl⟩) (fun _ _ h => h) ?_⟩
        · simp only [List.length_append, sB_len, hil] at q1; dsimp only; omega
        · simp only [List.length_append, sB_len, hil] at q2; dsimp only; omega
        · exact lsub_cons (by with_unfolding_all rfl) (lsub_cons (by with_unfolding_all rfl) (lsub_cons (by with_unfolding_all rfl) lsub_nil))
        · exact .cons_cons _ (.cons_cons _ (.cons_cons _ (List.sublist_append_left _ _)))
    case k22 =>
      refine elP3 ?_; intro d3 jk3 ma3 jj; refine and4 jj ?_; intro j1 j2 j3 j4; clear jj
      dsimp only at j1 j2 j3 j4 ⊢
      have hil := itB_len part (cnf part) (cnf part)
      have hTl : (itB part (cnf part) (cnf part) ++ S2.tl).length = lnf part * cnf part + S2.tl.length := by rw [List.length_append, hil]
      have hen : (FK.uo.en (cnf part)).length = 4 := FK.en_len _ _
      have hrt : FK.uo.en (cnf part) ++ (itB part (cnf part) (cnf part) ++ S2.tl) = rowB part S.tl.length ++ S.tl := by rw [hrow, h1]; simp only [List.append_assoc]
      refine' Bl_retx (Ex_m0 (fn_EndVector (S := S2.too d3 jk3 ma3 (itB part (cnf part) (cnf part))) (n := cnf part) h5 h6 ?z30 ?w30 (Nat.le_trans hcn (by decide))) ?o30 (.head _) (.tail _ (.head _)) m434 (by kernel_rfl) (by walk_at "side")) ?k30
      case z30 => show (jk3 ++ (itB part (cnf part) (cnf part) ++ S2.tl)).length ≤ _; rw [List.length_append, hTl]; omega
      case w30 => show 4 ≤ jk3.length; omega
      case o30 => walk_at "ea"
      refine elF00 ?_
      refine ⟨Re, d3, jk3.take (jk3.length - (FK.uo.en (cnf part)).length), ma3, ?_, ?_, j3, Int.le_trans hle1 (Int.le_trans h3.1 j4), Int.le_trans h3.2 j4, ?_⟩
      · rw [← hrt, List.length_append (as := FK.uo.en (cnf part)), hen, Nat.add_comm]
      · show (jk3.take _ ++ (rowB part S.tl.length ++ S.tl)).length ≤ _
        rw [← hrt, List.length_append, List.length_take, List.length_append, hen, hTl]; omega
      · have := h7 d3 (jk3.take (jk3.length - (FK.uo.en (cnf part)).length)) ma3 (rowB part S.tl.length ++ S.tl)
        rw [← hrt] at this
        exact congrArg (fun X => B b dx X (r ++ Re)) (this.trans (by simp only [BS.fin, hrt]))
  · refine elA44 ?_; intro R d jk ma h1 h2 h3 h4
    exact ⟨_, _, .cons_cons _ (.cons_cons _ (.cons_cons _ (List.sublist_append_left _ _))), List.Perm.refl _, d, jk, ma, rfl, h1, h2, h3, h4, rfl⟩
section
variable {C : Cn} {lc : Lc} {ld : Ld} {pos : Pos}
/-- {} -/
theorem Ex_dict : Ex C lc ld (.Dict [] [] pos) (fun p ld' => ∃ x, p = .v (.ref x) ∧ x ≠ 1 ∧ ld' = ld ++ [(x, .raw (dictOf [] 0))]) := fun ok s I Q E k => by
  have X := I.keeps ok 214 _ (f214 _)
  have hlt := Heap.lt_size X
  have I' := I.growE (t := s.toks) (o := .raw (dictOf [] 0)) (h' := s.heap.push { cls := .type "dict", data := .dict #[] }) (fun b o e => Heap.get?_push_of_some _ e) (fresh_none _) (Heap.get?_push_size _ rfl) rfl
  exact N_any (wpAny_Dict_empty (k _ (.v (.ref s.heap.objs.size)) _ _ I' rfl ⟨_, rfl, fun e => by have q : 214 < s.heap.objs.size := hlt; rw [e] at q; exact absurd q (by decide), rfl⟩))
end
/-- a new builder -/
def S0 (d vt : Addr) (n : Nat) : BS := ⟨d, .v .none, false, 1, false, .v .none, none, .v (.ref vt), List.replicate n 0, []⟩
theorem d328 (P : Params) : (frag P).lookup 328 = some (o328 P) := by kernel_rfl
theorem FnK.fn {f : Addr} {k : Nat} {ps : List PV} {ld : Ld} {P : PV → Ld → Prop} (h : FnK f k ps [] [] ld P) : Fn f k ps ld P := fun C ok hk lc s I vs hv R q => h C ok hk lc s I vs [] hv trivial R q
theorem fn_Init {b dx : Addr} {ld : Ld} {n : Nat} (hn : n ≤ 2 ^ 16) : Fn 335 2 [.v (.ref b), .i n] ((b, .ins 721 dx []) :: (dx, .raw (dictOf [] 0)) :: ld)
    (fun p ld' => p = .v .none ∧ ∃ d vt, vt ≠ 1 ∧ ld' = B b dx (S0 d vt n) ((vt, .raw (dictOf [] 0)) :: ld)) := by
  refine Fn.less (FnK.fn (FnK_intro (f := 335) (k := 1) (ps := [.v (.ref b), .i n]) (kn := []) (ks := []) (P := fun p ld' => p = .v .none ∧ ∃ d vt, vt ≠ 1 ∧ ld' = (b, .ins 721 dx (BS.sh (S0 d vt n) ((List.replicate n (0 : UInt8)).length : Int))) :: (dx, .raw (dictOf [] 0)) :: (ld ++ [(d, .ba (List.replicate n 0)), (vt, .raw (dictOf [] 0))])) (lc₀ := [("self", .v (.ref b)), ("initialSize", .i n)]) f335 c335 (fun vs _ => (["self", "initialSize"] : List Str).zip vs) ?hb ?_ (by kernel_rfl) (by kernel_rfl) (by kernel_rfl) (by decide +kernel))) ?_
  case hb =>
    intro P s vs us X h1 h2
    obtain ⟨u, v, rfl, r1, r2⟩ := relL_2 h1
    obtain rfl := relL_nil h2
    next => exact ⟨binds_K (T := 328) X rfl (d328 P) rfl (by rfl) (by rfl), relB_zip (names := ["self", "initialSize"]) (by decide) (ps := [.v (.ref b), .i n]) (vs := [u, v]) ⟨r1, r2, trivial⟩, locs (by kernel_rfl)⟩
  · intro w A h₀ L mg mb os gens k' hk'
    refine' Bl_if (Tr_not (Tr_chain ?e1 ?e2 ?e3 cp_le cp_le (by with_unfolding_all rfl))) ?a1 ?b1
    case e1 => walk_at "ev"
    case e2 => walk_at "ev"
    case e3 => exact Ea.ev (Ea_attr (Ea_glob g721 (by kernel_rfl)) at_max)
    case a1 => intro q; rw [decide_eq_true (show (0 : Int) ≤ n by omega), decide_eq_true (show (n : Int) ≤ 2147483648 by omega)] at q; cases q
    case b1 =>
      intro _
      refine Bl_nil ?_
      refine' Bl_stx 0 (Ex_bi1 (Ea_bi b_bytearray (by kernel_rfl) (by decide) (by kernel_rfl)) ?e4 (bi_ba (n := n) (by omega))) (fun _ => Ea_self (by with_unfolding_all rfl) (by kernel_rfl)) ?k4 so_Bytes
      case e4 => walk_at "ev"
      refine elA10 ?_; intro d
      refine ⟨_, rfl, ?_⟩
      change Bl _ _ ((b, PO.ins 721 dx [some (.v (.ref d))]) :: _) _ _
      refine' Bl_stx 1 (Ev.ex ?e5) (fun _ => Ea_self (by with_unfolding_all rfl) (by kernel_rfl)) ?k5 so_cv
      case e5 => walk_at "ev"
      refine elF00 ?_
      refine ⟨_, rfl, ?_⟩
      change Bl _ _ ((b, PO.ins 721 dx [some (.v (.ref d)), some (.v .none)]) :: _) _ _
      refine' Bl_stx 4 (Ev.ex (Ex_py (k := .uo) ?o6 (Ev.ex ?e6) ?n6)) (fun _ => Ea_self (by with_unfolding_all rfl) (by kernel_rfl)) ?k6 so_head
      case o6 => walk_at "ea"
      case e6 => walk_at "ev"
      case n6 => exact fun _ _ h => h
      refine elF00 ?_
      refine ⟨_, rfl, ?_⟩
      change Bl _ _ ((b, PO.ins 721 dx [some (.v (.ref d)), some (.v .none), none, none, some (.i n)]) :: _) _ _
      refine' Bl_stx 5 (Ev.ex ?e7) (fun _ => Ea_self (by with_unfolding_all rfl) (by kernel_rfl)) ?k7 so_minalign
      case e7 => walk_at "ev"
      refine elF00 ?_
      refine ⟨_, rfl, ?_⟩
      change Bl _ _ ((b, PO.ins 721 dx [some (.v (.ref d)), some (.v .none), none, none, some (.i n), some (.i 1)]) :: _) _ _
      refine' Bl_stx 7 (Ev.ex ?e8) (fun _ => Ea_self (by with_unfolding_all rfl) (by kernel_rfl)) ?k8 so_oe
      case e8 => walk_at "ev"
      refine elF00 ?_
      refine ⟨_, rfl, ?_⟩
      change Bl _ _ ((b, PO.ins 721 dx [some (.v (.ref d)), some (.v .none), none, none, some (.i n), some (.i 1), none, some (.v .none)]) :: _) _ _
      refine' Bl_stx 10 Ex_dict (fun _ => Ea_self (by with_unfolding_all rfl) (by kernel_rfl)) ?k9 so_vt
      refine elA11 ?_; intro vt hvt
      refine ⟨_, rfl, ?_⟩
      change Bl _ _ ((b, PO.ins 721 dx [some (.v (.ref d)), some (.v .none), none, none, some (.i n), some (.i 1), none, some (.v .none), none, none, some (.v (.ref vt))]) :: _) _ _
      refine' Bl_stx 6 (Ev.ex ?e10) (fun _ => Ea_self (by with_unfolding_all rfl) (by kernel_rfl)) ?k10 so_nested
      case e10 => walk_at "ev"
      refine elF00 ?_
      refine ⟨_, rfl, ?_⟩
      change Bl _ _ ((b, PO.ins 721 dx [some (.v (.ref d)), some (.v .none), none, none, some (.i n), some (.i 1), some (.v (.bool false)), some (.v .none), none, none, some (.v (.ref vt))]) :: _) _ _
      refine' Bl_stx 3 (Ev.ex ?e11) (fun _ => Ea_self (by with_unfolding_all rfl) (by kernel_rfl)) ?k11 so_fd
      case e11 => walk_at "ev"
      refine elF00 ?_
      refine ⟨_, rfl, ?_⟩
      change Bl _ _ ((b, PO.ins 721 dx [some (.v (.ref d)), some (.v .none), none, some (.v (.bool false)), some (.i n), some (.i 1), some (.v (.bool false)), some (.v .none), none, none, some (.v (.ref vt))]) :: _) _ _
      refine' Bl_stx 8 (Ev.ex ?e12) (fun _ => Ea_self (by with_unfolding_all rfl) (by kernel_rfl)) ?k12 so_ss
      case e12 => walk_at "ev"
      refine elF00 ?_
      refine ⟨_, rfl, ?_⟩
      change Bl _ _ ((b, PO.ins 721 dx [some (.v (.ref d)), some (.v .none), none, some (.v (.bool false)), some (.i n), some (.i 1), some (.v (.bool false)), some (.v .none), some (.v .none), none, some (.v (.ref vt))]) :: _) _ _
      refine' Bl_stx 2 (Ev.ex ?e13) (fun _ => Ea_self (by with_unfolding_all rfl) (by kernel_rfl)) ?k13 so_fi
      case e13 => walk_at "ev"
      refine elF00 ?_
      refine ⟨_, rfl, Bl_nil ⟨rfl, d, vt, hvt, ?_⟩⟩
      rw [List.length_replicate]
      have key : ∀ (a a' : List (Option PV)) (c c' : Ld), a = a' → c = c' → (b, PO.ins 721 dx a) :: (dx, PO.raw (dictOf [] 0)) :: c = (b, PO.ins 721 dx a') :: (dx, PO.raw (dictOf [] 0)) :: c' := fun a a' c c' h h' => by rw [h, h']
      refine key _ _ _ _ ?_ ?_
      · rfl
      · exact List.append_assoc ld [(d, PO.ba (List.replicate n 0))] [(vt, PO.raw (dictOf [] 0))]
  · (first | refine elF21 ?_ | refine elF30 ?_); intro d vt hvt
    refine ⟨_, _, List.Sublist.refl _, ?_, rfl, d, vt, hvt, rfl⟩
    show List.Perm _ (B b dx (S0 d vt n) _)
    refine .cons _ (.cons _ ?_)
    refine List.perm_append_comm.trans ?_
    show List.Perm _ ((d, PO.ba (List.replicate n 0 ++ [])) :: _)
    rw [List.append_nil]
    exact List.Perm.refl _
/-- a builder, made -/
abbrev BS.obj (S : BS) (v : Addr) : BS := { S with cv := .v (.ref v), oe := .i S.tl.length, ne := true }
theorem fn_StartObject {b dx : Addr} {S : BS} {r : Ld} {n : Nat} (hne : S.ne = false) (hz : S.ok) (hn : n ≤ 64) :
    Fn 356 2 [.v (.ref b), .i n] (B b dx S r) (fun p ld' => p = .v .none ∧ ∃ v, ld' = B b dx (S.obj v) ((v, .sq "list" (List.replicate n (.i 0))) :: r)) := by
  have hof : (S.jk ++ S.tl).length < 2 ^ 40 := by omega
  refine Fn.less (Fn_intro (P := fun p ld' => p = .v .none ∧ ∃ v, ld' = B b dx (S.obj v) (r ++ [(v, .sq "list" (List.replicate n (.i 0)))])) ["self", "numfields"] f356 c356 (by walk_at "intro") (by decide +kernel) (by decide) ?_ (by kernel_rfl) (by kernel_rfl) (by kernel_rfl) (by decide +kernel)) ?_
  · intro w A h₀ L mg mb os gens k' hk'
    refine' Bl_ex (Ex_m0 (fn_assertNotNested hne) ?o1 (.head _) (.tail _ (.head _)) m469 (by kernel_rfl) (by walk_at "side")) ?k1 (by kernel_rfl) (by with_unfolding_all rfl)
    case o1 => walk_at "ea"
    refine elF00 ?_
    refine ⟨trivial, ?_⟩
    refine' Bl_stx 1 (Ex_rep (p := .i 0) (n := n) (Ex_listE (.cons (by with_unfolding_all rfl) ?e2 .nil)) ?f2 (by omega)) (fun _ => Ea_self (by with_unfolding_all rfl) (by kernel_rfl)) ?k2 so_cv
    case e2 => exact Ea.ev Ea_int
    case f2 =>
      refine elA10 ?_; intro x
      refine ⟨x, rfl, rfl, ?_⟩
      walk_at "ev"
    refine elA10 ?_; intro v
    refine ⟨_, rfl, ?_⟩
    change Bl _ _ (B b dx { S with cv := .v (.ref v) } (r ++ [(v, .sq "list" (List.replicate n (.i 0)))])) _ _
    refine' Bl_stv 7 ?e3 (by with_unfolding_all rfl) (by kernel_rfl) so_oe (by exact (by decide : 7 < 11)) ?k3
    case e3 => walk_at "ev"
    change Bl _ _ (B b dx { S with cv := .v (.ref v), oe := .i S.tl.length } (r ++ [(v, .sq "list" (List.replicate n (.i 0)))])) _ _
    refine' Bl_stv 6 ?e4 (by with_unfolding_all rfl) (by kernel_rfl) so_nested (by exact (by decide : 6 < 11)) ?k4
    case e4 => walk_at "ev"
    exact Bl_nil ⟨rfl, v, rfl⟩
  · refine elF10 ?_; intro v
    exact ⟨_, _, List.Sublist.refl _, .cons _ (.cons _ (.cons _ (List.perm_append_singleton _ _))), rfl, v, rfl⟩
/-- a number of the module -/
theorem Ea_gint {C : Cn} {lc : Lc} {ld : Ld} {x : Str} {pos : Pos} {n : Int} (e : ∀ P, ∃ t, nsIn (frag P) mainGlobals x = some (some (.int n t))) (hx : C.env.kindOf x = some .globalImplicit) (hd : (x == ("__debug__" : Str)) = false := by decide) : Ea C lc ld (.Name x pos) (.i n) := fun ok s I Q E h => by
  obtain ⟨m, news, F, N, H, l⟩ := I.ex
  obtain ⟨t, e'⟩ := e C.w.params
  exact Name_function_global ok.fn hx (loadGlobal_global (env := C.env) (ok.T.g.keeps F.keep) (mg_of ok.X ok.T.g e') (h _ s I ⟨t, rfl⟩)) hd
theorem gVM (P : Params) : ∃ t, nsIn (frag P) mainGlobals "VtableMetadataFields" = some (some (.int 2 t)) := ⟨854, by kernel_rfl⟩
theorem at_oe {C : Cn} {lc : Lc} {b dx : Addr} {S : BS} {r : Ld} {h : Int} {n : Int} (hv : S.oe = .i n) : At C lc (BH b dx S h r) (.v (.ref b)) "objectEnd" (.i n) :=
  At_slot (i := 7) (.head _) (.tail _ (.head _)) so_oe (by show some (some S.oe) = some (some (.i n)); rw [hv]) hi_int
theorem at_vt {C : Cn} {lc : Lc} {b dx : Addr} {S : BS} {r : Ld} {h : Int} {v : Addr} (hv : S.vt = .v (.ref v)) : At C lc (BH b dx S h r) (.v (.ref b)) "vtables" (.v (.ref v)) :=
  At_slot (i := 10) (.head _) (.tail _ (.head _)) so_vt (by show some (some S.vt) = some (some (.v (.ref v))); rw [hv]) hi_ref
/-- an offset of two octets, the place even -/
theorem fn_Pvo2 {b dx : Addr} {S : BS} {r : Ld} {n : Int} (hz : S.ok) (ht : S.tl.length ≤ 2 ^ 16) (hn : 0 ≤ n ∧ n ≤ 65535) (h4 : 4 ≤ S.ma) (he : S.tl.length % 2 = 0) :
    Fn 689 4 [.v (.ref b), .i n] (B b dx S r) (fun p ld' => p = .v .none ∧ ∃ d jk, (S.too d jk S.ma (FK.vo.en n)).ok ∧ (S.jk ++ S.tl).length ≤ (jk ++ (FK.vo.en n ++ S.tl)).length ∧ ld' = B b dx (S.too d jk S.ma (FK.vo.en n)) r) := by
  have hn' : FK.vo.lo ≤ n ∧ n ≤ FK.vo.hi := by
    have q1 : FK.vo.lo = 0 := by decide
    have q2 : FK.vo.hi = 65535 := by decide
    omega
  refine (fn_Pvo hz ht hn').mono (Nat.le_refl _) ?_
  rintro p ld' ⟨rfl, d, jk, ⟨h1, h2⟩, rfl⟩
  have hw : ((FK.w .vo : Nat) : Int) = 2 := rfl
  have e : S.num .vo n = FK.vo.en n := by
    show FK.vo.en n ++ List.replicate (gap (FK.w .vo) S.tl.length 0) 0 = _
    rw [gap_zero (by rw [hw]; omega), List.replicate_zero, List.append_nil]
  have hS : S.to d jk (FK.w .vo) (S.num .vo n) = S.too d jk S.ma (FK.vo.en n) := by
    rw [e]
    simp only [BS.to, BS.too]
    rw [if_neg (by rw [hw]; omega)]
  rw [hS] at h1 h2 ⊢
  exact ⟨rfl, d, jk, h2, h1, rfl⟩
/-- a vtable's offsets -/
def vtE (oo : Nat) (es : List Nat) : List UInt8 := (es.map fun (e : Nat) => FK.vo.en ((oo : Int) - (e : Int))).flatten
theorem vtE_len (oo : Nat) : ∀ es : List Nat, (vtE oo es).length = 2 * es.length
  | [] => rfl
  | e :: es => by
    have := vtE_len oo es
    unfold vtE at this ⊢
    rw [List.map_cons, List.flatten_cons, List.length_append, this, FK.en_len, List.length_cons]
    show 2 + _ = _
    omega
/-- a table's end: its vtable, and the way to it -/
def vtT (oo oe : Nat) (es : List Nat) : List UInt8 := FK.vo.en ((es.length : Int) * 2 + 4) ++ (FK.vo.en ((oo : Int) - oe) ++ vtE oo es)
theorem vtT_len (oo oe : Nat) (es : List Nat) : (vtT oo oe es).length = 2 * es.length + 4 := by
  unfold vtT
  rw [List.length_append, List.length_append, vtE_len, FK.en_len, FK.en_len]
  show 2 + (2 + _) = _
  omega
abbrev oOf (n : Nat) : Nat := 4 + gap 4 n 0 + n
abbrev BS.wvt (S : BS) (d : Addr) (jk : List UInt8) (es : List Nat) (oe : Nat) : BS :=
  { S with d := d, jk := jk, cv := .v .none, ma := if S.ma < 4 then 4 else S.ma, tl := vtT (oOf S.tl.length) oe es ++ (FK.so.en (2 * es.length + 4 : Nat) ++ (zer (gap 4 S.tl.length 0) ++ S.tl)) }
def keysOf (oo : Nat) (es : List Nat) (i : Nat) : List Int := (List.range i).map fun j => (oo : Int) - (es.getD (es.length - 1 - j) 0 : Nat)
theorem keysOf_succ (oo : Nat) (es : List Nat) (i : Nat) : keysOf oo es (i + 1) = keysOf oo es i ++ [(oo : Int) - (es.getD (es.length - 1 - i) 0 : Nat)] := by
  unfold keysOf; rw [List.range_succ, List.map_append]; rfl
theorem keysOf_len (oo : Nat) (es : List Nat) (i : Nat) : (keysOf oo es i).length = i := by unfold keysOf; rw [List.length_map, List.length_range]
theorem zz_app (a b : List Int) : zz (a ++ b) = zz a ++ zz b := List.map_append
theorem vtE_cons (oo e : Nat) (es : List Nat) : vtE oo (e :: es) = FK.vo.en ((oo : Int) - e) ++ vtE oo es := rfl
theorem drop_step {es : List Nat} {j : Nat} (h : j < es.length) : es.drop (es.length - (j + 1)) = es.getD (es.length - 1 - j) 0 :: es.drop (es.length - j) := by
  have h' : es.length - 1 - j < es.length := by omega
  rw [show es.length - (j + 1) = es.length - 1 - j by omega, List.drop_eq_getElem_cons h', List.getD_eq_getElem?_getD, List.getElem?_eq_getElem h', show es.length - 1 - j + 1 = es.length - j by omega]
  rfl
theorem fn_WriteVtable {b dx v vd : Addr} {S : BS} {r : Ld} {es : List Nat} {oe : Nat} (hcv : S.cv = .v (.ref v)) (hvt : S.vt = .v (.ref vd)) (hv1 : vd ≠ 1) (hoe : S.oe = .i oe) (hz : S.ok) (ht : S.tl.length ≤ 2 ^ 14) (hes : ∀ e ∈ es, 0 < e ∧ e ≤ S.tl.length) (hm : es.length ≤ 16) (hol : oe ≤ S.tl.length) :
    Fn 363 6 [.v (.ref b)] (B b dx S ((v, .sq "list" (nz es)) :: (vd, .raw (dictOf [] 0)) :: r)) (fun p ld' => ∃ d jk, p = .i (oOf S.tl.length : Nat) ∧ (S.wvt d jk es oe).ok ∧ ld' = B b dx (S.wvt d jk es oe) r) := by
  have hg := gap4 S.tl.length
  have hgs := gap_sum (z := 4) (by unfold Pz; omega) S.tl.length 0
  have hnl := nz_len es
  refine Fn.less (Fn_intro (P := fun p ld' => ∃ R d jk, p = .i (oOf S.tl.length : Nat) ∧ (S.wvt d jk es oe).ok ∧ ld' = B b dx (S.wvt d jk es oe) ((v, .sq "list" (nz es)) :: (r ++ R))) ["self"] f363 c363 (by walk_at "intro") (by decide +kernel) (by decide) ?_ (by kernel_rfl) (by kernel_rfl) (by kernel_rfl) (by decide +kernel)) ?_
  · intro w A h₀ L mg mb os gens k' hk'
    refine' Bl_ex (Ex_m1 (fn_Relso (off := 0) hz (by omega) (Int.le_refl _) (Int.natCast_nonneg _)) ?o1 (.head _) (.tail _ (.head _)) m412 (by kernel_rfl) (by walk_at "side") ?e1) ?k1 (by kernel_rfl) (by with_unfolding_all rfl)
    case o1 => walk_at "ea"
    case e1 => exact Ea.ev Ea_int
    (first | refine elF21 ?_ | refine elF30 ?_); intro d1 jk1 ho1
    refine ⟨trivial, ?_⟩
    obtain ⟨old, hold, hrel⟩ : ∃ old : List UInt8, old.length = 4 ∧ S.rel .so 0 ++ S.tl = old ++ (zer (gap 4 S.tl.length 0) ++ S.tl) := ⟨_, FK.en_len _ _, List.append_assoc ..⟩
    generalize hT : zer (gap 4 S.tl.length 0) ++ S.tl = T at *
    have hTl : T.length = gap 4 S.tl.length 0 + S.tl.length := by rw [← hT, List.length_append, List.length_replicate]
    have hS1 : S.to d1 jk1 4 (S.rel .so 0) = { S with d := d1, ma := if S.ma < 4 then 4 else S.ma, jk := jk1, tl := old ++ T } := by simp only [BS.to, hrel]
    rw [hS1] at ho1 ⊢
    have q1 : ({ S with d := d1, ma := if S.ma < 4 then 4 else S.ma, jk := jk1, tl := old ++ T } : BS).tl = old ++ T := rfl
    have q2 : ({ S with d := d1, ma := if S.ma < 4 then 4 else S.ma, jk := jk1, tl := old ++ T } : BS).cv = .v (.ref v) := hcv
    have q3 : ({ S with d := d1, ma := if S.ma < 4 then 4 else S.ma, jk := jk1, tl := old ++ T } : BS).oe = .i oe := hoe
    have q4 : ({ S with d := d1, ma := if S.ma < 4 then 4 else S.ma, jk := jk1, tl := old ++ T } : BS).vt = .v (.ref vd) := hvt
    have q5 : 4 ≤ ({ S with d := d1, ma := if S.ma < 4 then 4 else S.ma, jk := jk1, tl := old ++ T } : BS).ma := by dsimp only; split <;> omega
    have q6 : ∀ d jk e, ({ ({ S with d := d1, ma := if S.ma < 4 then 4 else S.ma, jk := jk1, tl := old ++ T } : BS) with d := d, jk := jk, cv := .v .none, tl := e } : BS) = { S with d := d, jk := jk, cv := .v .none, ma := if S.ma < 4 then 4 else S.ma, tl := e } := fun _ _ _ => rfl
    generalize ({ S with d := d1, ma := if S.ma < 4 then 4 else S.ma, jk := jk1, tl := old ++ T } : BS) = S1 at *
    have hoo : S1.tl.length = oOf S.tl.length := by rw [q1, List.length_append, hold, hTl]; exact (Nat.add_assoc ..).symm
    have hev : S1.tl.length % 4 = 0 := by rw [hoo]; show (4 + gap 4 S.tl.length 0 + S.tl.length) % 4 = 0; omega
    have hob : oOf S.tl.length ≤ 2 ^ 14 + 8 := by show 4 + gap 4 S.tl.length 0 + S.tl.length ≤ _; omega
    have hes' : ∀ e ∈ es, 0 < e ∧ e < oOf S.tl.length := fun e he => by have := hes e he; show _ ∧ e < 4 + gap 4 S.tl.length 0 + S.tl.length; omega
    have hol' : oe < oOf S.tl.length := by show oe < 4 + gap 4 S.tl.length 0 + S.tl.length; omega
    have hw : S.wvt = fun d jk es oe => { S with d := d, jk := jk, cv := .v .none, ma := if S.ma < 4 then 4 else S.ma, tl := vtT (oOf S.tl.length) oe es ++ (FK.so.en (2 * es.length + 4 : Nat) ++ T) } := by rw [← hT]
    rw [hw]
    generalize oOf S.tl.length = oo at *
    have hof1 : (S1.jk ++ S1.tl).length < 2 ^ 40 := by omega
    refine' Bl_asg (p := .i (oo : Nat)) (Ev.cast ?e2 ?q2) ?k2 (by kernel_rfl)
    case e2 => walk_at "ev"
    case q2 => rw [hoo]
    refine' Bl_asgx (Ex_listE (ps := []) .nil) ?k3 (by kernel_rfl)
    refine elA10 ?_; intro kx
    refine' Bl_asg ?e4 ?k4 (by kernel_rfl)
    case e4 => walk_at "ev"
    refine' Bl_for (α := Unit) (fun _ _ => [("vtKey", .v (.ref kx)), ("objectOffset", .i (oo : Nat)), ("self", .v (.ref b))]) (fun i _ => B b dx S1 ((v, .sq "list" (nz es)) :: (vd, .raw (dictOf [] 0)) :: r) ++ [(kx, .sq "list" (zz (keysOf oo es i)))]) (fun _ _ => True)
      (Sc_reversed (l := v) (xs := nz es) (Ea_bi b_reversed (by kernel_rfl) (by decide) (by kernel_rfl)) ?e5 ?m5) () trivial ?l5 ?d5 ?n5 ?t5 ?k5
    case e5 =>
      change Ev _ _ (B b dx S1 ((v, .sq "list" (nz es)) :: (vd, .raw (dictOf [] 0)) :: r ++ [(kx, _)])) _ _
      exact Ea.ev (Ea_attr (Ea_loc (by with_unfolding_all rfl) (by kernel_rfl)) (at_cv q2))
    case m5 => exact .tail _ (.tail _ (.tail _ (.head _)))
    case l5 => exact lsub_cons (by with_unfolding_all rfl) (lsub_cons (by with_unfolding_all rfl) (lsub_cons (by with_unfolding_all rfl) lsub_nil))
    case d5 => rfl
    case n5 => intro _ _ _ y h; rw [List.mem_singleton.mp h]; exact .tail _ (.tail _ (.tail _ (.head _)))
    case t5 =>
      intro i _ hi _ it o
      refine ⟨_, _, Sto_loc (by kernel_rfl), ?_⟩
      have hlt : es.length - 1 - i < es.length := by omega
      have hit : (nz es).getD ((nz es).length - 1 - i) (.v .none) = .i (es.getD (es.length - 1 - i) 0 : Nat) := by rw [hnl]; exact nz_get hlt
      have hpos := (hes' (es.getD (es.length - 1 - i) 0) (by rw [List.getD_eq_getElem?_getD, List.getElem?_eq_getElem hlt]; exact List.getElem_mem hlt)).1
      have hks := keysOf_succ oo es i
      rw [hit]
      generalize es.getD (es.length - 1 - i) 0 = ev at *
      refine' Bl_if (c := false) ?t6 ?a6 ?b6
      case t6 =>
        have e : decide ((ev : Int) = 0) = false := decide_eq_false (by omega)
        rw [← e]
        refine' Tr_eq ?e7 ?e8 (by with_unfolding_all rfl)
        case e7 => walk_at "ev"
        case e8 => walk_at "ev"
      case a6 => intro q; cases q
      case b6 =>
        intro _
        refine' Bl_asg ?e9 ?k9 (by kernel_rfl)
        case e9 => walk_at "ev"
        refine' Bl_asg ?e10 ?k10 (by kernel_rfl)
        case e10 => walk_at "ev"
        refine Bl_nil ?_
        refine' Bl_eq (ld' := B b dx S1 ((v, .sq "list" (nz es)) :: (vd, .raw (dictOf [] 0)) :: r) ++ (kx, .sq "list" (zz (keysOf oo es i))) :: [(it, o)]) ?k11 (List.append_assoc ..)
        refine' Bl_app (l := kx) (p := .i ((oo : Int) - ev)) ?o12 ?e12 (by rw [zz_len, keysOf_len]; omega) ?k12
        case o12 => walk_at "ea"
        case e12 => walk_at "ev"
        refine Bl_nil ⟨.inl rfl, (), trivial, ?_, ?_⟩
        · exact lsub_cons (by with_unfolding_all rfl) (lsub_cons (by with_unfolding_all rfl) (lsub_cons (by with_unfolding_all rfl) lsub_nil))
        · dsimp only; rw [hks, zz_app]; exact (List.append_assoc (B b dx S1 ((v, .sq "list" (nz es)) :: (vd, .raw (dictOf [] 0)) :: r)) [(kx, PO.sq "list" (zz (keysOf oo es i) ++ zz [(oo : Int) - ev]))] [(it, o)]).symm
    case k5 =>
      intro _ _
      refine' Bl_asg (p := .i ((oo : Int) - oe)) (Ex_py (k := .uo) ?o26 (Ev.ex (Ev_sub ?e26 ?f26)) (fun _ _ h => h)) ?k26 (by kernel_rfl)
      case o26 => walk_at "ea"
      case e26 => walk_at "ev"
      case f26 =>
        change Ev _ _ (B b dx S1 ((v, .sq "list" (nz es)) :: (vd, .raw (dictOf [] 0)) :: r ++ [(kx, _)])) _ _
        exact Ea.ev (Ea_attr (Ea_loc (by with_unfolding_all rfl) (by kernel_rfl)) (at_oe q3))
      change Bl _ _ (B b dx S1 ((v, .sq "list" (nz es)) :: (vd, .raw (dictOf [] 0)) :: r) ++ (kx, .sq "list" (zz (keysOf oo es (nz es).length))) :: []) _ _
      refine' Bl_app (l := kx) (p := .i ((oo : Int) - oe)) ?o27 ?e27 ?z27 ?k27
      case z27 => rw [zz_len, keysOf_len]; omega
      case o27 => walk_at "ea"
      case e27 => walk_at "ev"
      rw [show zz (keysOf oo es (nz es).length) ++ [PV.i ((oo : Int) - oe)] = zz (keysOf oo es (nz es).length ++ [(oo : Int) - oe]) from (zz_app (keysOf oo es (nz es).length) [(oo : Int) - oe]).symm]
      refine' Bl_asgx (Ex_bi1 (Ea_bi b_tuple (by kernel_rfl) (by decide) (by kernel_rfl)) ?e28 (bi_tuple (l := kx) (xs := zz (keysOf oo es (nz es).length ++ [(oo : Int) - oe])) ?m28 ?z28)) ?k28 (by kernel_rfl)
      case e28 => walk_at "ev"
      case m28 => walk_at "mem"
      case z28 => rw [zz_len, List.length_append, keysOf_len]; show _ + 1 ≤ _; omega
      refine elA10 ?_; intro tx
      change Bl _ _ (B b dx S1 ((v, .sq "list" (nz es)) :: (vd, .raw (dictOf [] 0)) :: (r ++ [(kx, .sq "list" (zz (keysOf oo es (nz es).length ++ [(oo : Int) - oe])))] ++ [(tx, .sq "tuple" (zz (keysOf oo es (nz es).length ++ [(oo : Int) - oe])))]))) _ _
      rw [List.append_assoc]
      obtain ⟨R, hR⟩ : ∃ R : Ld, R = [(kx, PO.sq "list" (zz (keysOf oo es (nz es).length ++ [(oo : Int) - oe])))] ++ [(tx, .sq "tuple" (zz (keysOf oo es (nz es).length ++ [(oo : Int) - oe])))] := ⟨_, rfl⟩
      have hkm : (tx, PO.sq "tuple" (zz (keysOf oo es (nz es).length ++ [(oo : Int) - oe]))) ∈ r ++ R := List.mem_append_right _ (by rw [hR]; exact .tail _ (.head _))
      rw [← hR]
      clear hR
      generalize keysOf oo es (nz es).length ++ [(oo : Int) - oe] = ky at *
      refine' Bl_asg (p := .v .none) (Ex.ev (Ex_bmA (T := "dict") (id := "dict.get") (x := vd) (P₁ := fun ps ld' => ps = [.v (.ref tx)] ∧ ld' = B b dx S1 ((v, .sq "list" (nz es)) :: (vd, .raw (dictOf [] 0)) :: (r ++ R))) ?o29 ?t29 F.plainAttrs_dict F.slot_dict_get F.type_dict_get (Ag_1 ?e29 (Ag_end ⟨rfl, rfl⟩) (by with_unfolding_all rfl)) ?f29) fun _ _ h => h) ?k29 (by kernel_rfl)
      case o29 => exact Ea.ev (Ea_attr (Ea_loc (by with_unfolding_all rfl) (by kernel_rfl)) (at_vt q4))
      case t29 =>
        intro ok s I
        obtain ⟨ob, hob, rfl⟩ := I.at_ (x := vd) (o := .raw (dictOf [] 0)) (by walk_at "mem")
        exact ⟨_, hob, rfl, rfl⟩
      case e29 => walk_at "ev"
      case f29 =>
        refine elF00 ?_
        exact bi_dget (by walk_at "mem") (by walk_at "mem") hv1
      refine' Bl_if (Tr_isnone ?e30 ?f30 none_n (by with_unfolding_all rfl)) ?a30 ?b30
      case e30 => walk_at "ev"
      case f30 => walk_at "ev"
      case b30 => intro q; cases q
      case a30 =>
        intro _
        have hvm : (v, PO.sq "list" (nz es)) ∈ B b dx S1 ((v, .sq "list" (nz es)) :: (vd, .raw (dictOf [] 0)) :: (r ++ R)) := .tail _ (.tail _ (.tail _ (.head _)))
        refine' Bl_asg (p := .i ((es.length : Int) - 1)) (Ev.cast (Ev_sub (Ev_lenl ?e31 hvm ?z31 (by kernel_rfl)) ?f31) ?q31) ?k31 (by kernel_rfl)
        case e31 => exact Ea.ev (Ea_attr (Ea_loc (by with_unfolding_all rfl) (by kernel_rfl)) (at_cv q2))
        case z31 => omega
        case f31 => walk_at "ev"
        case q31 => rw [hnl]
        refine' Bl_asg ?e32 ?k32 (by kernel_rfl)
        case e32 => walk_at "ev"
        refine' Bl_asg ?e33 ?k33 (by kernel_rfl)
        case e33 => walk_at "ev"
        refine' Bl_wh (α := Nat × Addr × List UInt8) (fun x => [("i", .i ((es.length : Int) - 1 - x.1)), ("objectOffset", .i (oo : Nat)), ("self", .v (.ref b)), ("trailing", .i 0), ("objectSize", .i ((oo : Int) - oe)), ("vtKey", .v (.ref tx))])
          (fun x => B b dx (S1.too x.2.1 x.2.2 S1.ma (vtE oo (es.drop (es.length - x.1)))) ((v, .sq "list" (nz es)) :: (vd, .raw (dictOf [] 0)) :: (r ++ R)))
          (fun x => es.length - x.1) (fun x => x.1 ≤ es.length ∧ (x.2.2 ++ (vtE oo (es.drop (es.length - x.1)) ++ S1.tl)).length ≤ 2 ^ 18) ?t34 (0, S1.d, S1.jk) ?j34 ?l34 ?d34
        case j34 => refine ⟨Nat.zero_le _, ?_⟩; show (S1.jk ++ (vtE oo (es.drop (es.length - 0)) ++ S1.tl)).length ≤ _; rw [Nat.sub_zero, List.drop_length]; exact ho1
        case l34 => exact lsub_cons (by with_unfolding_all exact congrArg (fun n : Int => some (PV.i n)) (Int.sub_zero _).symm) (lsub_cons (by with_unfolding_all rfl) (lsub_cons (by with_unfolding_all rfl) (lsub_cons (by with_unfolding_all rfl) (lsub_cons (by with_unfolding_all rfl) (lsub_cons (by with_unfolding_all rfl) lsub_nil)))))
        case d34 =>
          show B b dx S1 _ = B b dx (S1.too S1.d S1.jk S1.ma (vtE oo (es.drop (es.length - 0)))) _
          rw [Nat.sub_zero, List.drop_length]; rfl
        case t34 =>
          refine elP3 ?_; intro j d jk jj; refine and2 jj ?_; intro hj hjz; clear jj
          dsimp only at hj hjz ⊢
          have hvl := vtE_len oo (es.drop (es.length - j))
          rw [List.length_drop] at hvl
          have htl : (vtE oo (es.drop (es.length - j)) ++ S1.tl).length = 2 * j + S1.tl.length := by rw [List.length_append, hvl]; omega
          have hvm2 : (v, PO.sq "list" (nz es)) ∈ B b dx (S1.too d jk S1.ma (vtE oo (es.drop (es.length - j)))) ((v, .sq "list" (nz es)) :: (vd, .raw (dictOf [] 0)) :: (r ++ R)) := .tail _ (.tail _ (.tail _ (.head _)))
          refine ⟨decide (0 ≤ (es.length : Int) - 1 - j), ?tr, ?body, ?out⟩
          case tr =>
            refine' Tr_ge ?e35 ?f35 (by with_unfolding_all rfl)
            case e35 => walk_at "ev"
            case f35 => walk_at "ev"
          case body =>
            intro q
            have q := of_decide_eq_true q
            have hjl : j < es.length := by omega
            have hgt : (nz es)[es.length - 1 - j]? = some (.i (es.getD (es.length - 1 - j) 0 : Nat)) := nz_d (by omega)
            have hei := hes' (es.getD (es.length - 1 - j) 0) (by rw [List.getD_eq_getElem?_getD, List.getElem?_eq_getElem (by omega)]; exact List.getElem_mem (by omega))
            have hds := drop_step hjl
            generalize es.getD (es.length - 1 - j) 0 = ev at *
            refine' Bl_asg ?e36 ?k36 (by kernel_rfl)
            case e36 => walk_at "ev"
            refine' Bl_asg (Ev_itl ?e37 ?f37 hvm2 ?z37 (idx_nat ?i37 hgt)) ?k37 (by kernel_rfl)
            case e37 => exact Ea.ev (Ea_attr (Ea_loc (by with_unfolding_all rfl) (by kernel_rfl)) (at_cv (S := S1.too d jk S1.ma (vtE oo (es.drop (es.length - j)))) q2))
            case f37 => walk_at "ev"
            case z37 => omega
            case i37 => omega
            refine' Bl_aug (by with_unfolding_all rfl) ?e38 op_isub ?k38 (by kernel_rfl)
            case e38 => walk_at "ev"
            refine' Bl_if (c := false) ?t39 ?a39 ?b39
            case t39 =>
              have e : decide ((ev : Int) = 0) = false := decide_eq_false (by omega)
              rw [← e]
              refine' Tr_eq ?e40 ?f40 (by with_unfolding_all rfl)
              case e40 => walk_at "ev"
              case f40 => walk_at "ev"
            case a39 => intro q; cases q
            case b39 =>
              intro _
              refine' Bl_asg ?e41 ?k41 (by kernel_rfl)
              case e41 => walk_at "ev"
              refine' Bl_asg ?e42 ?k42 (by kernel_rfl)
              case e42 => walk_at "ev"
              refine Bl_nil ?_
              refine' Bl_ex (Ex_m1 (fn_Pvo2 (S := S1.too d jk S1.ma (vtE oo (es.drop (es.length - j)))) (n := (oo : Int) - ev) hjz ?z43 ?n43 q5 ?h43) ?o43 (.head _) (.tail _ (.head _)) m689 (by kernel_rfl) (by walk_at "side") ?e43) ?k43 (by kernel_rfl) (by with_unfolding_all rfl)
              case z43 => show (vtE oo (es.drop (es.length - j)) ++ S1.tl).length ≤ _; rw [htl]; omega
              case n43 => omega
              case h43 => show (vtE oo (es.drop (es.length - j)) ++ S1.tl).length % 2 = 0; rw [htl]; omega
              case o43 => walk_at "ea"
              case e43 => walk_at "ev"
              (first | refine elF22 ?_ | refine elF31 ?_); intro d' jk' ho _
              refine ⟨trivial, Bl_nil ⟨.inl rfl, (j + 1, d', jk'), ⟨hjl, ?_⟩, ?_, ?_, ?_⟩⟩
              · dsimp only; rw [hds, vtE_cons, List.append_assoc]; exact ho
              · dsimp only; omega
              · exact lsub_cons (by with_unfolding_all exact congrArg (fun n : Int => some (PV.i n)) (by omega : (es.length : Int) - 1 - j - 1 = (es.length : Int) - 1 - ((j + 1 : Nat) : Int))) (lsub_cons (by with_unfolding_all rfl) (lsub_cons (by with_unfolding_all rfl) (lsub_cons (by with_unfolding_all rfl) (lsub_cons (by with_unfolding_all rfl) (lsub_cons (by with_unfolding_all rfl) lsub_nil)))))
              · dsimp only; rw [hds, vtE_cons]
                exact congrArg (fun X => B b dx X ((v, .sq "list" (nz es)) :: (vd, .raw (dictOf [] 0)) :: (r ++ R))) (by simp only [BS.too, List.append_assoc])
          case out =>
            intro q
            have q := of_decide_eq_false q
            obtain rfl : j = es.length := by omega
            rw [Nat.sub_self, List.drop_zero] at hjz htl hvm2 ⊢
            have hlv : (vtE oo es).length = 2 * es.length := vtE_len oo es
            refine' Bl_ex (Ex_m1 (fn_Pvo2 (S := S1.too d jk S1.ma (vtE oo es)) (n := (oo : Int) - oe) hjz ?z50 ?n50 q5 ?h50) ?o50 (.head _) (.tail _ (.head _)) m689 (by kernel_rfl) (by walk_at "side") (Ex_py (k := .vo) ?o51 (Ev.ex ?e51) (fun _ _ h => h))) ?k50 (by kernel_rfl) (by with_unfolding_all rfl)
            case z50 => show (vtE oo es ++ S1.tl).length ≤ _; rw [htl]; omega
            case n50 => omega
            case h50 => show (vtE oo es ++ S1.tl).length % 2 = 0; rw [htl]; omega
            case o50 => walk_at "ea"
            case o51 => walk_at "ea"
            case e51 => walk_at "ev"
            (first | refine elF22 ?_ | refine elF31 ?_); intro d2 jk2 ho2 _
            refine ⟨trivial, ?_⟩
            have hb2 : (S1.too d jk S1.ma (vtE oo es)).too d2 jk2 (S1.too d jk S1.ma (vtE oo es)).ma (FK.vo.en ((oo : Int) - oe)) = S1.too d2 jk2 S1.ma (FK.vo.en ((oo : Int) - oe) ++ vtE oo es) := by simp only [BS.too, List.append_assoc]
            rw [hb2] at ho2 ⊢
            have hl2 : (FK.vo.en ((oo : Int) - oe) ++ vtE oo es).length = 2 + 2 * es.length := by rw [List.length_append, FK.en_len, hlv]; rfl
            have hl2' : (FK.vo.en ((oo : Int) - oe) ++ vtE oo es ++ S1.tl).length = 2 + 2 * es.length + S1.tl.length := by rw [List.length_append, hl2]
            refine' Bl_asg (p := .i ((es.length : Int) - 0 + 2)) (Ev_add (Ev_sub (Ev.cast (Ev_lenl ?e52 ?m52 ?z52 (by kernel_rfl)) ?q52) ?f52) ?g52) ?k52 (by kernel_rfl)
            case e52 => exact Ea.ev (Ea_attr (Ea_loc (by with_unfolding_all rfl) (by kernel_rfl)) (at_cv (S := S1.too d2 jk2 S1.ma (FK.vo.en ((oo : Int) - oe) ++ vtE oo es)) q2))
            case m52 => exact .tail _ (.tail _ (.tail _ (.head _)))
            case z52 => omega
            case q52 => rw [hnl]
            case f52 => walk_at "ev"
            case g52 => exact Ea.ev (Ea_gint gVM (by kernel_rfl))
            refine' Bl_aug (c := .i (((es.length : Int) - 0 + 2) * 2)) (by with_unfolding_all rfl) ?e53 (op_imul (by decide)) ?k53 (by kernel_rfl)
            case e53 =>
              refine' Ev.cast (Ea.ev (Ea_attr ?e54 (at_w (k := .vo)))) ?q54
              case e54 => walk_at "ea"
              case q54 => rfl
            refine' Bl_ex (Ex_m1 (fn_Pvo2 (S := S1.too d2 jk2 S1.ma (FK.vo.en ((oo : Int) - oe) ++ vtE oo es)) (n := (es.length : Int) * 2 + 4) ho2 ?z55 ?n55 q5 ?h55) ?o55 (.head _) (.tail _ (.head _)) m689 (by kernel_rfl) (by walk_at "side") (Ex_py (k := .vo) ?o56 (Ev.ex (Ev.cast ?e56 ?q56)) (fun _ _ h => h))) ?k55 (by kernel_rfl) (by with_unfolding_all rfl)
            case z55 => show (FK.vo.en ((oo : Int) - oe) ++ vtE oo es ++ S1.tl).length ≤ _; rw [hl2']; omega
            case n55 => omega
            case h55 => show (FK.vo.en ((oo : Int) - oe) ++ vtE oo es ++ S1.tl).length % 2 = 0; rw [hl2']; omega
            case o55 => walk_at "ea"
            case o56 => walk_at "ea"
            case e56 => walk_at "ev"
            case q56 => omega
            (first | refine elF22 ?_ | refine elF31 ?_); intro d3 jk3 ho3 _
            refine ⟨trivial, ?_⟩
            have hb3 : (S1.too d2 jk2 S1.ma (FK.vo.en ((oo : Int) - oe) ++ vtE oo es)).too d3 jk3 (S1.too d2 jk2 S1.ma (FK.vo.en ((oo : Int) - oe) ++ vtE oo es)).ma (FK.vo.en ((es.length : Int) * 2 + 4)) = S1.too d3 jk3 S1.ma (vtT oo oe es) := by simp only [BS.too, vtT, List.append_assoc]
            rw [hb3] at ho3 ⊢
            have hl3 := vtT_len oo oe es
            generalize vtT oo oe es = vt at *
            have hl3' : (vt ++ S1.tl).length = 2 * es.length + 4 + S1.tl.length := by rw [List.length_append, hl3]
            have ho3' : jk3.length + (2 * es.length + 4 + S1.tl.length) ≤ 2 ^ 18 := by rw [← hl3', ← List.length_append]; exact ho3
            have hof3 : ((S1.too d3 jk3 S1.ma vt).jk ++ (S1.too d3 jk3 S1.ma vt).tl).length < 2 ^ 40 := by show (jk3 ++ (vt ++ S1.tl)).length < _; rw [List.length_append, hl3']; omega
            refine' Bl_asg (p := .i ((jk3.length + (2 * es.length + 4) : Nat) : Int)) (Ex_py (k := .so) ?o57 (Ev.ex (Ev.cast ?e57 ?q57)) (fun _ _ h => h)) ?k57 (by kernel_rfl)
            case o57 => walk_at "ea"
            case e57 => walk_at "ev"
            case q57 => show ((jk3 ++ (vt ++ S1.tl)).length : Int) - oo = _; rw [List.length_append, hl3']; omega
            have hso : FK.so.lo ≤ ((2 * es.length + 4 : Nat) : Int) ∧ ((2 * es.length + 4 : Nat) : Int) ≤ FK.so.hi := by
              have q1 : FK.so.lo ≤ 0 := by decide
              have q2 : (2147483647 : Int) ≤ FK.so.hi := by decide
              omega
            have hsw : FK.so.w = 4 := rfl
            have hbl : (jk3 ++ (vt ++ S1.tl)).length = jk3.length + (2 * es.length + 4 + S1.tl.length) := by rw [List.length_append, hl3']
            have hs4 : 4 ≤ S1.tl.length := by rw [q1, List.length_append, hold]; omega
            refine' Bl_ex (Ex_f4 (fn_Write (k := .so) (d := d3) (bs := jk3 ++ (vt ++ S1.tl)) (i := ((jk3.length + (2 * es.length + 4) : Nat) : Int)) (n := ((2 * es.length + 4 : Nat) : Int)) (Int.natCast_nonneg _) ?z58 ?y58 hso) (Ea_glob g228 (by kernel_rfl)) (by walk_at "side") k228 ?e58 ?f58 ?g58 (Ex_py (k := .so) ?o59 (Ev.ex (Ev.cast ?e59 ?q59)) (fun _ _ h => h))) ?k58 (by kernel_rfl) (by with_unfolding_all rfl)
            case z58 => rw [hbl, hsw]; omega
            case y58 => rw [hbl]; omega
            case e58 => exact Ea.ev (Ea_glob g58 (by kernel_rfl))
            case f58 => walk_at "ev"
            case g58 => walk_at "ev"
            case o59 => walk_at "ea"
            case e59 => walk_at "ev"
            case q59 => show ((vt ++ S1.tl).length : Int) - oo = _; rw [hl3']; omega
            refine elF00 ?_
            refine ⟨trivial, ?_⟩
            have hby : (jk3 ++ (vt ++ S1.tl)).take ((jk3.length + (2 * es.length + 4) : Nat) : Int).toNat ++ FK.so.en ((2 * es.length + 4 : Nat) : Int) ++ (jk3 ++ (vt ++ S1.tl)).drop (((jk3.length + (2 * es.length + 4) : Nat) : Int) + FK.so.w).toNat = jk3 ++ (vt ++ (FK.so.en ((2 * es.length + 4 : Nat) : Int) ++ T)) := by
              have e1 : jk3 ++ (vt ++ S1.tl) = (jk3 ++ vt) ++ (old ++ T) := by rw [q1, List.append_assoc]
              have e2 : jk3 ++ (vt ++ S1.tl) = (jk3 ++ vt ++ old) ++ T := by rw [q1]; simp only [List.append_assoc]
              rw [show (((jk3.length + (2 * es.length + 4) : Nat) : Int) + FK.so.w).toNat = jk3.length + (2 * es.length + 4) + 4 by rw [hsw]; omega, Int.toNat_natCast]
              conv => lhs; arg 1; arg 1; rw [e1]
              rw [e2, List.take_left' (by rw [List.length_append, hl3]), List.drop_left' (by rw [List.length_append, List.length_append, hl3, hold])]
              simp only [List.append_assoc]
            rw [hby]
            change Bl _ _ (B b dx { S1 with d := d3, jk := jk3, tl := vt ++ (FK.so.en ((2 * es.length + 4 : Nat) : Int) ++ T) } ((v, .sq "list" (nz es)) :: (vd, .raw (dictOf [] 0)) :: (r ++ R))) _ _
            have hTT : (vt ++ (FK.so.en ((2 * es.length + 4 : Nat) : Int) ++ T)).length = 2 * es.length + 4 + S1.tl.length := by rw [q1, List.length_append, hl3, List.length_append, FK.en_len, List.length_append, hold]; rfl
            have hof4 : (jk3 ++ (vt ++ (FK.so.en ((2 * es.length + 4 : Nat) : Int) ++ T))).length ≤ 2 ^ 18 := by rw [List.length_append, hTT]; omega
            have hof5 : (jk3 ++ (vt ++ (FK.so.en ((2 * es.length + 4 : Nat) : Int) ++ T))).length < 2 ^ 40 := Nat.lt_of_le_of_lt hof4 (by decide)
            have hq6 := q6 d3 jk3 (vt ++ (FK.so.en ((2 * es.length + 4 : Nat) : Int) ++ T))
            generalize vt ++ (FK.so.en ((2 * es.length + 4 : Nat) : Int) ++ T) = tt at *
            refine' Bl_setd (pre := [_, _, _, _]) (post := r ++ R) (d := vd) (t := tx) (ns := ky) (p := .i tt.length) ?e60 ?f60 ?g60 ?m60 ?k60
            case e60 => change Ev _ _ (B b dx { S1 with d := d3, jk := jk3, tl := tt } ((v, .sq "list" (nz es)) :: (vd, .raw (dictOf [] 0)) :: (r ++ R))) _ _; walk_at "ev"
            case f60 => change Ev _ _ (B b dx { S1 with d := d3, jk := jk3, tl := tt } ((v, .sq "list" (nz es)) :: (vd, .raw (dictOf [] 0)) :: (r ++ R))) _ _; exact Ea.ev (Ea_attr (Ea_loc (by with_unfolding_all rfl) (by kernel_rfl)) (at_vt q4))
            case g60 => walk_at "ev"
            case m60 => exact .tail _ (.tail _ (.tail _ (.tail _ (.tail _ hkm))))
            change Bl _ _ (B b dx { S1 with d := d3, jk := jk3, tl := tt } ((v, .sq "list" (nz es)) :: (r ++ R))) _ _
            refine Bl_nil ?_
            refine' Bl_stv 1 ?e61 (by with_unfolding_all rfl) (by kernel_rfl) so_cv (by exact (by decide : 1 < 11)) ?k61
            case e61 => walk_at "ev"
            change Bl _ _ (B b dx { S1 with d := d3, jk := jk3, cv := .v .none, tl := tt } ((v, .sq "list" (nz es)) :: (r ++ R))) _ _
            refine' Bl_ret ?e62 ⟨R, d3, jk3, rfl, hof4, ?_⟩
            case e62 => walk_at "ev"
            exact congrArg (fun X => B b dx X ((v, .sq "list" (nz es)) :: (r ++ R))) hq6
  · refine elA31 ?_; intro R d jk h1
    exact ⟨_, _, .cons_cons _ (.cons_cons _ (.cons_cons _ (.cons _ (List.sublist_append_left _ _)))), List.Perm.refl _, d, jk, rfl, h1, rfl⟩
def methOk1 (args : List Expr) (apos pos : Pos) : Bool := (args.all fun e => !isStar e) && Nat.blt (args.length + 2) 30 && apos.endLine == pos.line
theorem meth_eqK {o : Str} {op apos pos kp : Pos} {nm kn : Str} {e : Expr} {args : List Expr} {env : Env} (h : methOk1 args apos pos = true) : ∃ pl, eval (.Call (.Attribute (.Name o op) nm apos) args [⟨some kn, e, kp⟩] pos) env = (do
      let ov ← eval (.Name o op) env
      standAt apos.atName
      let (f, first) ← holding [ov] (getMethod ov nm pl)
      callWith pos f first (backTo pos (starEach args env)) (backToKw pos (keywordEach [⟨some kn, e, kp⟩] env))) := by
  unfold methOk1 at h
  rw [Bool.and_eq_true, Bool.and_eq_true] at h
  obtain ⟨⟨h1, h2⟩, h3⟩ := h
  refine ⟨(do return (← importBound (.Name o op) env).getD true), ?_⟩
  rw [arm_eval_Call]
  have e1 : methodCallForm (args.length + ([⟨some kn, e, kp⟩] : List Keyword).length) (backTo pos (starEach args env)) (backToKw pos (keywordEach [⟨some kn, e, kp⟩] env)) = true := by
    unfold methodCallForm
    rw [star_plain h1]
    show (true && true && decide (args.length + 1 + (if false = true then 0 else 1) < 30)) = true
    have : args.length + 2 < 30 := Nat.le_of_ble_eq_true h2
    simp; omega
  unfold methodCall
  rw [e1]
  have e2 : methodCallPos true (.Name o op) env apos pos = pure pos := by
    unfold methodCallPos
    rw [h3]; rfl
  rw [e2]
  rfl
section
variable {C : Cn} {lc : Lc} {ld : Ld}
/-- a method, its last argument by name -/
theorem Ex_methK {o nm kn : Str} {op apos pos kp : Pos} {args : List Expr} {e : Expr} {p₁ : PV} {x dx c f : Addr} {k : Nat} {sl : List (Option PV)} {od : Obj} {P₁ : List PV → Ld → Prop} {P : PV → Ld → Prop} (ho : Ea C lc ld (.Name o op) (.v (.ref x)))
    (hx : (x, PO.ins c dx sl) ∈ ld) (hd : (dx, PO.raw od) ∈ ld) (hm : ∀ P, mthOk (frag P) c nm f = true) (hsh : shadowIn (some od) nm = some false) (ha : Ag C lc ld args P₁) (hkw : ∀ ps ld', P₁ ps ld' → Ev C lc ld' e p₁)
    (hf : ∀ ps ld', P₁ ps ld' → FnK f k (.v (.ref x) :: ps) [kn] [p₁] ld' P) (hk : k ≤ C.k)
    (hp : methOk1 args apos pos = true := by rfl) : Ex C lc ld (.Call (.Attribute (.Name o op) nm apos) args [⟨some kn, e, kp⟩] pos) P := fun ok s I Q E q => by
  obtain ⟨pl, he⟩ := meth_eqK (o := o) (op := op) (nm := nm) (env := C.env) (kn := kn) (e := e) (kp := kp) hp
  have hpl : ∀ pos : Pos, (backTo pos (starEach args C.env)).any (·.1) = false := fun pos => by
    unfold methOk1 at hp
    rw [Bool.and_eq_true, Bool.and_eq_true] at hp
    exact star_any (star_plain hp.1.1)
  rw [he]
  have hm' := hm C.w.params
  unfold mthOk at hm'
  simp only [Bool.and_eq_true, beq_iff_eq] at hm'
  obtain ⟨⟨⟨⟨m1, m2⟩, m3⟩, m4⟩, m5⟩ := hm'
  refine N_bind (N_any (ho ok s I _ _ fun ov s₁ I₁ ro => ?_))
  have ro : ov = .ref x := ro
  subst ro
  obtain ⟨ob, hob, ⟨vs, hvs, rfl⟩⟩ := I₁.at_ hx
  obtain ⟨od', hod, rfl⟩ := I₁.at_ hd
  refine N_bind (N_standAt (N_bind (N_holding (N_any (method_fn (I₁.keeps ok) ⟨hob, rfl, rfl, hod⟩ m1 m2 m3 m4 hsh ?_)))))
  refine N_callWith (hpl _) rfl (ha ok s₁ I₁ _ _ _ fun us ps ld' s₂ I₂ rs hp => ?_)
  refine N_evalAll_cons (N_bind (hkw ps ld' hp ok s₂ I₂ _ _ fun u s₃ I₃ ru => N_bind (N_standAt (N_pure (N_evalAll_nil ⟨keeps_K m5 _ (I₃.keeps ok), ?_⟩)))))
  exact N_call (hf ps ld' hp C ok hk lc _ I₃ (.ref x :: us) [u] ⟨rfl, rs⟩ ⟨ru, trivial⟩ _ q)
end
theorem fn_EndObject {b dx v vd : Addr} {S : BS} {r : Ld} {es : List Nat} {oe : Nat} (hne : S.ne = true) (hcv : S.cv = .v (.ref v)) (hvt : S.vt = .v (.ref vd)) (hv1 : vd ≠ 1) (hoe : S.oe = .i oe) (hz : S.ok) (ht : S.tl.length ≤ 2 ^ 14) (hes : ∀ e ∈ es, 0 < e ∧ e ≤ S.tl.length) (hm : es.length ≤ 16) (hol : oe ≤ S.tl.length) :
    Fn 370 7 [.v (.ref b)] (B b dx S ((v, .sq "list" (nz es)) :: (vd, .raw (dictOf [] 0)) :: r)) (fun p ld' => ∃ d jk, p = .i (oOf S.tl.length : Nat) ∧ (S.wvt d jk es oe).ok ∧ ld' = B b dx { S.wvt d jk es oe with ne := false } r) := by
  refine Fn_intro ["self"] f370 c370 (by walk_at "intro") (by decide +kernel) (by decide) ?_ (by kernel_rfl) (by kernel_rfl) (by kernel_rfl) (by decide +kernel)
  intro w A h₀ L mg mb os gens k' hk'
  refine' Bl_ex (Ex_m0 (fn_assertNested hne) ?o1 (.head _) (.tail _ (.head _)) m462 (by kernel_rfl) (by walk_at "side")) ?k1 (by kernel_rfl) (by with_unfolding_all rfl)
  case o1 => walk_at "ea"
  refine elF00 ?_
  refine ⟨trivial, ?_⟩
  refine' Bl_stv 6 ?e2 (by with_unfolding_all rfl) (by kernel_rfl) so_nested (by exact (by decide : 6 < 11)) ?k2
  case e2 => walk_at "ev"
  change Bl _ _ (B b dx { S with ne := false } ((v, .sq "list" (nz es)) :: (vd, .raw (dictOf [] 0)) :: r)) _ _
  refine' Bl_retx (Ex_m0 (fn_WriteVtable (S := { S with ne := false }) hcv hvt hv1 hoe hz ht hes hm hol) ?o3 (.head _) (.tail _ (.head _)) m363 (by kernel_rfl) (by walk_at "side")) ?k3
  case o3 => walk_at "ea"
  exact fun p ld' h => h
def p1 (c : Bool) : Nat := cond c 4 0
def laws : List UInt8 := [76, 65, 87, 83]
def idB (c : Bool) : List UInt8 := cond c laws []
def fidP (c : Bool) : PV := cond c (.y laws) (.v .none)
theorem fid_none : ∀ c : Bool, ∀ v, rel (fidP c) v → (v == Value.none) = !c
  | true => none_y
  | false => none_n
def finA (M : Int) (nm sz : Bool) (T : List UInt8) : List UInt8 := idB nm ++ (zer (gap M T.length (4 + p1 nm + p1 sz)) ++ T)
def finU (M : Int) (nm sz : Bool) (T : List UInt8) (root : Nat) : List UInt8 := FK.uo.en (((finA M nm sz T).length : Int) - root + 4) ++ finA M nm sz T
def finT (M : Int) (nm sz : Bool) (T : List UInt8) (root : Nat) : List UInt8 := cond sz (FK.i32.en (finU M nm sz T root).length ++ finU M nm sz T root) (finU M nm sz T root)
theorem idB_len (c : Bool) : (idB c).length = p1 c := by cases c <;> rfl
theorem d484 (P : Params) : (frag P).lookup 484 = some (o484 P) := by kernel_rfl
theorem d492 (P : Params) : (frag P).lookup 492 = some (o492 P) := by kernel_rfl
theorem d500 (P : Params) : (frag P).lookup 500 = some (o500 P) := by kernel_rfl
theorem gFI (P : Params) : ∃ t, nsIn (frag P) mainGlobals "FILE_IDENTIFIER_LENGTH" = some (some (.int 4 t)) := ⟨704, by kernel_rfl⟩
theorem gUn (P : Params) : nsIn (frag P) mainGlobals "unpack" = some (some (.builtin "_struct.unpack")) := by kernel_rfl
theorem FnK.less {f : Addr} {k : Nat} {ps ks : List PV} {kn : List Str} {ld : Ld} {P P' : PV → Ld → Prop} (h : FnK f k ps kn ks ld P) (hP : ∀ p ld', P p ld' → ∃ (l ld₀ : Ld), l.Sublist ld' ∧ l.Perm ld₀ ∧ P' p ld₀) : FnK f k ps kn ks ld P' := fun C ok hk lc s I vs us hv hu R r =>
  h C ok hk lc s I vs us hv hu R fun v p ld' s' I' rv hp => by
    obtain ⟨l, ld₀, a, b, c⟩ := hP p ld' hp
    exact r v p ld₀ s' (I'.sub a b) rv c
theorem Pz.mod4 {z : Int} (h : Pz z) (h4 : 4 ≤ z) : z % 4 = 0 := by unfold Pz at h; omega
/-- a branch whose two ends meet, fewer locals kept -/
theorem Bl_if3 {C : Cn} {lc : Lc} {ld : Ld} {rest : List Stmt} {K : Fl → Lc → Ld → Prop} {t : Expr} {b o : List Stmt} {pos : Pos} {c : Bool} (lc' : Lc) (J : Ld → Prop) (ht : Tr C lc ld t c) (h1 : c = true → Bl C lc ld b (fun f l d => f = .next ∧ Lsub lc' l ∧ J d)) (h2 : c = false → Bl C lc ld o (fun f l d => f = .next ∧ Lsub lc' l ∧ J d))
    (h3 : ∀ d, J d → Bl C lc' d rest K) : Bl C lc ld (.If t b o pos :: rest) K :=
  Bl_if ht (fun e => Bl_mono (h1 e) fun f l d ⟨a, b, c⟩ => by subst a; exact Bl_less (h3 d c) b (List.Sublist.refl _)) (fun e => Bl_mono (h2 e) fun f l d ⟨a, b, c⟩ => by subst a; exact Bl_less (h3 d c) b (List.Sublist.refl _))
theorem laws_step : ∀ i, i < 4 → FK.u8.en ((laws.getD (3 - i) 0).toNat : Int) ++ laws.drop (4 - i) = laws.drop (4 - (i + 1)) := by decide +kernel
theorem laws_idx : ∀ i : Nat, i < 4 → idx [.i 76, .i 65, .i 87, .i 83] (3 + (i : Int) * (-1)) = some (.i ((laws.getD (3 - i) 0).toNat : Int))
  | 0, _ => rfl | 1, _ => rfl | 2, _ => rfl | 3, _ => rfl
  | n + 4, h => absurd h (by omega)
theorem laws_u8 : ∀ i, i < 4 → FK.u8.lo ≤ ((laws.getD (3 - i) 0).toNat : Int) ∧ ((laws.getD (3 - i) 0).toNat : Int) ≤ FK.u8.hi := by decide +kernel
theorem fn_Fin {b dx : Addr} {S : BS} {r : Ld} {root : Nat} {nm sz : Bool} (hma : Pz S.ma) (h4 : 4 ≤ S.ma) (hz : S.ok) (ht : S.tl.length ≤ 2 ^ 15) (hr : root ≤ S.tl.length) :
    FnK 491 5 [.v (.ref b), .i root, .v (.bool sz)] ["file_identifier"] [fidP nm] (B b dx S r) (fun p ld' => ∃ d jk, notRef p ∧ (jk ++ finT S.ma nm sz S.tl root).length ≤ 2 ^ 18 ∧ ld' = B b dx { S with d := d, jk := jk, fi := true, tl := finT S.ma nm sz S.tl root } r) := by
  have hg := gap_lt hma S.tl.length (4 + p1 nm + p1 sz)
  have hgs := gap_sum hma S.tl.length (4 + p1 nm + p1 sz)
  have h32 := hma.pos
  have hnm : p1 nm = 0 ∨ p1 nm = 4 := by cases nm <;> decide
  have hsz : p1 sz = 0 ∨ p1 sz = 4 := by cases sz <;> decide
  have hA : finA S.ma nm sz S.tl = idB nm ++ (zer (gap S.ma S.tl.length (4 + p1 nm + p1 sz)) ++ S.tl) := rfl
  have hidl := idB_len nm
  refine FnK.less (FnK_intro (f := 491) (k := 4) (ps := [.v (.ref b), .i root, .v (.bool sz)]) (kn := ["file_identifier"]) (ks := [fidP nm]) (P := fun p ld' => ∃ R d jk, notRef p ∧ (jk ++ finT S.ma nm sz S.tl root).length ≤ 2 ^ 18 ∧ ld' = B b dx { S with d := d, jk := jk, fi := true, tl := finT S.ma nm sz S.tl root } (r ++ R)) (lc₀ := [("self", .v (.ref b)), ("rootTable", .i root), ("sizePrefix", .v (.bool sz)), ("file_identifier", fidP nm)]) f491 c491 (fun vs us => (["self", "rootTable", "sizePrefix", "file_identifier"] : List Str).zip (vs ++ us)) ?hb ?_ (by kernel_rfl) (by kernel_rfl) (by kernel_rfl) (by decide +kernel)) ?_
  case hb =>
    intro P s vs us X h1 h2
    obtain ⟨u, v, w, rfl, r1, r2, r3⟩ := relL_3 h1
    obtain ⟨x, rfl, r4⟩ := relL_1 h2
    next => exact ⟨binds_K (T := 484) X rfl (d484 P) rfl (by rfl) (by rfl), relB_zip (names := ["self", "rootTable", "sizePrefix", "file_identifier"]) (by decide) (ps := [.v (.ref b), .i root, .v (.bool sz), fidP nm]) (vs := [u, v, w, x]) ⟨r1, r2, r3, r4, trivial⟩, locs (by kernel_rfl)⟩
  · intro w A h₀ L mg mb os gens k' hk'
    refine' Bl_ex (Ex_f2 (fn_enf (k := .uo) (n := (root : Int)) (uo_in (by omega) (by omega))) (Ea_glob g214 (by kernel_rfl)) (by walk_at "side") k214 ?e1 ?e2) ?k1 (by kernel_rfl) (by with_unfolding_all rfl)
    case e1 => walk_at "ev"
    case e2 => walk_at "ev"
    refine elF00 ?_
    refine ⟨trivial, ?_⟩
    refine' Bl_asg (p := .i 4) (Ev.cast ?e3 ?q3) ?k3 (by kernel_rfl)
    case e3 => walk_at "ev"
    case q3 => rfl
    refine' Bl_ifj [("prepSize", .i ((4 + p1 nm : Nat) : Int)), ("self", .v (.ref b)), ("rootTable", .i root), ("sizePrefix", .v (.bool sz)), ("file_identifier", fidP nm)] (B b dx S r) (Tr_isnt ?e4 ?f4 (fid_none nm) (by with_unfolding_all rfl)) ?a4 ?b4 ?k4
    case e4 => walk_at "ev"
    case f4 => walk_at "ev"
    case a4 =>
      intro q; subst q
      refine' Bl_aug (by with_unfolding_all rfl) ?e5 op_iadd (Bl_nil ⟨rfl, ?l5, rfl⟩) (by kernel_rfl)
      case e5 => walk_at "ev"
      case l5 => exact lsub_cons (by with_unfolding_all rfl) (lsub_cons (by with_unfolding_all rfl) (lsub_cons (by with_unfolding_all rfl) (lsub_cons (by with_unfolding_all rfl) (lsub_cons (by with_unfolding_all rfl) lsub_nil))))
    case b4 =>
      intro q; subst q
      exact Bl_nil ⟨rfl, lsub_cons (by with_unfolding_all rfl) (lsub_cons (by with_unfolding_all rfl) (lsub_cons (by with_unfolding_all rfl) (lsub_cons (by with_unfolding_all rfl) (lsub_cons (by with_unfolding_all rfl) lsub_nil)))), rfl⟩
    refine' Bl_ifj [("prepSize", .i ((4 + p1 nm + p1 sz : Nat) : Int)), ("self", .v (.ref b)), ("rootTable", .i root), ("sizePrefix", .v (.bool sz)), ("file_identifier", fidP nm)] (B b dx S r) (Tr_ev ?e6 th_bool) ?a6 ?b6 ?k6
    case e6 => walk_at "ev"
    case a6 =>
      intro q; subst q
      refine' Bl_aug (by with_unfolding_all rfl) ?e7 op_iadd (Bl_nil ⟨rfl, ?l7, rfl⟩) (by kernel_rfl)
      case e7 => walk_at "ev"
      case l7 => exact lsub_cons (by with_unfolding_all rfl) (lsub_cons (by with_unfolding_all rfl) (lsub_cons (by with_unfolding_all rfl) (lsub_cons (by with_unfolding_all rfl) (lsub_cons (by with_unfolding_all rfl) lsub_nil))))
    case b6 =>
      intro q; subst q
      exact Bl_nil ⟨rfl, lsub_cons (by with_unfolding_all rfl) (lsub_cons (by with_unfolding_all rfl) (lsub_cons (by with_unfolding_all rfl) (lsub_cons (by with_unfolding_all rfl) (lsub_cons (by with_unfolding_all rfl) lsub_nil)))), rfl⟩
    refine' Bl_ex (Ex_m2 (fn_Prep (z := S.ma) (a := 4 + p1 nm + p1 sz) hma hz (by omega)) ?o8 (.head _) (.tail _ (.head _)) m405 (by kernel_rfl) (by walk_at "side") ?e8 ?f8) ?k8 (by kernel_rfl) (by with_unfolding_all rfl)
    case o8 => walk_at "ea"
    case e8 => walk_at "ev"
    case f8 => walk_at "ev"
    (first | refine elF22 ?_ | refine elF31 ?_); intro d1 jk1 h2 h3
    refine ⟨trivial, ?_⟩
    generalize hgv : gap S.ma S.tl.length (4 + p1 nm + p1 sz) = g at *
    have q1 : (S.prep d1 jk1 S.ma g).tl = zer g ++ S.tl := rfl
    have q2 : (S.prep d1 jk1 S.ma g).ma = S.ma := if_neg (Int.lt_irrefl _)
    have q3 : ∀ d jk e, ({ S.prep d1 jk1 S.ma g with d := d, jk := jk, fi := true, tl := e } : BS) = { S with d := d, jk := jk, fi := true, tl := e } := fun d jk e => by simp only [BS.prep, if_neg (Int.lt_irrefl S.ma)]
    have q4 : (S.prep d1 jk1 S.ma g).jk = jk1 := rfl
    generalize S.prep d1 jk1 S.ma g = S2 at *
    have ho2 : S2.ok := by show (S2.jk ++ S2.tl).length ≤ _; rw [q4, q1]; exact h3
    have hl2 : S2.tl.length = g + S.tl.length := by rw [q1, List.length_append, List.length_replicate]
    have hm4 : S2.tl.length % 4 = 0 := by
      have d1 : (4 : Int) ∣ S.ma := Int.dvd_of_emod_eq_zero (hma.mod4 h4)
      have d2 := Int.dvd_trans d1 (Int.dvd_of_emod_eq_zero hgs)
      omega
    refine' Bl_if3 [("self", .v (.ref b)), ("rootTable", .i root), ("sizePrefix", .v (.bool sz))] (fun D => ∃ R d jk, D = B b dx (S2.too d jk S2.ma (idB nm)) (r ++ R) ∧ (jk ++ (idB nm ++ S2.tl)).length ≤ 2 ^ 18) (Tr_isnt ?e10 ?f10 (fid_none nm) (by with_unfolding_all rfl)) ?a10 ?b10 ?k10
    case e10 => walk_at "ev"
    case f10 => walk_at "ev"
    case a10 =>
      intro q; subst q
      refine' Bl_ex (Ex_m2 (fn_Prep (z := FK.uo.w) (a := 4) (FK.pz _) ho2 (by omega)) ?o11 (.head _) (.tail _ (.head _)) m405 (by kernel_rfl) (by walk_at "side") ?e11 ?f11) ?k11 (by kernel_rfl) (by with_unfolding_all rfl)
      case o11 => walk_at "ea"
      case e11 => walk_at "ev"
      case f11 => exact Ea.ev (Ea_gint gFI (by kernel_rfl))
      (first | refine elF22 ?_ | refine elF31 ?_); intro d2 jk2 h5 h6
      refine ⟨trivial, ?_⟩
      have hw : ((FK.w .uo : Nat) : Int) = 4 := rfl
      have hg0 : gap (FK.w .uo) S2.tl.length 4 = 0 := gap_zero (by rw [hw]; omega)
      rw [hg0] at h5 h6 ⊢
      have hS : S2.prep d2 jk2 (FK.w .uo) 0 = S2.too d2 jk2 S2.ma [] := by simp only [BS.prep, BS.too, List.replicate_zero, if_neg (show ¬ S2.ma < ((FK.w .uo : Nat) : Int) by rw [hw, q2]; omega)]
      rw [hS]
      have h6' : jk2.length + S2.tl.length ≤ 2 ^ 18 := by rw [← List.length_append]; exact h6
      refine' Bl_asgx (Ex_bi (P₁ := fun ps ld' => ps = [.s ">BBBB", .y laws] ∧ ld' = B b dx (S2.too d2 jk2 S2.ma []) r) (Ea_glob gUn (by kernel_rfl)) (Ag_1 ?e12 (Ag_1 ?f12 (Ag_end ⟨rfl, rfl⟩) (by with_unfolding_all rfl)) (by with_unfolding_all rfl)) ?g12 (by with_unfolding_all rfl) (by with_unfolding_all rfl)) ?k12 (by kernel_rfl)
      case e12 => walk_at "ev"
      case f12 => walk_at "ev"
      case g12 =>
        refine elF00 ?_
        exact bi_unp
      refine elA10 ?_; intro x
      change Bl _ _ (B b dx (S2.too d2 jk2 S2.ma []) (r ++ [(x, .sq "tuple" [.i 76, .i 65, .i 87, .i 83])])) _ _
      refine' Bl_for (α := List UInt8) (fun _ _ => [("self", .v (.ref b)), ("rootTable", .i root), ("sizePrefix", .v (.bool sz)), ("file_identifier", .v (.ref x))])
        (fun i jk => B b dx (S2.too d2 jk S2.ma (laws.drop (4 - i))) (r ++ [(x, .sq "tuple" [.i 76, .i 65, .i 87, .i 83])])) (fun i jk => jk.length + i = jk2.length)
        (Sc_rg (a := 3) (b := -1) (c := -1) (n := 4) ?e13 ?r13 ?s13) jk2 ?j13 ?l13 ?d13 ?n13 ?t13 ?k13
      case e13 =>
        refine' Ex_bi (P₁ := fun ps ld' => ps = [.i 3, .i (-1), .i (-1)] ∧ ld' = _) (Ea_rng (by kernel_rfl)) (Ag_1 (Ev.cast (Ev_sub (Ea.ev (Ea_gint gFI (by kernel_rfl))) ?e14) ?q14) (Ag_1 (Ev.cast ?e15 ?q15) (Ag_1 (Ev.cast ?e16 ?q16) (Ag_end ⟨rfl, rfl⟩) (by with_unfolding_all rfl)) (by with_unfolding_all rfl)) (by with_unfolding_all rfl)) ?g14 (by with_unfolding_all rfl) (by with_unfolding_all rfl)
        case e14 => walk_at "ev"
        case e15 => walk_at "ev"
        case e16 => walk_at "ev"
        case q14 => rfl
        case q15 => rfl
        case q16 => rfl
        case g14 =>
          refine elF00 ?_
          exact bi_range3 (by decide) (by decide)
      case r13 => decide
      case s13 => decide
      case j13 => rfl
      case d13 => rfl
      case l13 => exact lsub_cons (by with_unfolding_all rfl) (lsub_cons (by with_unfolding_all rfl) (lsub_cons (by with_unfolding_all rfl) (lsub_cons (by with_unfolding_all rfl) lsub_nil)))
      case n13 => intro _ _ _ _ h; cases h
      case t13 =>
        intro i jk hi hj it o
        refine ⟨_, _, Sto_loc (by kernel_rfl), ?_⟩
        change Bl _ _ (B b dx (S2.too d2 jk S2.ma (laws.drop (4 - i))) (r ++ [(x, .sq "tuple" [.i 76, .i 65, .i 87, .i 83])] ++ [(it, o)])) _ _
        have hdl : (laws.drop (4 - i)).length ≤ 4 := by rw [List.length_drop]; exact Nat.sub_le _ _
        have hst := laws_step i hi
        have hlt : (laws.drop (4 - i) ++ S2.tl).length ≤ 4 + S2.tl.length := by rw [List.length_append]; omega
        refine' Bl_ex (Ex_m2 (fn_Place (k := .u8) (S := S2.too d2 jk S2.ma (laws.drop (4 - i))) (n := ((laws.getD (3 - i) 0).toNat : Int)) ?w17 ?z17 (laws_u8 i hi)) ?o17 (.head _) (.tail _ (.head _)) m696 (by kernel_rfl) (by walk_at "side") (Ev_itt ?e17 ?f17 ?m17 ?y17 (laws_idx i hi)) ?g17) ?k17 (by kernel_rfl) (by with_unfolding_all rfl)
        case w17 => show 1 ≤ jk.length; omega
        case z17 => show (jk ++ (laws.drop (4 - i) ++ S2.tl)).length ≤ _; rw [List.length_append]; omega
        case o17 => walk_at "ea"
        case e17 => walk_at "ev"
        case f17 => walk_at "ev"
        case m17 => walk_at "mem"
        case y17 => exact (show 4 ≤ 2 ^ 20 by decide)
        case g17 => walk_at "ev"
        refine elF00 ?_
        have hel : (FK.u8.en ((laws.getD (3 - i) 0).toNat : Int)).length = 1 := FK.en_len _ _
        refine ⟨trivial, Bl_nil ⟨.inl rfl, jk.take (jk.length - (FK.u8.en ((laws.getD (3 - i) 0).toNat : Int)).length), ?_, ?_, ?_⟩⟩
        · dsimp only; rw [List.length_take, hel]; omega
        · exact lsub_cons (by with_unfolding_all rfl) (lsub_cons (by with_unfolding_all rfl) (lsub_cons (by with_unfolding_all rfl) (lsub_cons (by with_unfolding_all rfl) lsub_nil)))
        · refine congrArg (fun X => B b dx X (r ++ [(x, .sq "tuple" [.i 76, .i 65, .i 87, .i 83])] ++ [(it, o)])) ?_
          rw [← hst]; simp only [BS.app, BS.too, List.append_assoc]
      case k13 =>
        intro jk hj
        refine Bl_nil ⟨rfl, lsub_cons (by with_unfolding_all rfl) (lsub_cons (by with_unfolding_all rfl) (lsub_cons (by with_unfolding_all rfl) lsub_nil)), _, d2, jk, rfl, ?_⟩
        show (jk ++ (laws ++ S2.tl)).length ≤ _
        rw [List.length_append, List.length_append]
        show _ + (4 + _) ≤ _
        omega
    case b10 =>
      intro q; subst q
      exact Bl_nil ⟨rfl, lsub_cons (by with_unfolding_all rfl) (lsub_cons (by with_unfolding_all rfl) (lsub_cons (by with_unfolding_all rfl) lsub_nil)), [], S2.d, S2.jk, by rw [List.append_nil]; rfl, ho2⟩
    refine elE31 ?_; intro R d3 jk3 ho3
    have hfl : (idB nm ++ S2.tl).length = p1 nm + S2.tl.length := by rw [List.length_append, hidl]
    have hfA : finA S.ma nm sz S.tl = idB nm ++ S2.tl := by rw [hA, q1]
    have hfm : (idB nm ++ S2.tl).length % 4 = 0 := by rw [hfl]; omega
    have hg4 : gap 4 (idB nm ++ S2.tl).length 0 = 0 := gap_zero (by omega)
    refine' Bl_ex (Ex_m1 (fn_Reluo (S := S2.too d3 jk3 S2.ma (idB nm)) (off := root) ho3 ?t20 (Int.natCast_nonneg _) ?r20) ?o20 (.head _) (.tail _ (.head _)) m419 (by kernel_rfl) (by walk_at "side") ?e20) ?k20 (by kernel_rfl) (by with_unfolding_all rfl)
    case t20 => show (idB nm ++ S2.tl).length ≤ _; rw [hfl]; omega
    case r20 => show (root : Int) ≤ ((idB nm ++ S2.tl).length : Int); rw [hfl]; omega
    case o20 => walk_at "ea"
    case e20 => walk_at "ev"
    (first | refine elF21 ?_ | refine elF30 ?_); intro d4 jk4 ho4
    refine ⟨trivial, ?_⟩
    have hU : finU S.ma nm sz S.tl root = FK.uo.en (((idB nm ++ S2.tl).length : Int) - root + 4) ++ (idB nm ++ S2.tl) := by unfold finU; rw [hfA]
    have hS4 : (S2.too d3 jk3 S2.ma (idB nm)).to d4 jk4 4 ((S2.too d3 jk3 S2.ma (idB nm)).rel .uo root) = { S2 with d := d4, jk := jk4, tl := finU S.ma nm sz S.tl root } := by
      have e : (S2.too d3 jk3 S2.ma (idB nm)).rel .uo root = FK.uo.en (((idB nm ++ S2.tl).length : Int) - root + 4) := by
        show FK.uo.en ((gap 4 (idB nm ++ S2.tl).length 0 : Int) + (idB nm ++ S2.tl).length - root + 4) ++ List.replicate (gap 4 (idB nm ++ S2.tl).length 0) 0 = _
        rw [hg4, List.replicate_zero, List.append_nil]
        congr 1; omega
      rw [e, hU]
      simp only [BS.to, BS.too, if_neg (show ¬ S2.ma < 4 by omega)]
    rw [hS4] at ho4 ⊢
    have hUl : (finU S.ma nm sz S.tl root).length = 4 + (p1 nm + S2.tl.length) := by rw [hU, List.length_append, FK.en_len, hfl]; rfl
    have hT : finT S.ma nm sz S.tl root = cond sz (FK.i32.en (finU S.ma nm sz S.tl root).length ++ finU S.ma nm sz S.tl root) (finU S.ma nm sz S.tl root) := rfl
    generalize finU S.ma nm sz S.tl root = U at *
    have ho4' : jk4.length + U.length ≤ 2 ^ 18 := by rw [← List.length_append]; exact ho4
    refine' Bl_if3 [("self", .v (.ref b))] (fun D => ∃ d jk, D = B b dx { S2 with d := d, jk := jk, tl := finT S.ma nm sz S.tl root } (r ++ R) ∧ (jk ++ finT S.ma nm sz S.tl root).length ≤ 2 ^ 18) (Tr_ev ?e30 th_bool) ?a30 ?b30 ?k30
    case e30 => walk_at "ev"
    case a30 =>
      intro q; subst q
      have hT : finT S.ma nm true S.tl root = FK.i32.en U.length ++ U := hT
      rw [hT]
      have hi32 : FK.i32.lo ≤ (U.length : Int) ∧ (U.length : Int) ≤ FK.i32.hi := by
        have q1 : FK.i32.lo ≤ 0 := by decide
        have q2 : (2147483647 : Int) ≤ FK.i32.hi := by decide
        omega
      refine' Bl_asg (p := .i U.length) (Ev.cast (Ev_sub (Ev_lenba ?e31 ?m31 ?z31 (by kernel_rfl) (by with_unfolding_all rfl)) ?f31) ?q31) ?k31 (by kernel_rfl)
      case e31 => walk_at "ev"
      case m31 => walk_at "mem"
      case z31 => show (jk4 ++ U).length < _; rw [List.length_append]; omega
      case f31 => walk_at "ev"
      case q31 => show ((jk4 ++ U).length : Int) - jk4.length = _; rw [List.length_append]; omega
      refine' Bl_ex (Ex_f2 (fn_enf (k := .i32) (n := (U.length : Int)) hi32) (Ea_glob g214 (by kernel_rfl)) (by walk_at "side") k214 ?e32 ?f32) ?k32 (by kernel_rfl) (by with_unfolding_all rfl)
      case e32 => walk_at "ev"
      case f32 => walk_at "ev"
      refine elF00 ?_
      refine ⟨trivial, ?_⟩
      refine' Bl_ex (Ex_m1 (fn_Pi32 (S := { S2 with d := d4, jk := jk4, tl := U }) (n := (U.length : Int)) ho4 ?t33 hi32) ?o33 (.head _) (.tail _ (.head _)) m668 (by kernel_rfl) (by walk_at "side") ?e33) ?k33 (by kernel_rfl) (by with_unfolding_all rfl)
      case t33 => show U.length ≤ _; omega
      case o33 => walk_at "ea"
      case e33 => walk_at "ev"
      rintro p ld' ⟨rfl, d5, jk5, ⟨_, ho5⟩, rfl⟩
      have hw : ((FK.w .i32 : Nat) : Int) = 4 := rfl
      have hS5 : BS.to { S2 with d := d4, jk := jk4, tl := U } d5 jk5 (FK.w .i32) (BS.num { S2 with d := d4, jk := jk4, tl := U } .i32 U.length) = { S2 with d := d5, jk := jk5, tl := FK.i32.en U.length ++ U } := by
        have e : BS.num { S2 with d := d4, jk := jk4, tl := U } .i32 U.length = FK.i32.en U.length := by
          show FK.i32.en U.length ++ List.replicate (gap (FK.w .i32) U.length 0) 0 = _
          rw [gap_zero (by rw [hw]; omega), List.replicate_zero, List.append_nil]
        rw [e]
        simp only [BS.to, if_neg (show ¬ S2.ma < ((FK.w .i32 : Nat) : Int) by rw [hw]; omega)]
      rw [hS5] at ho5 ⊢
      exact ⟨trivial, Bl_nil ⟨rfl, lsub_cons (by with_unfolding_all rfl) lsub_nil, d5, jk5, rfl, ho5⟩⟩
    case b30 =>
      intro q; subst q
      have hT : finT S.ma nm false S.tl root = U := hT
      rw [hT]
      exact Bl_nil ⟨rfl, lsub_cons (by with_unfolding_all rfl) lsub_nil, d4, jk4, rfl, ho4⟩
    refine elE21 ?_; intro d6 jk6 ho6
    refine' Bl_stv 2 ?e40 (by with_unfolding_all rfl) (by kernel_rfl) so_fi (by exact (by decide : 2 < 11)) ?k40
    case e40 => walk_at "ev"
    change Bl _ _ (B b dx { S2 with d := d6, jk := jk6, fi := true, tl := finT S.ma nm sz S.tl root } (r ++ R)) _ _
    refine' Bl_ret (p := .i jk6.length) ?e41 ⟨R, d6, jk6, trivial, ho6, congrArg (fun X => B b dx X (r ++ R)) (q3 _ _ _)⟩
    case e41 => walk_at "ev"
  · rintro p ld' ⟨R, d, jk, hp, h1, rfl⟩
    exact ⟨_, _, .cons_cons _ (.cons_cons _ (.cons_cons _ (List.sublist_append_left _ _))), List.Perm.refl _, d, jk, hp, h1, rfl⟩
theorem fn_Finish {b dx : Addr} {S : BS} {r : Ld} {root : Nat} {nm : Bool} (hma : Pz S.ma) (h4 : 4 ≤ S.ma) (hz : S.ok) (ht : S.tl.length ≤ 2 ^ 15) (hr : root ≤ S.tl.length) :
    Fn 499 6 [.v (.ref b), .i root, fidP nm] (B b dx S r) (fun p ld' => ∃ d jk, notRef p ∧ (jk ++ finT S.ma nm false S.tl root).length ≤ 2 ^ 18 ∧ ld' = B b dx { S with d := d, jk := jk, fi := true, tl := finT S.ma nm false S.tl root } r) := by
  refine FnK.fn (FnK_intro (f := 499) (k := 5) (ps := [.v (.ref b), .i root, fidP nm]) (kn := []) (ks := []) (P := fun p ld' => ∃ d jk, notRef p ∧ (jk ++ finT S.ma nm false S.tl root).length ≤ 2 ^ 18 ∧ ld' = B b dx { S with d := d, jk := jk, fi := true, tl := finT S.ma nm false S.tl root } r) (lc₀ := [("self", .v (.ref b)), ("rootTable", .i root), ("file_identifier", fidP nm)]) f499 c499 (fun vs us => (["self", "rootTable", "file_identifier"] : List Str).zip vs) ?hb ?_ (by kernel_rfl) (by kernel_rfl) (by kernel_rfl) (by decide +kernel))
  case hb =>
    intro P s vs us X h1 h2
    obtain ⟨u, v, w, rfl, r1, r2, r3⟩ := relL_3 h1
    obtain rfl := relL_nil h2
    next => exact ⟨binds_K (T := 492) X rfl (d492 P) rfl (by rfl) (by rfl), relB_zip (names := ["self", "rootTable", "file_identifier"]) (by decide) (ps := [.v (.ref b), .i root, fidP nm]) (vs := [u, v, w]) ⟨r1, r2, r3, trivial⟩, locs (by kernel_rfl)⟩
  · intro w A h₀ L mg mb os gens k' hk'
    refine' Bl_retx (Ex_methK (P₁ := fun ps ld' => ps = [.i root, .v (.bool false)] ∧ ld' = B b dx S r) (p₁ := fidP nm) ?o1 (.head _) (.tail _ (.head _)) m491 (by kernel_rfl) (Ag_1 ?e1 (Ag_1 ?e2 (Ag_end ⟨rfl, rfl⟩) (by with_unfolding_all rfl)) (by with_unfolding_all rfl)) ?w1 ?f1 (by walk_at "side") (by with_unfolding_all rfl)) ?k1
    case o1 => walk_at "ea"
    case e1 => walk_at "ev"
    case e2 => walk_at "ev"
    case w1 =>
      refine elF00 ?_
      walk_at "ev"
    case f1 =>
      refine elF00 ?_
      exact fn_Fin hma h4 hz ht hr
    exact fun p ld' h => h
theorem fn_FinishSize {b dx : Addr} {S : BS} {r : Ld} {root : Nat} {nm : Bool} (hma : Pz S.ma) (h4 : 4 ≤ S.ma) (hz : S.ok) (ht : S.tl.length ≤ 2 ^ 15) (hr : root ≤ S.tl.length) :
    Fn 507 6 [.v (.ref b), .i root, fidP nm] (B b dx S r) (fun p ld' => ∃ d jk, notRef p ∧ (jk ++ finT S.ma nm true S.tl root).length ≤ 2 ^ 18 ∧ ld' = B b dx { S with d := d, jk := jk, fi := true, tl := finT S.ma nm true S.tl root } r) := by
  refine FnK.fn (FnK_intro (f := 507) (k := 5) (ps := [.v (.ref b), .i root, fidP nm]) (kn := []) (ks := []) (P := fun p ld' => ∃ d jk, notRef p ∧ (jk ++ finT S.ma nm true S.tl root).length ≤ 2 ^ 18 ∧ ld' = B b dx { S with d := d, jk := jk, fi := true, tl := finT S.ma nm true S.tl root } r) (lc₀ := [("self", .v (.ref b)), ("rootTable", .i root), ("file_identifier", fidP nm)]) f507 c507 (fun vs us => (["self", "rootTable", "file_identifier"] : List Str).zip vs) ?hb ?_ (by kernel_rfl) (by kernel_rfl) (by kernel_rfl) (by decide +kernel))
  case hb =>
    intro P s vs us X h1 h2
    obtain ⟨u, v, w, rfl, r1, r2, r3⟩ := relL_3 h1
    obtain rfl := relL_nil h2
    next => exact ⟨binds_K (T := 500) X rfl (d500 P) rfl (by rfl) (by rfl), relB_zip (names := ["self", "rootTable", "file_identifier"]) (by decide) (ps := [.v (.ref b), .i root, fidP nm]) (vs := [u, v, w]) ⟨r1, r2, r3, trivial⟩, locs (by kernel_rfl)⟩
  · intro w A h₀ L mg mb os gens k' hk'
    refine' Bl_retx (Ex_methK (P₁ := fun ps ld' => ps = [.i root, .v (.bool true)] ∧ ld' = B b dx S r) (p₁ := fidP nm) ?o1 (.head _) (.tail _ (.head _)) m491 (by kernel_rfl) (Ag_1 ?e1 (Ag_1 ?e2 (Ag_end ⟨rfl, rfl⟩) (by with_unfolding_all rfl)) (by with_unfolding_all rfl)) ?w1 ?f1 (by walk_at "side") (by with_unfolding_all rfl)) ?k1
    case o1 => walk_at "ea"
    case e1 => walk_at "ev"
    case e2 => walk_at "ev"
    case w1 =>
      refine elF00 ?_
      walk_at "ev"
    case f1 =>
      refine elF00 ?_
      exact fn_Fin hma h4 hz ht hr
    exact fun p ld' h => h
section
variable {C : Cn} {lc : Lc} {ld : Ld} {rest : List Stmt} {K : Fl → Lc → Ld → Prop}
/-- a name stored, a local or a cell -/
theorem Bl_sto {x : Str} {xp pos : Pos} {e : Expr} {P : PV → Ld → Prop} (he : Ex C lc ld e P) (h : ∀ p ld', P p ld' → ∃ lc₂ ld₂, Sto C lc ld' x p lc₂ ld₂ ∧ Bl C lc₂ ld₂ rest K)
    (hs : swapsWith e (some (.Name x xp)) pos.line C.env = pure false := by with_unfolding_all rfl) : Bl C lc ld (.Assign [.Name x xp] e pos :: rest) K := fun ok s I Q E k => by
  refine N_execs_cons ?_
  rw [exec_Assign_Name C.env x xp e pos hs]
  exact N_bind (N_standAt (N_bind (he ok s I _ _ fun v p ld' s₁ I₁ r hp => N_bind (N_standAt (N_bind (N_bindName (N_any (by
    obtain ⟨lc₂, ld₂, hst, hb⟩ := h p ld' hp
    exact hst ok s₁ v I₁ r _ _ fun s₂ I₂ => N_pure (hb ok s₂ I₂ Q E k)))))))))
theorem cell_n : ∀ ob, relO (cellO none) ob → ∃ v, ob.data = .cell v := cellO_cell
theorem cell_p {p : PV} : ∀ ob, relO (.cell p) ob → ∃ v, ob.data = .cell v := cellO_cell (v := some p)
end
/-- a struct of the octets is the one that was written -/
structure StOk (F : List UInt8) (place : Nat) (ks ps : List Nat) (ws : List Int) (len : Nat) : Prop where
  h1 : ∀ k, k < ks.length → (place + ps.getD k len) % wid (ks.getD k 0) = 0
  h2 : ∀ k, k < ks.length → (kk (ks.getD k 0)).de F ((place + ps.getD k len : Nat) : Int) = ws.getD k 0
  h3 : ∀ i, i < len → (∀ k, k < ks.length → i < ps.getD k len ∨ ps.getD k len + wid (ks.getD k 0) ≤ i) → F.getD (place + i) 0 = 0
  hb : place + len ≤ F.length
/-- the octets that no number of the first k has -/
def idl (ks ps : List Nat) (len : Nat) : Nat → List Nat
  | 0 => List.range len
  | k + 1 => (idl ks ps len k).filter fun i => decide (i < ps.getD k len) || decide (ps.getD k len + wid (ks.getD k 0) ≤ i)
theorem idl_len (ks ps : List Nat) (len : Nat) : ∀ k, (idl ks ps len k).length ≤ len
  | 0 => by rw [idl, List.length_range]; exact Nat.le_refl _
  | k + 1 => by rw [idl]; exact Nat.le_trans (List.length_filter_le _ _) (idl_len ks ps len k)
theorem idl_mem (ks ps : List Nat) (len : Nat) : ∀ k i, i ∈ idl ks ps len k → i < len ∧ ∀ j, j < k → i < ps.getD j len ∨ ps.getD j len + wid (ks.getD j 0) ≤ i
  | 0, i, h => ⟨List.mem_range.mp h, fun j hj => absurd hj (Nat.not_lt_zero _)⟩
  | k + 1, i, h => by
    rw [idl, List.mem_filter] at h
    obtain ⟨a, b⟩ := idl_mem ks ps len k i h.1
    refine ⟨a, fun j hj => ?_⟩
    rcases Nat.lt_or_ge j k with q | q
    · exact b j q
    · obtain rfl : j = k := by omega
      simpa [Bool.or_eq_true, decide_eq_true_eq] using h.2
theorem filter_at {l : List Nat} (c : Nat → Bool) : ((List.range l.length).filter fun i => c (l.getD i 0)).map (fun i => PV.i (l.getD i 0 : Nat)) = nz (l.filter c) := by
  have e : (List.range l.length).map (fun i => l.getD i 0) = l := by
    apply List.ext_getElem
    · simp
    · intro i h1 h2
      simp only [List.getElem_map, List.getElem_range]
      rw [List.getD_eq_getElem?_getD, List.getElem?_eq_getElem h2]; rfl
  conv => rhs; rw [← e]
  unfold nz
  rw [List.filter_map, List.map_map]
  rfl
theorem wid_pow (kd : Nat) : (2 : Int) ^ ((kd : Int) % 4).toNat = (wid kd : Nat) := by unfold wid; rw [show (((kd : Nat) : Int) % 4).toNat = kd % 4 by omega]; simp
theorem len_5 {vs : List Value} (h : vs.length = 5) : ∃ a b c d e, vs = [a, b, c, d, e] := by
  cases vs with
  | nil => cases h
  | cons a l => obtain ⟨b, c, d, e, rfl⟩ := len_4 (Nat.succ.inj h); exact ⟨a, b, c, d, e, rfl⟩
theorem lk_all {l z : Lc} {sc : List (Str × NameKind)} (h : ∀ y ∈ l, sc.lookup y.1 = some .local ∧ z.lookup y.1 = some y.2) : ∀ x p, l.lookup x = some p → sc.lookup x = some .local ∧ z.lookup x = some p := by
  intro x p e
  induction l with
  | nil => cases e
  | cons y l ih =>
    obtain ⟨k, v⟩ := y
    rw [List.lookup_cons] at e
    cases hx : x == k with
    | true => rw [hx] at e; cases e; rw [beq_iff_eq.mp hx]; exact h _ (.head _)
    | false => rw [hx] at e; exact ih (fun y hy => h y (.tail _ hy)) e
theorem TbAt.up {ld ld' : Ld} {t dx d : Addr} {pos : Int} {bs : List UInt8} (T : TbAt ld t dx d pos bs) (h : ∀ y ∈ ld, y ∈ ld') : TbAt ld' t dx d pos bs := ⟨h _ T.hm, h _ T.hd, h _ T.hb, T.hz⟩
theorem swap2 (A : Ld) (x z : Addr × PO) : (A ++ [x] ++ [z]).Perm (A ++ [z] ++ [x]) := by
  rw [List.append_assoc, List.append_assoc]
  exact List.Perm.append_left A (List.perm_append_comm (l₁ := [x]) (l₂ := [z]))
theorem fn_right {d t dx ka pa wa fx : Addr} {pos : Int} {ld : Ld} {F : List UInt8} {place len : Nat} {ks ps : List Nat} {ws : List Int} {al cn : PV} (O : FormOk ks ps len) (T : TbAt ld t dx d pos F) (hd : (d, PO.ba F) ∈ ld) (hz : F.length ≤ 2 ^ 20) (hws : ws.length = ks.length) (W : StOk F place ks ps ws len)
    (hk : (ka, PO.sq "list" (nz ks)) ∈ ld) (hp : (pa, PO.sq "list" (nz ps)) ∈ ld) (hw : (wa, PO.sq "list" (zz ws)) ∈ ld) (hf : (fx, PO.sq "tuple" [.v (.ref ka), .v (.ref pa), .i len, al, cn]) ∈ ld) :
    Fn 868 4 [.v (.ref d), .v (.ref t), .i place, .v (.ref fx), .v (.ref wa)] ld (fun p ld' => p = .v (.bool true) ∧ ld' = ld) := by
  have hnl := nz_len ks
  have hpl := nz_len ps
  have hwl := zz_len ws
  have hps := O.hl
  have h24 := O.h24
  have h3 := O.h3
  have hB := W.hb
  refine Fn.less (Fn_introC (P := fun p ld' => ∃ C R, p = .v (.bool true) ∧ ld' = C ++ ld ++ R) ["octets", "table", "place", "form", "worths"] [("table", .v (.ref t)), ("form", .v (.ref fx)), ("worths", .v (.ref wa))] f868 c868 (fun vs h => by obtain ⟨a, b, c, d, e, r⟩ := len_5 h; subst r; exact rfl) (by decide +kernel) (by decide) ?hlc (by decide +kernel) ?_ (by kernel_rfl) (by kernel_rfl) (by kernel_rfl)) ?_
  case hlc =>
    refine lk_all fun y hy => ?_
    rcases hy with _ | ⟨_, _ | ⟨_, _ | ⟨_, hy⟩⟩⟩
    · exact ⟨by kernel_rfl, by with_unfolding_all rfl⟩
    · exact ⟨by kernel_rfl, by with_unfolding_all rfl⟩
    · exact ⟨by kernel_rfl, by with_unfolding_all rfl⟩
    · cases hy
  · intro w A h₀ L mg mb os gens k' hk'
    change Bl _ _ ((L + 1 + 1 + 1 + 1 + 1, cellO none) :: (L + 1 + 1 + 1 + 1, cellO none) :: (L + 1 + 1 + 1, cellO none) :: (L + 1 + 1, PO.cell (.i place)) :: (L + 1, PO.cell (.v (.ref d))) :: ld) _ _
    refine' Bl_unp (Ex_stup (hi := 3) ?o1 (Ev.cast ?b1 ?q1) ?m1 ?y1 ?y2) ?k1 (by with_unfolding_all rfl) (by with_unfolding_all rfl)
    case o1 => walk_at "ev"
    case b1 => walk_at "ev"
    case q1 => rfl
    case m1 => exact .tail _ (.tail _ (.tail _ (.tail _ (.tail _ hf))))
    case y1 => exact (by decide : 5 ≤ 2 ^ 20)
    case y2 => exact (by decide : 3 < 5)
    refine elA10 ?_; intro y
    refine ⟨y, [.v (.ref ka), .v (.ref pa), .i len], _, _, rfl, List.mem_append_right _ (.head _), .cons (Sto_loc (by kernel_rfl)) (.cons (Sto_cell (v₀ := none) (pre := [_, _]) (c := L + 1 + 1 + 1) (by with_unfolding_all rfl) (by kernel_rfl) cell_n) (.cons (Sto_loc (by kernel_rfl)) .nil)), ?_⟩
    generalize PO.sq "tuple" (List.take 3 [.v (.ref ka), .v (.ref pa), .i len, al, cn]) = yo
    change Bl _ _ ((L + 1 + 1 + 1 + 1 + 1, cellO none) :: (L + 1 + 1 + 1 + 1, cellO none) :: (L + 1 + 1 + 1, PO.cell (.v (.ref pa))) :: (L + 1 + 1, PO.cell (.i place)) :: (L + 1, PO.cell (.v (.ref d))) :: (ld ++ [(y, yo)])) _ _
    refine' Bl_asgx (Ex_bix (f := .type "list") (P' := fun p ld' => ∃ l, p = .v (.ref l) ∧ ld' = (L + 1 + 1 + 1 + 1 + 1, cellO none) :: (L + 1 + 1 + 1 + 1, cellO none) :: (L + 1 + 1 + 1, PO.cell (.v (.ref pa))) :: (L + 1 + 1, PO.cell (.i place)) :: (L + 1, PO.cell (.v (.ref d))) :: (ld ++ [(y, yo)]) ++ [(l, .sq "list" (nz (List.range len)))]) (Ea_bi b_list (by kernel_rfl) (by decide) (by kernel_rfl)) (Ex_bi1 (Ea_rng (by kernel_rfl)) ?e2 bi_range1) ?b2) ?k2 (by kernel_rfl)
    case e2 => walk_at "ev"
    case b2 =>
      refine elA10 ?_; intro x
      exact bi_listr (by omega)
    refine elA10 ?_; intro ix
    refine' Bl_for (α := PO × PO × Addr) (fun _ a => [("idle", .v (.ref a.2.2)), ("kinds", .v (.ref ka)), ("table", .v (.ref t)), ("worths", .v (.ref wa))])
      (fun k a => (L + 1 + 1 + 1 + 1 + 1, a.1) :: (L + 1 + 1 + 1 + 1, a.2.1) :: (L + 1 + 1 + 1, PO.cell (.v (.ref pa))) :: (L + 1 + 1, PO.cell (.i place)) :: (L + 1, PO.cell (.v (.ref d))) :: (ld ++ [(y, yo)]) ++ [(a.2.2, .sq "list" (nz (idl ks ps len k)))])
      (fun _ a => (∀ ob, relO a.1 ob → ∃ v, ob.data = .cell v) ∧ (∀ ob, relO a.2.1 ob → ∃ v, ob.data = .cell v))
      (Sc_range (n := ks.length) (Ea_rng (by kernel_rfl)) (Ev.cast (Ev_lenl ?e3 ?m3 ?z3 (by kernel_rfl)) ?q3) ?z4) (cellO none, cellO none, ix) ?j5 ?l5 ?d5 ?n5 ?t5 ?k5
    case e3 => walk_at "ev"
    case m3 => exact .tail _ (.tail _ (.tail _ (.tail _ (.tail _ (List.mem_append_left _ (List.mem_append_left _ hk))))))
    case z3 => omega
    case q3 => rw [hnl]
    case z4 => omega
    case j5 => exact ⟨cell_n, cell_n⟩
    case l5 => exact lsub_cons (by with_unfolding_all rfl) (lsub_cons (by with_unfolding_all rfl) (lsub_cons (by with_unfolding_all rfl) (lsub_cons (by with_unfolding_all rfl) lsub_nil)))
    case d5 => rfl
    case n5 => intro _ _ _ _ h; cases h
    case t5 =>
      intro k; refine elP3 ?_; intro wo ko ix hk3 jj it o; refine and2 jj ?_; intro j1 j2; clear jj
      dsimp only at j1 j2 ⊢
      have e0 : (0 : Int) + (k : Int) * 1 = k := by omega
      have g1 := W.h1 k hk3
      have g2 := W.h2 k hk3
      have g8 := O.h8 k hk3
      have hkg := nz_d (d := 0) (l := ks) (i := k) hk3
      have hpg := nz_d (d := len) (l := ps) (i := k) (by omega)
      have hwg := zz_get (l := ws) (i := k) (by omega)
      have hmo := O.mono (k + 1) hk3
      have hnn := O.hn k hk3
      have hkw := kk_w _ g8
      have hid : idl ks ps len (k + 1) = (idl ks ps len k).filter fun i => decide (i < ps.getD k len) || decide (ps.getD k len + wid (ks.getD k 0) ≤ i) := rfl
      have hil := idl_len ks ps len k
      generalize hkd : ks.getD k 0 = kd at *
      generalize hpv : ps.getD k len = pv at *
      generalize hwv : ws.getD k 0 = wv at *
      have hwp := wid_pos kd
      refine ⟨_, _, Sto_cell (v₀ := none) (pre := [_]) (c := L + 1 + 1 + 1 + 1) (by with_unfolding_all rfl) (by kernel_rfl) j2, ?_⟩
      rw [e0]
      refine' Bl_sto (Ev.ex (Ev.cast (Ev_pow ?e6 (Ev_modp (Ev_itl ?f6 ?g6 ?m6 ?z6 (idx_nat ?i6 hkg)) ?h6 ?y6) ?w6 ?x6 ?v6) (wid_pow kd))) ?k6
      case e6 => walk_at "ev"
      case f6 => walk_at "ev"
      case g6 => exact Ea.ev (Ea_cell (c := L + 1 + 1 + 1 + 1) (by with_unfolding_all rfl) (.tail _ (.head _)) (by kernel_rfl) (by decide))
      case m6 => exact .tail _ (.tail _ (.tail _ (.tail _ (.tail _ (List.mem_append_left _ (List.mem_append_left _ (List.mem_append_left _ hk)))))))
      case z6 => omega
      case i6 => rfl
      case h6 => walk_at "ev"
      case y6 => omega
      case w6 => omega
      case x6 => omega
      case v6 => decide
      refine elF00 ?_
      refine ⟨_, _, Sto_cell (v₀ := none) (pre := []) (c := L + 1 + 1 + 1 + 1 + 1) (by with_unfolding_all rfl) (by kernel_rfl) j1, ?_⟩
      change Bl _ _ ((L + 1 + 1 + 1 + 1 + 1, PO.cell (.i (wid kd : Nat))) :: (L + 1 + 1 + 1 + 1, PO.cell (.i (k : Nat))) :: (L + 1 + 1 + 1, PO.cell (.v (.ref pa))) :: (L + 1 + 1, PO.cell (.i place)) :: (L + 1, PO.cell (.v (.ref d))) :: (ld ++ [(y, yo)] ++ [(ix, .sq "list" (nz (idl ks ps len k)))] ++ [(it, o)])) _ _
      have up : ∀ z ∈ ld, z ∈ (L + 1 + 1 + 1 + 1 + 1, PO.cell (.i (wid kd : Nat))) :: (L + 1 + 1 + 1 + 1, PO.cell (.i (k : Nat))) :: (L + 1 + 1 + 1, PO.cell (.v (.ref pa))) :: (L + 1 + 1, PO.cell (.i place)) :: (L + 1, PO.cell (.v (.ref d))) :: (ld ++ [(y, yo)] ++ [(ix, .sq "list" (nz (idl ks ps len k)))] ++ [(it, o)]) := fun z h => .tail _ (.tail _ (.tail _ (.tail _ (.tail _ (List.mem_append_left _ (List.mem_append_left _ (List.mem_append_left _ h)))))))
      have m5 : (L + 1 + 1 + 1 + 1 + 1, PO.cell (.i (wid kd : Nat))) ∈ (L + 1 + 1 + 1 + 1 + 1, PO.cell (.i (wid kd : Nat))) :: (L + 1 + 1 + 1 + 1, PO.cell (.i (k : Nat))) :: (L + 1 + 1 + 1, PO.cell (.v (.ref pa))) :: (L + 1 + 1, PO.cell (.i place)) :: (L + 1, PO.cell (.v (.ref d))) :: (ld ++ [(y, yo)] ++ [(ix, .sq "list" (nz (idl ks ps len k)))] ++ [(it, o)]) := .head _
      have m4 : (L + 1 + 1 + 1 + 1, PO.cell (.i (k : Nat))) ∈ (L + 1 + 1 + 1 + 1 + 1, PO.cell (.i (wid kd : Nat))) :: (L + 1 + 1 + 1 + 1, PO.cell (.i (k : Nat))) :: (L + 1 + 1 + 1, PO.cell (.v (.ref pa))) :: (L + 1 + 1, PO.cell (.i place)) :: (L + 1, PO.cell (.v (.ref d))) :: (ld ++ [(y, yo)] ++ [(ix, .sq "list" (nz (idl ks ps len k)))] ++ [(it, o)]) := .tail _ (.head _)
      have m3 : (L + 1 + 1 + 1, PO.cell (.v (.ref pa))) ∈ (L + 1 + 1 + 1 + 1 + 1, PO.cell (.i (wid kd : Nat))) :: (L + 1 + 1 + 1 + 1, PO.cell (.i (k : Nat))) :: (L + 1 + 1 + 1, PO.cell (.v (.ref pa))) :: (L + 1 + 1, PO.cell (.i place)) :: (L + 1, PO.cell (.v (.ref d))) :: (ld ++ [(y, yo)] ++ [(ix, .sq "list" (nz (idl ks ps len k)))] ++ [(it, o)]) := .tail _ (.tail _ (.head _))
      have m2 : (L + 1 + 1, PO.cell (.i place)) ∈ (L + 1 + 1 + 1 + 1 + 1, PO.cell (.i (wid kd : Nat))) :: (L + 1 + 1 + 1 + 1, PO.cell (.i (k : Nat))) :: (L + 1 + 1 + 1, PO.cell (.v (.ref pa))) :: (L + 1 + 1, PO.cell (.i place)) :: (L + 1, PO.cell (.v (.ref d))) :: (ld ++ [(y, yo)] ++ [(ix, .sq "list" (nz (idl ks ps len k)))] ++ [(it, o)]) := .tail _ (.tail _ (.tail _ (.head _)))
      have mi : (ix, PO.sq "list" (nz (idl ks ps len k))) ∈ (L + 1 + 1 + 1 + 1 + 1, PO.cell (.i (wid kd : Nat))) :: (L + 1 + 1 + 1 + 1, PO.cell (.i (k : Nat))) :: (L + 1 + 1 + 1, PO.cell (.v (.ref pa))) :: (L + 1 + 1, PO.cell (.i place)) :: (L + 1, PO.cell (.v (.ref d))) :: (ld ++ [(y, yo)] ++ [(ix, .sq "list" (nz (idl ks ps len k)))] ++ [(it, o)]) := .tail _ (.tail _ (.tail _ (.tail _ (.tail _ (List.mem_append_left _ (List.mem_append_right _ (.head _)))))))
      generalize hX : (L + 1 + 1 + 1 + 1 + 1, PO.cell (.i (wid kd : Nat))) :: (L + 1 + 1 + 1 + 1, PO.cell (.i (k : Nat))) :: (L + 1 + 1 + 1, PO.cell (.v (.ref pa))) :: (L + 1 + 1, PO.cell (.i place)) :: (L + 1, PO.cell (.v (.ref d))) :: (ld ++ [(y, yo)] ++ [(ix, .sq "list" (nz (idl ks ps len k)))] ++ [(it, o)]) = X at *
      have ik : idx (nz ks) (k : Int) = some (.i (kd : Nat)) := idx_nat rfl hkg
      have ip : idx (nz ps) (k : Int) = some (.i (pv : Nat)) := idx_nat rfl hpg
      have iw : idx (zz ws) (k : Int) = some (.i wv) := idx_nat rfl hwg
      have mk := up _ hk
      have mp := up _ hp
      have mw := up _ hw
      have zk : (nz ks).length ≤ 2 ^ 20 := by omega
      have zp : (nz ps).length ≤ 2 ^ 20 := by omega
      have zw : (zz ws).length ≤ 2 ^ 20 := by omega
      have hmod : ((place : Int) + pv) % (wid kd : Nat) = 0 := by
        have : ((place + pv : Nat) : Int) % (wid kd : Nat) = 0 := by rw [← Int.natCast_emod, g1]; rfl
        rwa [Int.natCast_add] at this
      refine' Bl_if (c := false) ?t7 ?a7 ?b7
      case t7 =>
        have e : ((!decide (((place : Int) + pv) % (wid kd : Nat) = 0)) || (!decide ((kk kd).de F ((place : Int) + pv) = wv))) = false := by
          rw [decide_eq_true hmod, show (kk kd).de F ((place : Int) + pv) = wv by rw [← g2, Int.natCast_add], decide_eq_true rfl]; rfl
        rw [← e]
        refine' Tr_or2 (Tr_ne ?e8 ?f8 (by with_unfolding_all rfl)) (fun _ => Tr_ne ((Ex_f3 (fn_got (kd := kd) g8 (T.up up) ?x9 ?y9) ?o9 (by walk_at "side") (by intro; kernel_rfl) ?e9 ?f9 ?g9).ev fun _ _ h => h) ?h9 (by with_unfolding_all rfl))
        case e8 => walk_at "ev"
        case f8 => walk_at "ev"
        case o9 => exact Ea_glob g834 (by kernel_rfl)
        case e9 => walk_at "ev"
        case f9 => walk_at "ev"
        case g9 => walk_at "ev"
        case x9 => omega
        case y9 => rw [hkw]; omega
        case h9 => walk_at "ev"
      case a7 => intro q; cases q
      case b7 =>
        intro _
        refine Bl_nil ?_
        refine' Bl_asgF (fun i => .i ((idl ks ps len k).getD i 0 : Nat)) (fun i => decide ((idl ks ps len k).getD i 0 < pv) || decide (pv + wid kd ≤ (idl ks ps len k).getD i 0)) (Sc_list (l := ix) (xs := nz (idl ks ps len k)) ?e10 mi) ?n10 ?z10 ?s10 ?t10 ?k10 (cl := [("width", L + 1 + 1 + 1 + 1 + 1), ("places", L + 1 + 1 + 1), ("k", L + 1 + 1 + 1 + 1)]) (by with_unfolding_all rfl) (by decide +kernel) (by kernel_rfl) (by decide +kernel) (by kernel_rfl) (by kernel_rfl) (by with_unfolding_all rfl)
        case e10 => walk_at "ev"
        case n10 => intro z h; rw [List.mem_singleton.mp h]; exact mi
        case z10 => rw [nz_len]; omega
        case s10 =>
          intro i hi ex h L'
          rw [nz_len] at hi
          rw [nz_get hi]
          generalize (idl ks ps len k).getD i 0 = iv
          have mk' := List.mem_append_left ex m4
          have mp' := List.mem_append_left ex m3
          have mw' := List.mem_append_left ex m5
          have ml' := List.mem_append_left ex mp
          have e1 : (decide (iv < pv) || decide (pv + wid kd ≤ iv)) = (decide ((iv : Int) < pv) || decide ((pv : Int) + (wid kd : Nat) ≤ iv)) := by
            congr 1
            · exact decide_eq_decide.mpr (by omega)
            · exact decide_eq_decide.mpr (by omega)
          rw [e1]
          refine' Tr_or2 ?t11 (fun _ => Tr_ge ?e11 ?f11 (by with_unfolding_all rfl))
          case t11 => walk_at "tr"
          case e11 => walk_at "ev"
          case f11 => walk_at "ev"
        case t10 =>
          intro i hi ex h L'
          rw [nz_len] at hi
          rw [nz_get hi]
          walk_at "ev"
        case k10 =>
          intro acc
          have hfa := filter_at (l := idl ks ps len k) (fun i => decide (i < pv) || decide (pv + wid kd ≤ i))
          rw [nz_len, hfa, ← hid, ← hX]
          refine Bl_sub (l := (L + 1 + 1 + 1 + 1 + 1, PO.cell (.i (wid kd : Nat))) :: (L + 1 + 1 + 1 + 1, PO.cell (.i (k : Nat))) :: (L + 1 + 1 + 1, PO.cell (.v (.ref pa))) :: (L + 1 + 1, PO.cell (.i place)) :: (L + 1, PO.cell (.v (.ref d))) :: (ld ++ [(y, yo)] ++ [(it, o)] ++ [(acc, .sq "list" (nz (idl ks ps len (k + 1))))]))
            (.cons_cons _ (.cons_cons _ (.cons_cons _ (.cons_cons _ (.cons_cons _ (List.Sublist.append_right (List.Sublist.append_right (List.sublist_append_left _ _) _) _)))))) (.cons _ (.cons _ (.cons _ (.cons _ (.cons _ (swap2 (ld ++ [(y, yo)]) _ _)))))) ?_
          refine Bl_nil ⟨.inl rfl, (PO.cell (.i (wid kd : Nat)), PO.cell (.i (k : Nat)), acc), ⟨cell_p, cell_p⟩, ?_, rfl⟩
          exact lsub_cons (by with_unfolding_all rfl) (lsub_cons (by with_unfolding_all rfl) (lsub_cons (by with_unfolding_all rfl) (lsub_cons (by with_unfolding_all rfl) lsub_nil)))
    case k5 =>
      refine elP3 ?_; intro wo ko ix jj; refine and2 jj ?_; intro j1 j2; clear jj
      dsimp only
      have hil := idl_len ks ps len ks.length
      have him := idl_mem ks ps len ks.length
      have m2 : (L + 1 + 1, PO.cell (.i place)) ∈ (L + 1 + 1 + 1 + 1 + 1, wo) :: (L + 1 + 1 + 1 + 1, ko) :: (L + 1 + 1 + 1, PO.cell (.v (.ref pa))) :: (L + 1 + 1, PO.cell (.i place)) :: (L + 1, PO.cell (.v (.ref d))) :: (ld ++ [(y, yo)]) ++ [(ix, .sq "list" (nz (idl ks ps len ks.length)))] := .tail _ (.tail _ (.tail _ (.head _)))
      have m1 : (L + 1, PO.cell (.v (.ref d))) ∈ (L + 1 + 1 + 1 + 1 + 1, wo) :: (L + 1 + 1 + 1 + 1, ko) :: (L + 1 + 1 + 1, PO.cell (.v (.ref pa))) :: (L + 1 + 1, PO.cell (.i place)) :: (L + 1, PO.cell (.v (.ref d))) :: (ld ++ [(y, yo)]) ++ [(ix, .sq "list" (nz (idl ks ps len ks.length)))] := .tail _ (.tail _ (.tail _ (.tail _ (.head _))))
      have md : (d, PO.ba F) ∈ (L + 1 + 1 + 1 + 1 + 1, wo) :: (L + 1 + 1 + 1 + 1, ko) :: (L + 1 + 1 + 1, PO.cell (.v (.ref pa))) :: (L + 1 + 1, PO.cell (.i place)) :: (L + 1, PO.cell (.v (.ref d))) :: (ld ++ [(y, yo)]) ++ [(ix, .sq "list" (nz (idl ks ps len ks.length)))] := .tail _ (.tail _ (.tail _ (.tail _ (.tail _ (List.mem_append_left _ (List.mem_append_left _ hd))))))
      have mi : (ix, PO.sq "list" (nz (idl ks ps len ks.length))) ∈ (L + 1 + 1 + 1 + 1 + 1, wo) :: (L + 1 + 1 + 1 + 1, ko) :: (L + 1 + 1 + 1, PO.cell (.v (.ref pa))) :: (L + 1 + 1, PO.cell (.i place)) :: (L + 1, PO.cell (.v (.ref d))) :: (ld ++ [(y, yo)]) ++ [(ix, .sq "list" (nz (idl ks ps len ks.length)))] := .tail _ (.tail _ (.tail _ (.tail _ (.tail _ (List.mem_append_right _ (.head _))))))
      refine Bl_mono (K' := fun fl _ ld' => ∃ R, fl = .ret (.v (.bool true)) ∧ ld' = (L + 1 + 1 + 1 + 1 + 1, wo) :: (L + 1 + 1 + 1 + 1, ko) :: (L + 1 + 1 + 1, PO.cell (.v (.ref pa))) :: (L + 1 + 1, PO.cell (.i place)) :: (L + 1, PO.cell (.v (.ref d))) :: (ld ++ [(y, yo)]) ++ [(ix, .sq "list" (nz (idl ks ps len ks.length)))] ++ R) ?_ ?_
      · generalize (L + 1 + 1 + 1 + 1 + 1, wo) :: (L + 1 + 1 + 1 + 1, ko) :: (L + 1 + 1 + 1, PO.cell (.v (.ref pa))) :: (L + 1 + 1, PO.cell (.i place)) :: (L + 1, PO.cell (.v (.ref d))) :: (ld ++ [(y, yo)]) ++ [(ix, .sq "list" (nz (idl ks ps len ks.length)))] = X at *
        refine' Bl_retx (Ex_bix (f := .builtin "all") (P := fun p ld' => ∃ acc, p = .v (.ref acc) ∧ ld' = X ++ [(acc, .sq "list" (((List.range (idl ks ps len ks.length).length).map fun _ => true).map fun b => .v (.bool b)))])
          (P' := fun p ld' => p = .v (.bool true) ∧ ∃ R, ld' = X ++ R) (Ea_bi b_all (by kernel_rfl) (by decide) (by kernel_rfl)) ?c20 ?c21) ?k20
        case c20 =>
          refine' (Ex_compM (fun _ => .v (.bool true)) (Sc_list (l := ix) (xs := nz (idl ks ps len ks.length)) ?e22 mi) ?n22 ?z22 ?t22 (cl := [("place", L + 1 + 1), ("octets", L + 1)]) (by with_unfolding_all rfl) (by decide +kernel) (by kernel_rfl) (by decide +kernel) (by kernel_rfl)).mono ?m22
          case e22 => walk_at "ev"
          case n22 => intro z h; rw [List.mem_singleton.mp h]; exact mi
          case z22 => rw [nz_len]; omega
          case t22 =>
            intro i hi ex h L'
            rw [nz_len] at hi
            rw [nz_get hi]
            have hmm : (idl ks ps len ks.length).getD i 0 ∈ idl ks ps len ks.length := by rw [List.getD_eq_getElem?_getD, List.getElem?_eq_getElem hi]; exact List.getElem_mem hi
            obtain ⟨i1, i2⟩ := him _ hmm
            have hF := W.h3 _ i1 i2
            generalize (idl ks ps len ks.length).getD i 0 = iv at *
            have e : decide (((F.getD ((place : Int) + iv).toNat 0).toNat : Int) = 0) = true := by
              rw [show ((place : Int) + iv).toNat = place + iv by omega, hF]; rfl
            rw [← e]
            have m2' := List.mem_append_left ex m2
            have m1' := List.mem_append_left ex m1
            have md' := List.mem_append_left ex md
            refine' Ev_eq (Ev_ito (bs := F) (k := (place : Int) + iv) ?e23 ?f23 md' ?x23 ?y23 hz) ?g23 (by with_unfolding_all rfl)
            case e23 => walk_at "ev"
            case f23 => walk_at "ev"
            case x23 => omega
            case y23 => omega
            case g23 => walk_at "ev"
          case m22 =>
            refine elA10 ?_; intro acc
            refine ⟨acc, rfl, ?_⟩
            rw [nz_len, List.map_map]; rfl
        case c21 =>
          refine elA10 ?_; intro acc
          refine fun ok lc s I vs rs Q E q => bi_all (List.mem_append_right _ (.head _)) ok lc s I vs rs Q E fun v p ld' s' I' r ⟨a, b⟩ => q v p ld' s' I' r ⟨by rw [a]; congr 2; rw [List.all_eq_true]; intro x hx; obtain ⟨_, _, rfl⟩ := List.mem_map.mp hx; rfl, _, b⟩
        refine elF10 ?_; intro R
        exact ⟨R, rfl, rfl⟩
      · rintro f l d ⟨R, rfl, rfl⟩
        exact ⟨[(L + 1 + 1 + 1 + 1 + 1, wo), (L + 1 + 1 + 1 + 1, ko), (L + 1 + 1 + 1, PO.cell (.v (.ref pa))), (L + 1 + 1, PO.cell (.i place)), (L + 1, PO.cell (.v (.ref d)))], [(y, yo)] ++ [(ix, .sq "list" (nz (idl ks ps len ks.length)))] ++ R, rfl, by simp only [List.append_assoc, List.cons_append, List.nil_append]⟩
  · refine elA20 ?_; intro C R
    exact ⟨_, _, (List.sublist_append_right C ld).trans (List.sublist_append_left _ _), List.Perm.refl _, rfl, rfl⟩
/-- a row of the octets is the one that was written -/
structure RowOk (F : List UInt8) (pos slot : Nat) (part : List Int) (vt wh fs : Nat) : Prop where
  hp : pos + 4 ≤ F.length
  hv : (vt : Int) = pos - FK.so.de F pos
  hv1 : vt + 2 ≤ F.length
  hv2 : ((4 + 2 * slot : Nat) : Int) < FK.vo.de F vt
  hv3 : vt + (4 + 2 * slot) + 2 ≤ F.length
  hw : FK.vo.de F (vt + (4 + 2 * slot : Nat) : Nat) = wh
  hw0 : wh ≠ 0
  hw1 : wh ≤ 2 ^ 16
  ho : wh + pos + 4 ≤ F.length
  hf : (fs : Int) = (wh + pos : Nat) + FK.uo.de F (wh + pos : Nat) + 4
  hf0 : 4 ≤ fs
  hf1 : fs ≤ F.length
  hc : FK.uo.de F (fs - 4 : Nat) = cnf part
  hr : rd F (fs - 4) = cnf part
  ha : fs % alf part = 0
  hs : ∀ it, it < cnf part → StOk F (fs + lnf part * it) (kds part) (fFold (kds part)).1 (worths part (kds part) it) (lnf part)
theorem fn_rowRight {d t dx pa : Addr} {pos slot vt wh fs : Nat} {ld : Ld} {F : List UInt8} {part : List Int} (T : TbAt ld t dx d pos F) (W : RowOk F pos slot part vt wh fs) (hpa : (pa, PO.sq "list" (zz part)) ∈ ld) (hpl : 0 < part.length) (hpz : part.length ≤ 64) :
    Fn 875 6 [.v (.ref d), .v (.ref t), .i slot, .v (.ref pa)] ld (fun p ld' => p = .v (.bool true) ∧ ld' = ld) := by
  refine and3 (formOk (hd0 part)) ?_; intro O hmw hp0
  obtain ⟨hal, ham⟩ := fAlign_ok (hd0 part)
  have hcn := fCount_lt (hd0 part)
  have h24 := O.h24
  have hpg := zz_get hpl
  have hzl := zz_len part
  have hz := T.hz
  have w1 := W.hp
  have w2 := W.hv1
  have w3 := W.hv3
  have w4 := W.ho
  have w5 := W.hf0
  have w6 := W.hf1
  have w7 := W.hw1
  have w8 := W.hv2
  have hap := hal.pos
  refine Fn.less (Fn_intro (P := fun p ld' => ∃ R, p = .v (.bool true) ∧ ld' = ld ++ R) ["octets", "table", "slot", "part"] f875 c875 (by walk_at "intro") (by decide +kernel) (by decide) ?_ (by kernel_rfl) (by kernel_rfl) (by kernel_rfl) (by decide +kernel)) ?_
  · intro w A h₀ L mg mb os gens k' hk'
    refine' Bl_asgx (Ex_f1 (fn_form (n := hd0 part)) (Ea_glob g839 (by kernel_rfl)) (by walk_at "side") (by intro; kernel_rfl) (Ev_itl ?e1 ?e2 ?m1 ?z1 (idx_nat ?i1 hpg))) ?k1 (by kernel_rfl)
    case e1 => walk_at "ev"
    case e2 => walk_at "ev"
    case m1 => walk_at "mem"
    case z1 => omega
    case i1 => rfl
    refine elA30 ?_; intro ka qa fx
    generalize hRe : [(ka, PO.sq "list" (nz (fKinds (hd0 part)))), (qa, PO.sq "list" (nz (fFold (fKinds (hd0 part))).1)), (fx, PO.sq "tuple" [.v (.ref ka), .v (.ref qa), .i (fLen (fKinds (hd0 part)) : Nat), .i (fAlign (hd0 part) (fKinds (hd0 part)) : Nat), .i (fCount (hd0 part) : Nat)])] = Re
    have hka : (ka, PO.sq "list" (nz (kds part))) ∈ ld ++ Re := List.mem_append_right _ (by rw [← hRe]; exact .head _)
    have hqa : (qa, PO.sq "list" (nz (fFold (kds part)).1)) ∈ ld ++ Re := List.mem_append_right _ (by rw [← hRe]; exact .tail _ (.head _))
    have hfx : (fx, PO.sq "tuple" [.v (.ref ka), .v (.ref qa), .i (lnf part : Nat), .i (alf part : Nat), .i (cnf part : Nat)]) ∈ ld ++ Re := List.mem_append_right _ (by rw [← hRe]; exact .tail _ (.tail _ (.head _)))
    have hpa' : (pa, PO.sq "list" (zz part)) ∈ ld ++ Re := List.mem_append_left _ hpa
    have T' : TbAt (ld ++ Re) t dx d pos F := T.up fun y h => List.mem_append_left _ h
    clear hRe
    refine' Bl_asg (p := .i wh) (Ev.cast ((Ex_m1 (fn_TOffset (v := ((4 + 2 * slot : Nat) : Int)) T' (Int.natCast_nonneg _) ?a2 W.hv (Int.natCast_nonneg _) ?b2 (Int.natCast_nonneg _) w8 ?c2) ?o2 T'.hm T'.hd m756 (by kernel_rfl) (by walk_at "side") (Ev.cast (Ev_add ?e3 (Ev_mul ?e4 ?e5 ?z5)) ?q3)).ev fun _ _ h => h) W.hw) ?k2 (by kernel_rfl)
    case a2 => omega
    case b2 => omega
    case c2 => omega
    case o2 => walk_at "ea"
    case e3 => walk_at "ev"
    case e4 => walk_at "ev"
    case e5 => walk_at "ev"
    case z5 => right; decide
    case q3 => omega
    refine' Bl_if (c := false) ?t6 ?a6 ?b6
    case t6 =>
      have e : (decide ((wh : Int) = 0) || !decide ((cnf part : Int) = cnf part)) = false := by rw [decide_eq_false (by have := W.hw0; omega), decide_eq_true rfl]; rfl
      rw [← e]
      refine' Tr_or2 (Tr_eq ?e7 ?e8 (by with_unfolding_all rfl)) (fun _ => Tr_ne (Ev.cast ((Ex_m1 (fn_TVecLen (off := (wh : Int)) (o2 := ((fs - 4 : Nat) : Int)) T' (Int.natCast_nonneg _) ?a9 rfl ?b9 ?c9 ?d9 (Int.natCast_nonneg _) ?g9) ?o9 T'.hm T'.hd m777 (by kernel_rfl) (by walk_at "side") ?e9).ev fun _ _ h => h) W.hc) (Ev_it5 ?e10 ?f10 hfx ?i10) (by with_unfolding_all rfl))
      case e7 => walk_at "ev"
      case e8 => walk_at "ev"
      case a9 => omega
      case b9 => omega
      case c9 => omega
      case d9 => have := W.hf; rw [Int.natCast_add] at this; omega
      case g9 => omega
      case o9 => walk_at "ea"
      case e9 => walk_at "ev"
      case e10 => walk_at "ev"
      case f10 => walk_at "ev"
      case i10 => rfl
    case a6 => intro q; cases q
    case b6 =>
      intro _
      refine Bl_nil ?_
      refine' Bl_asg (p := .i fs) (Ev.cast ((Ex_m1 (fn_TVec (off := (wh : Int)) T' (Int.natCast_nonneg _) ?a11 rfl ?b11 ?c11) ?o11 T'.hm T'.hd m784 (by kernel_rfl) (by walk_at "side") ?e11).ev fun _ _ h => h) ?q11) ?k11 (by kernel_rfl)
      case a11 => omega
      case b11 => omega
      case c11 => omega
      case o11 => walk_at "ea"
      case e11 => walk_at "ev"
      case q11 => have := W.hf; rw [Int.natCast_add] at this; omega
      refine' Bl_if (c := false) ?t12 ?a12 ?b12
      case t12 =>
        have e : (!decide (((fs : Int) % (alf part : Nat)) = 0) || !decide ((cnf part : Int) = cnf part)) = false := by
          have := W.ha
          rw [decide_eq_true (show (fs : Int) % (alf part : Nat) = 0 by rw [← Int.natCast_emod, this]; rfl), decide_eq_true rfl]; rfl
        rw [← e]
        refine' Tr_or2 (Tr_ne (Ev_modp ?e13 (Ev_it5 ?f13 ?g13 hfx ?i13) ?y13) ?h13 (by with_unfolding_all rfl)) (fun _ => Tr_ne (Ev.cast ((Ex_f2 (fn_read (i := fs - 4) T'.hb ?a14 hz) (Ea_glob g863 (by kernel_rfl)) (by walk_at "side") (by intro; kernel_rfl) ?e14 (Ev.cast ?f14 ?q14)).ev fun _ _ h => h) W.hr) (Ev_it5 ?e15 ?f15 hfx ?i15) (by with_unfolding_all rfl))
        case e13 => walk_at "ev"
        case f13 => walk_at "ev"
        case g13 => walk_at "ev"
        case i13 => rfl
        case y13 => exact Int.lt_of_lt_of_le (by decide) hap.1
        case h13 => walk_at "ev"
        case a14 => omega
        case e14 => walk_at "ev"
        case f14 => walk_at "ev"
        case q14 => omega
        case e15 => walk_at "ev"
        case f15 => walk_at "ev"
        case i15 => rfl
      case a12 => intro q; cases q
      case b12 =>
        intro _
        refine Bl_nil ?_
        refine' Bl_for (α := Unit) (fun _ _ => [("first", .i fs), ("form", .v (.ref fx)), ("octets", .v (.ref d)), ("table", .v (.ref t)), ("part", .v (.ref pa))]) (fun _ _ => ld ++ Re) (fun _ _ => True)
          (Sc_range (n := cnf part) (Ea_rng (by kernel_rfl)) (Ev_it5 ?e20 ?f20 hfx ?i20) ?z20) () trivial ?l20 ?d20 ?n20 ?t20 ?k20
        case e20 => walk_at "ev"
        case f20 => walk_at "ev"
        case i20 => rfl
        case z20 => exact Nat.le_trans hcn (by decide)
        case l20 => exact lsub_cons (by with_unfolding_all rfl) (lsub_cons (by with_unfolding_all rfl) (lsub_cons (by with_unfolding_all rfl) (lsub_cons (by with_unfolding_all rfl) (lsub_cons (by with_unfolding_all rfl) lsub_nil))))
        case d20 => rfl
        case n20 => intro _ _ _ _ h; cases h
        case t20 =>
          intro i _ hi _ it o
          have e0 : (0 : Int) + (i : Int) * 1 = i := by omega
          refine ⟨_, _, Sto_loc (by kernel_rfl), ?_⟩
          rw [e0]
          refine' Bl_if (c := false) (Tr_not (c := true) (Tr_ev (p := .v (.bool true)) (Ex.drop (P := fun p ld' => p = .v (.bool true) ∧ ∃ w, ld' = ld ++ Re ++ [(it, o)] ++ [w])
            (Ex_fn (P₁ := fun ps ld' => ∃ w, ps = [.v (.ref d), .v (.ref t), .i ((fs + lnf part * i : Nat) : Int), .v (.ref fx), .v (.ref w)] ∧ ld' = ld ++ Re ++ [(it, o)] ++ [(w, .sq "list" (zz (worths part (kds part) i)))]) (Ea_glob g868 (by kernel_rfl))
              (Ag_1 ?e21 (Ag_1 ?e22 (Ag_1 (Ev.cast (b := ((fs + lnf part * i : Nat) : Int)) (Ev_add ?e23 (Ev_mul (Ev_it5 ?e24 ?f24 ?m24 ?i24) ?g24 ?y24)) ?q23) (Ag_1 ?e25 (Ag_cons (P := fun p ld' => ∃ w, p = .v (.ref w) ∧ ld' = ld ++ Re ++ [(it, o)] ++ [(w, .sq "list" (zz (worths part (kds part) i)))]) ?c26 ?r26 (by with_unfolding_all rfl)) (by with_unfolding_all rfl)) (by with_unfolding_all rfl)) (by with_unfolding_all rfl)) (by with_unfolding_all rfl)) ?f27 (by walk_at "side") (by intro; kernel_rfl) (by with_unfolding_all rfl)) ?p28) th_bool)) ?a29 ?b29
          case e21 => walk_at "ev"
          case e22 => walk_at "ev"
          case e23 => walk_at "ev"
          case e24 => walk_at "ev"
          case f24 => walk_at "ev"
          case m24 => exact List.mem_append_left _ hfx
          case i24 => rfl
          case g24 => walk_at "ev"
          case y24 => have hi4 : i < 4 := Nat.lt_of_lt_of_le hi hcn; left; omega
          case q23 => rw [Int.natCast_add, Int.natCast_mul]
          case e25 => walk_at "ev"
          case c26 =>
            refine' Ex_f3 (fn_worths (part := part) (kinds := kds part) (item := i) ?m30 ?n30 hpl hpz (Nat.le_trans O.h3 (by decide))) (Ea_glob g846 (by kernel_rfl)) (by walk_at "side") (by intro; kernel_rfl) ?e30 (Ev_it5 ?e31 ?f31 ?m31 ?i31) ?e32
            case m30 => exact List.mem_append_left _ hpa'
            case n30 => exact List.mem_append_left _ hka
            case e30 => walk_at "ev"
            case e31 => walk_at "ev"
            case f31 => walk_at "ev"
            case m31 => exact List.mem_append_left _ hfx
            case i31 => rfl
            case e32 => walk_at "ev"
          case r26 =>
            refine elA10 ?_; intro w
            exact Ag_end ⟨w, rfl, rfl⟩
          case f27 =>
            refine elA10 ?_; intro w
            have up : ∀ y ∈ ld ++ Re, y ∈ ld ++ Re ++ [(it, o)] ++ [(w, PO.sq "list" (zz (worths part (kds part) i)))] := fun y h => List.mem_append_left _ (List.mem_append_left _ h)
            refine (fn_right (ka := ka) (pa := qa) (al := .i (alf part : Nat)) (cn := .i (cnf part : Nat)) O (T'.up up) (up _ T'.hb) hz (worths_len _ _ _) (W.hs i hi) (up _ hka) (up _ hqa) (List.mem_append_right _ (.head _)) (up _ hfx)).mono (by decide) ?_
            refine elF00 ?_
            exact ⟨rfl, _, rfl⟩
          case p28 =>
            refine elF10 ?_; intro w
            exact ⟨rfl, _, rfl⟩
          case a29 => intro q; cases q
          case b29 =>
            intro _
            refine Bl_nil (Bl_nil ⟨.inl rfl, (), trivial, ?_, rfl⟩)
            exact lsub_cons (by with_unfolding_all rfl) (lsub_cons (by with_unfolding_all rfl) (lsub_cons (by with_unfolding_all rfl) (lsub_cons (by with_unfolding_all rfl) (lsub_cons (by with_unfolding_all rfl) lsub_nil))))
        case k20 =>
          intro _ _
          refine' Bl_ret ?e40 ⟨Re, rfl, rfl⟩
          case e40 => walk_at "ev"
  · refine elA10 ?_; intro R
    exact ⟨_, _, List.sublist_append_left _ _, List.Perm.refl _, rfl, rfl⟩
theorem le_tle : ∀ (w n : Nat), Builtin.Memoryview.littleEndian (Builtin.Memoryview.toLittleEndian w n) = n % 256 ^ w
  | 0, n => by rw [Nat.pow_zero, Nat.mod_one]; rfl
  | w + 1, n => by
    have ih := le_tle w (n / 256)
    unfold Builtin.Memoryview.littleEndian Builtin.Memoryview.toLittleEndian at ih ⊢
    rw [List.foldr_toArray] at ih ⊢
    rw [List.range_succ_eq_map, List.map_cons, List.foldr_cons, List.map_map]
    have e : (fun k => (n / 256 ^ k % 256).toUInt8) ∘ Nat.succ = fun k => (n / 256 / 256 ^ k % 256).toUInt8 := by
      funext k
      show (n / 256 ^ (k + 1) % 256).toUInt8 = _
      rw [Nat.pow_succ, Nat.mul_comm, ← Nat.div_div_eq_div_mul]
    rw [e, ih, Nat.pow_zero, Nat.div_one, Nat.pow_succ, Nat.mul_comm (256 ^ w) 256, Nat.mod_mul]
    have : ((n % 256).toUInt8).toNat = n % 256 := by rw [Nat.toUInt8_eq, UInt8.toNat_ofNat']; omega
    omega
theorem de_en (k : FK) (A B : List UInt8) {n : Int} (h : k.lo ≤ n ∧ n ≤ k.hi) : k.de (A ++ (k.en n ++ B)) (A.length : Nat) = n := by
  have e1 : (A ++ (k.en n ++ B)).toArray.extract A.length (A.length + k.w) = enc k.w n := by
    rw [List.extract_toArray]
    show (List.take _ (List.drop _ _)).toArray = _
    rw [List.drop_left, Nat.add_sub_cancel_left, List.take_left' (k.en_len n)]
  show dec _ _ _ _ = n
  unfold dec
  rw [Int.toNat_natCast, e1]
  have e2 : Builtin.Memoryview.littleEndian (enc k.w n) = (n % 2 ^ (8 * k.w)).toNat := by
    show Builtin.Memoryview.littleEndian (Builtin.Memoryview.toLittleEndian k.w (n % 2 ^ (8 * k.w)).toNat) = _
    rw [le_tle]
    refine Nat.mod_eq_of_lt ?_
    have : (256 : Nat) ^ k.w = 2 ^ (8 * k.w) := by rw [Nat.pow_mul]
    rw [this]
    have h2 : (0 : Int) < 2 ^ (8 * k.w) := Int.pow_pos (by decide)
    have h1 := Int.emod_lt_of_pos n h2
    have h0 := Int.emod_nonneg n (show (2 : Int) ^ (8 * k.w) ≠ 0 by omega)
    have h3 : ((2 ^ (8 * k.w) : Nat) : Int) = 2 ^ (8 * k.w) := by simp
    omega
  dsimp only
  rw [e2]
  have hl : ('B').isLower = false ∧ ('H').isLower = false ∧ ('I').isLower = false ∧ ('Q').isLower = false ∧ ('b').isLower = true ∧ ('h').isLower = true ∧ ('i').isLower = true ∧ ('q').isLower = true := by decide
  obtain ⟨a1, a2, a3, a4, a5, a6, a7, a8⟩ := hl
  cases k <;> simp only [FK.w, FK.ch, FK.lo, FK.hi, a1, a2, a3, a4, a5, a6, a7, a8, Bool.false_and, Bool.true_and, Bool.false_eq_true, if_false, decide_eq_true_eq, Nat.reduceMul, Nat.reduceSub, Nat.reducePow, Int.reducePow, ge_iff_le] at h ⊢ <;> (try split) <;> omega
theorem getD_app {A L : List UInt8} (k : Nat) : (A ++ L).getD (A.length + k) 0 = L.getD k 0 := by
  rw [List.getD_eq_getElem?_getD, List.getD_eq_getElem?_getD, List.getElem?_append_right (Nat.le_add_right _ _), Nat.add_sub_cancel_left]
theorem rd_en (A B : List UInt8) {n : Int} (h : 0 ≤ n ∧ n < 4294967296) : rd (A ++ (FK.uo.en n ++ B)) A.length = n := by
  obtain ⟨m, rfl⟩ : ∃ m : Nat, n = m := ⟨n.toNat, by omega⟩
  have e : FK.uo.en (m : Int) = [(m % 256).toUInt8, (m / 256 % 256).toUInt8, (m / 65536 % 256).toUInt8, (m / 16777216 % 256).toUInt8] := by
    show (Builtin.Memoryview.toLittleEndian 4 ((m : Int) % 2 ^ (8 * 4)).toNat).toList = _
    have e0 : ((m : Int) % 2 ^ (8 * 4)).toNat = m := by omega
    rw [e0]
    show [(m / 256 ^ 0 % 256).toUInt8, (m / 256 ^ 1 % 256).toUInt8, (m / 256 ^ 2 % 256).toUInt8, (m / 256 ^ 3 % 256).toUInt8] = _
    rw [Nat.pow_zero, Nat.div_one]
  rw [e]
  show ((((A ++ _).getD (A.length + 0) 0).toNat : Int) * 256 ^ 0 + ((((A ++ _).getD (A.length + 1) 0).toNat : Int) * 256 ^ 1 + ((((A ++ _).getD (A.length + 2) 0).toNat : Int) * 256 ^ 2 + ((((A ++ _).getD (A.length + 3) 0).toNat : Int) * 256 ^ 3 + 0)))) = _
  rw [getD_app, getD_app, getD_app, getD_app]
  show (((m % 256).toUInt8.toNat : Int) * 256 ^ 0 + (((m / 256 % 256).toUInt8.toNat : Int) * 256 ^ 1 + (((m / 65536 % 256).toUInt8.toNat : Int) * 256 ^ 2 + (((m / 16777216 % 256).toUInt8.toNat : Int) * 256 ^ 3 + 0)))) = _
  have hb : ∀ x : Nat, ((x % 256).toUInt8).toNat = x % 256 := fun x => by rw [Nat.toUInt8_eq, UInt8.toNat_ofNat']; omega
  rw [hb, hb, hb, hb]
  have := dig4 (m := m) (Int.ofNat_lt.mp h.2)
  generalize m % 256 = a at *
  generalize m / 256 % 256 = b at *
  generalize m / 65536 % 256 = c at *
  generalize m / 16777216 % 256 = d at *
  clear hb e h
  omega
/-- the last i numbers, one of them -/
theorem sPart_at {ks ps : List Nat} {ws : List Int} {len : Nat} (O : FormOk ks ps len) : ∀ i, i ≤ ks.length → ∀ k, ks.length - i ≤ k → k < ks.length →
    ∃ X Y, sPart ks ps ws len i = X ++ ((kk (ks.getD k 0)).en (ws.getD k 0) ++ Y) ∧ X.length + ps.getD (ks.length - i) len = ps.getD k len
  | 0, _, k, h1, h2 => absurd h2 (by omega)
  | i + 1, hi, k, h1, h2 => by
    have hn := O.hn (ks.length - 1 - i) (sub_lt1 hi)
    have h8 := O.h8 (ks.length - 1 - i) (sub_lt1 hi)
    rw [sub_pred1 hi] at hn
    rw [sPart, sub_pred ks.length i]
    by_cases e : k = ks.length - 1 - i
    · subst e
      exact ⟨[], _, rfl, Nat.zero_add _⟩
    · obtain ⟨X, Y, hX, hl⟩ := sPart_at (ws := ws) O i (Nat.le_of_lt hi) k (it_le hi h1 e) h2
      refine ⟨(kk (ks.getD (ks.length - 1 - i) 0)).en (ws.getD (ks.length - 1 - i) 0) ++ (zer (ps.getD (ks.length - i) len - ps.getD (ks.length - 1 - i) len - wid (ks.getD (ks.length - 1 - i) 0)) ++ X), Y, by rw [hX]; simp only [List.append_assoc], ?_⟩
      rw [List.length_append, List.length_append, List.length_replicate, FK.en_len, kk_w _ h8]
      omega (config := {})
theorem getD_zer (g j : Nat) (L : List UInt8) (h : j < g) : (zer g ++ L).getD j 0 = 0 := by
  rw [List.getD_eq_getElem?_getD, List.getElem?_append_left (by rw [List.length_replicate]; exact h), List.getElem?_replicate, if_pos h]; rfl
/-- between the numbers lie zeros -/
theorem sPart_idle {ks ps : List Nat} {ws : List Int} {len : Nat} (O : FormOk ks ps len) (B : List UInt8) : ∀ i, i ≤ ks.length → ∀ j, ps.getD (ks.length - i) len + j < len →
    (∀ k, ks.length - i ≤ k → k < ks.length → ps.getD (ks.length - i) len + j < ps.getD k len ∨ ps.getD k len + wid (ks.getD k 0) ≤ ps.getD (ks.length - i) len + j) → (sPart ks ps ws len i ++ B).getD j 0 = 0
  | 0, _, j, h, _ => by
    rw [Nat.sub_zero, List.getD_eq_getElem?_getD, List.getElem?_eq_none (by rw [O.hl]; exact Nat.le_refl _)] at h
    exact absurd h (Nat.not_lt.mpr (Nat.le_add_right len j))
  | i + 1, hi, j, h, q => by
    have hn := O.hn (ks.length - 1 - i) (sub_lt1 hi)
    have h8 := O.h8 (ks.length - 1 - i) (sub_lt1 hi)
    have ih := sPart_idle (ws := ws) O B i (Nat.le_of_lt hi)
    rw [sub_pred1 hi] at hn
    rw [sub_pred ks.length i] at h q
    have hj := w_le (q (ks.length - 1 - i) (Nat.le_refl _) (sub_lt1 hi))
    have hen := FK.en_len (kk (ks.getD (ks.length - 1 - i) 0)) (ws.getD (ks.length - 1 - i) 0)
    rw [kk_w _ h8] at hen
    rw [sPart]
    generalize (kk (ks.getD (ks.length - 1 - i) 0)).en (ws.getD (ks.length - 1 - i) 0) = E at *
    generalize wid (ks.getD (ks.length - 1 - i) 0) = w at *
    obtain ⟨d, rfl⟩ := Nat.exists_eq_add_of_le hj
    obtain ⟨c, hc⟩ := Nat.exists_eq_add_of_le hn
    have hb : ps.getD (ks.length - i) len - ps.getD (ks.length - 1 - i) len - w = c := by rw [hc, Nat.add_assoc, Nat.add_sub_cancel_left, Nat.add_sub_cancel_left]
    rw [List.append_assoc, List.append_assoc, hb, show w + d = E.length + d by rw [hen], getD_app]
    by_cases hz : d < c
    · exact getD_zer _ _ _ hz
    · obtain ⟨e, rfl⟩ := Nat.exists_eq_add_of_le (Nat.not_lt.mp hz)
      rw [show c + e = (zer c).length + e by rw [List.length_replicate], getD_app]
      have e3 : ps.getD (ks.length - i) len + e = ps.getD (ks.length - 1 - i) len + (w + (c + e)) := by rw [hc]; simp only [Nat.add_assoc]
      refine ih e (e3 ▸ h) fun k x y => ?_
      rw [e3]
      exact q k (sub_le1 x) y
/-- a struct that was written stands there -/
theorem stOk {ks ps : List Nat} {ws : List Int} {len : Nat} (O : FormOk ks ps len) (hp0 : ps.getD 0 len = 0) (hr : ∀ k, k < ks.length → (kk (ks.getD k 0)).lo ≤ ws.getD k 0 ∧ ws.getD k 0 ≤ (kk (ks.getD k 0)).hi) (A B : List UInt8) (ha : (A.length : Int) % mwid ks = 0) :
    StOk (A ++ (sPart ks ps ws len ks.length ++ B)) A.length ks ps ws len := by
  have hsl := sPart_len (ws := ws) O ks.length (Nat.le_refl _)
  rw [Nat.sub_self, hp0, Nat.sub_zero] at hsl
  refine ⟨fun k hk => ?_, fun k hk => ?_, fun i hi q => ?_, ?_⟩
  · have d1 : (wid (ks.getD k 0) : Int) ∣ (A.length : Int) := Int.dvd_trans (Int.dvd_of_emod_eq_zero (O.hd k hk)) (Int.dvd_of_emod_eq_zero ha)
    have d2 := Nat.dvd_of_mod_eq_zero (O.hp k hk)
    exact Nat.mod_eq_zero_of_dvd (Nat.dvd_add (Int.natCast_dvd_natCast.mp d1) d2)
  · obtain ⟨X, Y, hX, hl⟩ := sPart_at (ws := ws) O ks.length (Nat.le_refl _) k (by omega) hk
    rw [Nat.sub_self, hp0, Nat.add_zero] at hl
    rw [hX, show A ++ (X ++ ((kk (ks.getD k 0)).en (ws.getD k 0) ++ Y) ++ B) = (A ++ X) ++ ((kk (ks.getD k 0)).en (ws.getD k 0) ++ (Y ++ B)) by simp only [List.append_assoc], show A.length + ps.getD k len = (A ++ X).length by rw [List.length_append, hl]]
    exact de_en _ _ _ (hr k hk)
  · rw [getD_app]
    refine sPart_idle (ws := ws) O B ks.length (Nat.le_refl _) i ?_ fun k _ hk => ?_
    · rw [Nat.sub_self, hp0]; omega
    · rw [Nat.sub_self, hp0, Nat.zero_add]; exact q k hk
  · rw [List.length_append, List.length_append, hsl]; omega
theorem Pz.dvd {a b : Int} (h : Pz a) (h' : Pz b) (hle : a ≤ b) : a ∣ b := by
  refine Int.dvd_of_emod_eq_zero ?_
  unfold Pz at h h'
  rcases h with rfl | rfl | rfl | rfl | rfl | rfl <;> omega
/-- one list of octets ends with another -/
def Suf (T F : List UInt8) : Prop := ∃ A, F = A ++ T
theorem Suf.app {T F : List UInt8} (h : Suf T F) (A : List UInt8) : Suf T (A ++ F) := by
  obtain ⟨B, rfl⟩ := h
  exact ⟨A ++ B, (List.append_assoc ..).symm⟩
theorem Suf.refl (T : List UInt8) : Suf T T := ⟨[], rfl⟩
def rowsT (PT : List (List Int)) : Nat → List UInt8
  | 0 => []
  | i + 1 => rowB (PT.getD i []) (rowsT PT i).length ++ rowsT PT i
abbrev offs (PT : List (List Int)) (i : Nat) : Nat := (rowsT PT (i + 1)).length
abbrev slB (PT : List (List Int)) (n j : Nat) : List UInt8 := FK.uo.en ((gap 4 n 0 : Int) + n - offs PT j + 4) ++ zer (gap 4 n 0)
def slotT (PT : List (List Int)) : Nat → List UInt8
  | 0 => rowsT PT PT.length
  | j + 1 => slB PT (slotT PT j).length j ++ slotT PT j
abbrev lastP (PT : List (List Int)) : List Int := PT.getD (PT.length - 1) []
def strT (PT : List (List Int)) : List UInt8 := sB (lastP PT) 4 ++ zer (gap (mwid (kds (lastP PT))) (slotT PT PT.length).length (lnf (lastP PT))) ++ slotT PT PT.length
def esL (PT : List (List Int)) : List Nat := ((List.range PT.length).map fun j => (slotT PT (j + 1)).length) ++ [(strT PT).length]
def tabT (PT : List (List Int)) : List UInt8 := vtT (oOf (strT PT).length) (rowsT PT PT.length).length (esL PT) ++ (FK.so.en (2 * (esL PT).length + 4 : Nat) ++ (zer (gap 4 (strT PT).length 0) ++ strT PT))
theorem rowB_len (part : List Int) (n : Nat) : (rowB part n).length ≤ 180 ∧ 4 ≤ (rowB part n).length := by
  obtain ⟨F, _⟩ := formOk (hd0 part)
  have h1 := cbB_len part n
  have h2 : cnf part ≤ 4 := fCount_lt (hd0 part)
  have h3 : lnf part ≤ 24 := F.h24
  have h4 : vgap (alf part : Nat) ((cbB part n).length + n) (lnf part * cnf part) ≤ 64 := vgap_le (fAlign_ok (hd0 part)).1 _ _
  have h5 := itB_len part (cnf part) (cnf part)
  have h6 : lnf part * cnf part ≤ 24 * 4 := Nat.mul_le_mul h3 h2
  have h7 : (FK.uo.en (cnf part)).length = 4 := FK.en_len _ _
  unfold rowB
  rw [List.length_append, List.length_append, List.length_append, List.length_replicate, h5, h7]
  omega
theorem rowsT_len (PT : List (List Int)) : ∀ i, (rowsT PT i).length ≤ 180 * i
  | 0 => Nat.zero_le _
  | i + 1 => by
    have := rowsT_len PT i
    have := (rowB_len (PT.getD i []) (rowsT PT i).length).1
    rw [rowsT, List.length_append]; omega
theorem rowsT_suf (PT : List (List Int)) : ∀ {i j : Nat}, i ≤ j → Suf (rowsT PT i) (rowsT PT j)
  | i, 0, h => by obtain rfl : i = 0 := by omega
                  exact Suf.refl _
  | i, j + 1, h => by
    by_cases e : i = j + 1
    · subst e; exact Suf.refl _
    · exact (rowsT_suf PT (show i ≤ j by omega)).app _
theorem slB_len (PT : List (List Int)) (n j : Nat) : (slB PT n j).length = 4 + gap 4 n 0 := by
  rw [List.length_append, FK.en_len, List.length_replicate]; rfl
theorem slotT_succ (PT : List (List Int)) (j : Nat) : slotT PT (j + 1) = slB PT (slotT PT j).length j ++ slotT PT j := rfl
theorem slotT_len (PT : List (List Int)) : ∀ j, (slotT PT j).length ≤ (rowsT PT PT.length).length + 7 * j ∧ (rowsT PT PT.length).length ≤ (slotT PT j).length
  | 0 => ⟨Nat.le_refl _, Nat.le_refl _⟩
  | j + 1 => by
    obtain ⟨a, b⟩ := slotT_len PT j
    have := gap4 (slotT PT j).length
    rw [slotT_succ, List.length_append, slB_len]; omega
theorem slotT_suf (PT : List (List Int)) : ∀ {i j : Nat}, i ≤ j → Suf (slotT PT i) (slotT PT j)
  | i, 0, h => by obtain rfl : i = 0 := by omega
                  exact Suf.refl _
  | i, j + 1, h => by
    by_cases e : i = j + 1
    · subst e; exact Suf.refl _
    · exact (slotT_suf PT (show i ≤ j by omega)).app _
theorem strT_len (PT : List (List Int)) : (strT PT).length ≤ (slotT PT PT.length).length + 56 ∧ (slotT PT PT.length).length ≤ (strT PT).length ∧ lnf (lastP PT) ≤ (strT PT).length := by
  obtain ⟨F, _⟩ := formOk (hd0 (lastP PT))
  have h3 : lnf (lastP PT) ≤ 24 := F.h24
  have hg : (gap (mwid (kds (lastP PT))) (slotT PT PT.length).length (lnf (lastP PT)) : Int) < mwid (kds (lastP PT)) := gap_lt F.hz _ _
  have : 1 ≤ mwid (kds (lastP PT)) ∧ mwid (kds (lastP PT)) ≤ 32 := F.hz.pos
  unfold strT
  rw [List.length_append, List.length_append, sB_len, List.length_replicate]
  omega
theorem esL_len (PT : List (List Int)) : (esL PT).length = PT.length + 1 := by unfold esL; rw [List.length_append, List.length_map, List.length_range]; rfl
theorem esL_get (PT : List (List Int)) (j : Nat) (h : j < PT.length) : (esL PT).getD j 0 = (slotT PT (j + 1)).length := by
  unfold esL
  rw [List.getD_eq_getElem?_getD, List.getElem?_append_left (by rw [List.length_map, List.length_range]; exact h), List.getElem?_map, List.getElem?_range h]; rfl
theorem esL_last (PT : List (List Int)) : (esL PT).getD PT.length 0 = (strT PT).length := by
  unfold esL
  rw [List.getD_eq_getElem?_getD, List.getElem?_append_right (by rw [List.length_map, List.length_range]; exact Nat.le_refl _), List.length_map, List.length_range, Nat.sub_self]; rfl
theorem sizes (PT : List (List Int)) (hm : PT.length ≤ 5) : (strT PT).length ≤ 991 ∧ (rowsT PT PT.length).length ≤ 900 ∧ (∀ j, j ≤ PT.length → (slotT PT j).length ≤ 935) := by
  have h1 := rowsT_len PT PT.length
  have h2 := slotT_len PT PT.length
  have h3 := strT_len PT
  refine ⟨by omega, by omega, fun j hj => ?_⟩
  have := slotT_len PT j
  omega
theorem offs_le (PT : List (List Int)) (j : Nat) (h : j < PT.length) : 4 ≤ offs PT j ∧ offs PT j ≤ (rowsT PT PT.length).length := by
  obtain ⟨A, hA⟩ := rowsT_suf PT (show j + 1 ≤ PT.length by omega)
  have h1 : (rowsT PT (j + 1)).length = _ := congrArg List.length (show rowsT PT (j + 1) = rowB (PT.getD j []) (rowsT PT j).length ++ rowsT PT j from rfl)
  rw [List.length_append] at h1
  have h2 := (rowB_len (PT.getD j []) (rowsT PT j).length).2
  refine ⟨by show 4 ≤ (rowsT PT (j + 1)).length; omega, ?_⟩
  rw [hA, List.length_append]; exact Nat.le_add_left _ _
/-- the way that a table's slot shows -/
theorem vtE_at (oo : Nat) : ∀ (es : List Nat) (j : Nat), j < es.length → ∃ X Y, vtE oo es = X ++ (FK.vo.en ((oo : Int) - (es.getD j 0 : Nat)) ++ Y) ∧ X.length = 2 * j
  | e :: es, 0, _ => ⟨[], vtE oo es, rfl, rfl⟩
  | e :: es, j + 1, h => by
    obtain ⟨X, Y, a, b⟩ := vtE_at oo es j (Nat.lt_of_succ_lt_succ h)
    refine ⟨FK.vo.en ((oo : Int) - e) ++ X, Y, ?_, ?_⟩
    · rw [vtE_cons, a, List.append_assoc]; rfl
    · rw [List.length_append, FK.en_len, b]; show 2 + _ = _; omega
  | [], j, h => absurd h (Nat.not_lt_zero _)
theorem itB_at (part : List Int) (c : Nat) : ∀ i, i ≤ c → ∀ it, c - i ≤ it → it < c → ∃ X Y, itB part c i = X ++ (sB part it ++ Y) ∧ X.length = lnf part * (it - (c - i))
  | 0, _, it, h1, h2 => absurd h2 (by omega)
  | i + 1, hi, it, h1, h2 => by
    rw [itB]
    by_cases e : it = c - 1 - i
    · subst e
      exact ⟨[], _, rfl, by rw [show c - 1 - i - (c - (i + 1)) = 0 by omega]; rfl⟩
    · obtain ⟨X, Y, a, b⟩ := itB_at part c i (Nat.le_of_lt hi) it (it_le hi h1 e) h2
      refine ⟨sB part (c - 1 - i) ++ X, Y, by rw [a, List.append_assoc], ?_⟩
      rw [List.length_append, sB_len, b, it_sub hi h1 e, Nat.mul_succ, Nat.add_comm]
theorem Suf.trans {T U F : List UInt8} (h : Suf T U) (h' : Suf U F) : Suf T F := by
  obtain ⟨A, rfl⟩ := h
  obtain ⟨B, rfl⟩ := h'
  exact ⟨B ++ A, (List.append_assoc ..).symm⟩
theorem Suf.at {T F : List UInt8} (h : Suf T F) : ∃ A, F = A ++ T ∧ A.length = F.length - T.length ∧ T.length ≤ F.length := by
  obtain ⟨A, rfl⟩ := h
  refine ⟨A, rfl, ?_, ?_⟩ <;> rw [List.length_append] <;> omega
/-- a number at its place -/
theorem de_at {T F B : List UInt8} {k : FK} {n : Int} (h : Suf T F) (e : T = k.en n ++ B) (hn : k.lo ≤ n ∧ n ≤ k.hi) : k.de F ((F.length - T.length : Nat) : Int) = n := by
  obtain ⟨A, rfl, a, _⟩ := h.at
  rw [← a, e]
  exact de_en k A B hn
theorem rd_at {T F B : List UInt8} {n : Int} (h : Suf T F) (e : T = FK.uo.en n ++ B) (hn : 0 ≤ n ∧ n < 4294967296) : rd F (F.length - T.length) = n := by
  obtain ⟨A, rfl, a, _⟩ := h.at
  rw [← a, e]
  exact rd_en A B hn
theorem uo_rg {n : Int} (h : 0 ≤ n ∧ n ≤ 65535) : FK.uo.lo ≤ n ∧ n ≤ FK.uo.hi := uo_in h.1 (by omega)
theorem vo_rg {n : Int} (h : 0 ≤ n ∧ n ≤ 65535) : FK.vo.lo ≤ n ∧ n ≤ FK.vo.hi := by
  have q1 : FK.vo.lo = 0 := by decide
  have q2 : FK.vo.hi = 65535 := by decide
  omega
theorem so_rg {n : Int} (h : 0 ≤ n ∧ n ≤ 65535) : FK.so.lo ≤ n ∧ n ≤ FK.so.hi := by
  have q1 : FK.so.lo ≤ 0 := by decide
  have q2 : (2147483647 : Int) ≤ FK.so.hi := by decide
  omega
theorem tabT_len (PT : List (List Int)) : (tabT PT).length = 2 * (PT.length + 1) + 4 + oOf (strT PT).length := by
  unfold tabT
  rw [List.length_append, vtT_len, esL_len, List.length_append, FK.en_len, List.length_append, List.length_replicate]
  show _ + (4 + (gap 4 (strT PT).length 0 + _)) = _ + (4 + gap 4 (strT PT).length 0 + _)
  omega
/-- what a table's slot j shows: shared by the rows and the struct -/
structure SlotOk (F : List UInt8) (pos j vt wh : Nat) : Prop where
  hp : pos + 4 ≤ F.length
  hv : (vt : Int) = pos - FK.so.de F pos
  hv1 : vt + 2 ≤ F.length
  hv2 : ((4 + 2 * j : Nat) : Int) < FK.vo.de F vt
  hv3 : vt + (4 + 2 * j) + 2 ≤ F.length
  hw : FK.vo.de F (vt + (4 + 2 * j : Nat) : Nat) = wh
  hw0 : wh ≠ 0
  hw1 : wh ≤ 2 ^ 16
theorem slot_shows {PT : List (List Int)} (hm : PT.length ≤ 5) {F : List UInt8} (hF : Suf (tabT PT) F) {j e : Nat} (hj : j < PT.length + 1) (he : (esL PT).getD j 0 = e) (hle : e ≤ (strT PT).length) :
    SlotOk F (F.length - oOf (strT PT).length) j (F.length - (tabT PT).length) (oOf (strT PT).length - e) := by
  obtain ⟨s1, s2, s3⟩ := sizes PT hm
  have hg := gap4 (strT PT).length
  have hoo : oOf (strT PT).length = 4 + gap 4 (strT PT).length 0 + (strT PT).length := rfl
  have hel := esL_len PT
  have htl := tabT_len PT
  obtain ⟨A, hA, hAl, hle2⟩ := hF.at
  have hT : tabT PT = vtT (oOf (strT PT).length) (rowsT PT PT.length).length (esL PT) ++ (FK.so.en (2 * (esL PT).length + 4 : Nat) ++ (zer (gap 4 (strT PT).length 0) ++ strT PT)) := rfl
  have hvl := vtT_len (oOf (strT PT).length) (rowsT PT PT.length).length (esL PT)
  have hrl : (rowsT PT PT.length).length ≤ oOf (strT PT).length := by
    have := (slotT_len PT PT.length).2
    have := (strT_len PT).2.1
    omega
  have hvt : vtT (oOf (strT PT).length) (rowsT PT PT.length).length (esL PT) = FK.vo.en (((esL PT).length : Int) * 2 + 4) ++ (FK.vo.en ((oOf (strT PT).length : Int) - (rowsT PT PT.length).length) ++ vtE (oOf (strT PT).length) (esL PT)) := rfl
  obtain ⟨X, Y, hX, hXl⟩ := vtE_at (oOf (strT PT).length) (esL PT) j (by omega)
  rw [he] at hX
  generalize vtT (oOf (strT PT).length) (rowsT PT PT.length).length (esL PT) = V at *
  generalize hooe : oOf (strT PT).length = oo at *
  have hso : FK.so.de F ((F.length - oo : Nat) : Int) = (2 * (esL PT).length + 4 : Nat) := by
    have hs : Suf (FK.so.en (2 * (esL PT).length + 4 : Nat) ++ (zer (gap 4 (strT PT).length 0) ++ strT PT)) F := Suf.trans ⟨V, hT⟩ hF
    have hl : (FK.so.en (2 * (esL PT).length + 4 : Nat) ++ (zer (gap 4 (strT PT).length 0) ++ strT PT)).length = oo := by
      rw [List.length_append, FK.en_len, List.length_append, List.length_replicate, hoo]; show 4 + _ = _; omega
    have := de_at hs rfl (so_rg (by omega))
    rwa [hl] at this
  have hvo : FK.vo.de F ((F.length - (tabT PT).length : Nat) : Int) = ((esL PT).length : Int) * 2 + 4 := de_at hF (by rw [hT, hvt, List.append_assoc]) (vo_rg (by omega))
  refine ⟨by omega, by rw [hso]; omega, by omega, by rw [hvo]; omega, by omega, ?_, by omega, by omega⟩
  have hFF : F = (A ++ (FK.vo.en (((esL PT).length : Int) * 2 + 4) ++ (FK.vo.en ((oo : Int) - (rowsT PT PT.length).length) ++ X))) ++ (FK.vo.en ((oo : Int) - e) ++ (Y ++ (FK.so.en (2 * (esL PT).length + 4 : Nat) ++ (zer (gap 4 (strT PT).length 0) ++ strT PT)))) := by
    rw [hA, hT, hvt, hX]; simp only [List.append_assoc]
  have hle3 : F.length - (tabT PT).length + (4 + 2 * j) = (A ++ (FK.vo.en (((esL PT).length : Int) * 2 + 4) ++ (FK.vo.en ((oo : Int) - (rowsT PT PT.length).length) ++ X))).length := by
    rw [List.length_append, List.length_append, List.length_append, FK.en_len, FK.en_len, hXl, hAl]; show _ = _ + (2 + (2 + _)); omega
  rw [hle3]
  have hk := de_en .vo (A ++ (FK.vo.en (((esL PT).length : Int) * 2 + 4) ++ (FK.vo.en ((oo : Int) - (rowsT PT PT.length).length) ++ X))) (Y ++ (FK.so.en (2 * (esL PT).length + 4 : Nat) ++ (zer (gap 4 (strT PT).length 0) ++ strT PT))) (n := (oo : Int) - e) (vo_rg (by omega))
  rw [← hFF] at hk
  rw [hk]; omega
theorem suf_str (PT : List (List Int)) : Suf (strT PT) (tabT PT) := by
  unfold tabT
  exact ⟨_, by rw [← List.append_assoc, ← List.append_assoc]⟩
theorem suf_slot (PT : List (List Int)) {j : Nat} (h : j ≤ PT.length) : Suf (slotT PT j) (tabT PT) :=
  Suf.trans (slotT_suf PT h) (Suf.trans ⟨_, rfl⟩ (suf_str PT))
theorem suf_row (PT : List (List Int)) {j : Nat} (h : j ≤ PT.length) : Suf (rowsT PT j) (tabT PT) :=
  Suf.trans (rowsT_suf PT h) (suf_slot PT (Nat.zero_le _))
theorem row_shows {PT : List (List Int)} (hm : PT.length ≤ 5) {F : List UInt8} (hF : Suf (tabT PT) F) (hz : F.length ≤ 2 ^ 15) {j : Nat} (hj : j < PT.length) (hal : (F.length : Int) % alf (PT.getD j []) = 0) :
    RowOk F (F.length - oOf (strT PT).length) j (PT.getD j []) (F.length - (tabT PT).length) (oOf (strT PT).length - (slotT PT (j + 1)).length) (F.length - offs PT j + 4) := by
  obtain ⟨s1, s2, s3⟩ := sizes PT hm
  have s4 := s3 j (by omega)
  have hg := gap4 (strT PT).length
  have hoo : oOf (strT PT).length = 4 + gap 4 (strT PT).length 0 + (strT PT).length := rfl
  have htl := tabT_len PT
  have hst := strT_len PT
  have hsl2 := slotT_suf PT (show j + 1 ≤ PT.length by omega)
  obtain ⟨Z, hZ⟩ := hsl2
  have hZl : (slotT PT PT.length).length = _ := congrArg List.length hZ
  rw [List.length_append] at hZl
  have S := slot_shows hm hF (show j < PT.length + 1 by omega) (esL_get PT j hj) (by omega)
  have O1 := offs_le PT j hj
  have hsle := (slotT_len PT j).2
  obtain ⟨A, hA, hAl, hle2⟩ := hF.at
  have hg2 := gap4 (slotT PT j).length
  have hss : (slotT PT (j + 1)).length = 4 + gap 4 (slotT PT j).length 0 + (slotT PT j).length := by rw [slotT_succ, List.length_append, slB_len]
  have huo : FK.uo.de F ((F.length - (slotT PT (j + 1)).length : Nat) : Int) = (gap 4 (slotT PT j).length 0 : Int) + (slotT PT j).length - offs PT j + 4 :=
    de_at (Suf.trans (suf_slot PT (show j + 1 ≤ PT.length by omega)) hF) (show slotT PT (j + 1) = FK.uo.en _ ++ (zer (gap 4 (slotT PT j).length 0) ++ slotT PT j) by rw [slotT_succ]; exact List.append_assoc ..) (uo_rg (by omega))
  have hrs : Suf (rowsT PT (j + 1)) F := Suf.trans (suf_row PT (show j + 1 ≤ PT.length by omega)) hF
  have hcn : cnf (PT.getD j []) ≤ 4 := fCount_lt _
  have hrow : rowsT PT (j + 1) = FK.uo.en (cnf (PT.getD j [])) ++ (itB (PT.getD j []) (cnf (PT.getD j [])) (cnf (PT.getD j [])) ++ (zer (vgap (alf (PT.getD j [])) ((cbB (PT.getD j []) (rowsT PT j).length).length + (rowsT PT j).length) (lnf (PT.getD j []) * cnf (PT.getD j []))) ++ (cbB (PT.getD j []) (rowsT PT j).length ++ rowsT PT j))) := by
    show rowB _ _ ++ _ = _
    unfold rowB; simp only [List.append_assoc]
  have hc : FK.uo.de F ((F.length - offs PT j : Nat) : Int) = cnf (PT.getD j []) := de_at hrs hrow (uo_rg (by omega))
  have hr : rd F (F.length - offs PT j) = cnf (PT.getD j []) := rd_at hrs hrow (by omega)
  obtain ⟨B, hB, hBl, hle3⟩ := hrs.at
  obtain ⟨O, hmw, hp0⟩ := formOk (hd0 (PT.getD j []))
  obtain ⟨hPa, ham⟩ := fAlign_ok (hd0 (PT.getD j []))
  have hwk := worths_ok (PT.getD j []) O.h8
  have hil := itB_len (PT.getD j []) (cnf (PT.getD j [])) (cnf (PT.getD j []))
  have hia := itB_at (PT.getD j []) (cnf (PT.getD j [])) (cnf (PT.getD j [])) (Nat.le_refl _)
  have hen4 : (FK.uo.en (cnf (PT.getD j []))).length = 4 := FK.en_len _ _
  have hdl : mwid (kds (PT.getD j [])) ∣ (lnf (PT.getD j []) : Int) := Int.dvd_of_emod_eq_zero O.hm
  have ham' : mwid (kds (PT.getD j [])) ∣ (alf (PT.getD j []) : Int) := Int.dvd_of_emod_eq_zero ham
  have hvs' : (alf (PT.getD j []) : Int) ∣ (vgap (alf (PT.getD j [])) ((cbB (PT.getD j []) (rowsT PT j).length).length + (rowsT PT j).length) (lnf (PT.getD j []) * cnf (PT.getD j [])) : Int) + (((cbB (PT.getD j []) (rowsT PT j).length).length + (rowsT PT j).length : Nat) : Int) + ((lnf (PT.getD j []) * cnf (PT.getD j []) : Nat) : Int) := Int.dvd_of_emod_eq_zero (vgap_sum hPa _ _)
  have hal' : (alf (PT.getD j []) : Int) ∣ (F.length : Int) := Int.dvd_of_emod_eq_zero hal
  have hofl : offs PT j = (rowsT PT (j + 1)).length := rfl
  have hrl : (rowsT PT (j + 1)).length = 4 + (lnf (PT.getD j []) * cnf (PT.getD j []) + (vgap (alf (PT.getD j [])) ((cbB (PT.getD j []) (rowsT PT j).length).length + (rowsT PT j).length) (lnf (PT.getD j []) * cnf (PT.getD j [])) + ((cbB (PT.getD j []) (rowsT PT j).length).length + (rowsT PT j).length))) := by
    rw [hrow, List.length_append, List.length_append, List.length_append, List.length_append, List.length_replicate, hen4, hil]
  generalize PT.getD j [] = p at *
  have hfa : (alf p : Int) ∣ ((F.length - offs PT j + 4 : Nat) : Int) := by
    have := Int.dvd_sub hal' hvs'
    rwa [show (F.length : Int) - ((vgap (alf p) ((cbB p (rowsT PT j).length).length + (rowsT PT j).length) (lnf p * cnf p) : Int) + (((cbB p (rowsT PT j).length).length + (rowsT PT j).length : Nat) : Int) + ((lnf p * cnf p : Nat) : Int)) = ((F.length - offs PT j + 4 : Nat) : Int) by omega (config := {})] at this
  refine ⟨S.hp, S.hv, S.hv1, S.hv2, S.hv3, S.hw, S.hw0, S.hw1, by omega, ?_, by omega, by omega, ?_, ?_, ?_, ?_⟩
  · rw [show oOf (strT PT).length - (slotT PT (j + 1)).length + (F.length - oOf (strT PT).length) = F.length - (slotT PT (j + 1)).length by omega, huo]
    omega
  · rw [Nat.add_sub_cancel]; exact hc
  · rw [Nat.add_sub_cancel]; exact hr
  · exact Nat.mod_eq_zero_of_dvd (Int.natCast_dvd_natCast.mp hfa)
  · intro it hit
    obtain ⟨X, Y, hX, hXl⟩ := hia it (by omega) hit
    rw [Nat.sub_self, Nat.sub_zero] at hXl
    have e : F = (B ++ (FK.uo.en (cnf p) ++ X)) ++ (sB p it ++ (Y ++ (zer (vgap (alf p) ((cbB p (rowsT PT j).length).length + (rowsT PT j).length) (lnf p * cnf p)) ++ (cbB p (rowsT PT j).length ++ rowsT PT j)))) := by
      rw [hB, hrow, hX]; simp only [List.append_assoc]
    have el : F.length - offs PT j + 4 + lnf p * it = (B ++ (FK.uo.en (cnf p) ++ X)).length := by
      rw [List.length_append, List.length_append, hen4, hXl, hBl]; omega
    have hdd : ((B ++ (FK.uo.en (cnf p) ++ X)).length : Int) % mwid (kds p) = 0 := by
      rw [← el, Int.natCast_add, Int.natCast_mul]
      exact Int.emod_eq_zero_of_dvd (Int.dvd_add (Int.dvd_trans ham' hfa) (Int.dvd_mul_of_dvd_left hdl))
    have := stOk O hp0 (hwk it) (B ++ (FK.uo.en (cnf p) ++ X)) (Y ++ (zer (vgap (alf p) ((cbB p (rowsT PT j).length).length + (rowsT PT j).length) (lnf p * cnf p)) ++ (cbB p (rowsT PT j).length ++ rowsT PT j))) hdd
    rw [el, e]
    exact this
theorem struct_shows {PT : List (List Int)} {F : List UInt8} (hF : Suf (tabT PT) F) (hal : (F.length : Int) % mwid (kds (lastP PT)) = 0) :
    ((F.length - (strT PT).length : Nat) : Int) % mwid (kds (lastP PT)) = 0 ∧ StOk F (F.length - (strT PT).length) (kds (lastP PT)) (fFold (kds (lastP PT))).1 (worths (lastP PT) (kds (lastP PT)) 4) (lnf (lastP PT)) := by
  obtain ⟨O, hmw, hp0⟩ := formOk (hd0 (lastP PT))
  have hs : Suf (strT PT) F := Suf.trans (suf_str PT) hF
  obtain ⟨B, hB, hBl, hle⟩ := hs.at
  have hst : strT PT = sB (lastP PT) 4 ++ (zer (gap (mwid (kds (lastP PT))) (slotT PT PT.length).length (lnf (lastP PT))) ++ slotT PT PT.length) := by
    unfold strT; exact List.append_assoc ..
  have hsl : (strT PT).length = lnf (lastP PT) + (gap (mwid (kds (lastP PT))) (slotT PT PT.length).length (lnf (lastP PT)) + (slotT PT PT.length).length) := by
    rw [hst, List.length_append, sB_len, List.length_append, List.length_replicate]
  have hgs : mwid (kds (lastP PT)) ∣ (gap (mwid (kds (lastP PT))) (slotT PT PT.length).length (lnf (lastP PT)) : Int) + (slotT PT PT.length).length + lnf (lastP PT) := Int.dvd_of_emod_eq_zero (gap_sum O.hz _ _)
  have hd : ((F.length - (strT PT).length : Nat) : Int) % mwid (kds (lastP PT)) = 0 := by
    have := Int.dvd_sub (Int.dvd_of_emod_eq_zero hal) hgs
    rw [show (F.length : Int) - ((gap (mwid (kds (lastP PT))) (slotT PT PT.length).length (lnf (lastP PT)) : Int) + (slotT PT PT.length).length + lnf (lastP PT)) = ((F.length - (strT PT).length : Nat) : Int) by omega] at this
    exact Int.emod_eq_zero_of_dvd this
  refine ⟨hd, ?_⟩
  rw [← hBl] at hd ⊢
  have := stOk O hp0 (worths_ok (lastP PT) O.h8 4) B (zer (gap (mwid (kds (lastP PT))) (slotT PT PT.length).length (lnf (lastP PT))) ++ slotT PT PT.length) hd
  rw [hB, hst]
  exact this
theorem finA_len (M : Int) (nm sz : Bool) (T : List UInt8) : (finA M nm sz T).length = p1 nm + (gap M T.length (4 + p1 nm + p1 sz) + T.length) := by
  unfold finA
  rw [List.length_append, idB_len, List.length_append, List.length_replicate]
theorem finT_eq (M : Int) (nm sz : Bool) (T : List UInt8) (root : Nat) : ∃ Pre : List UInt8, Pre.length = p1 sz ∧ finT M nm sz T root = Pre ++ (FK.uo.en (((finA M nm sz T).length : Int) - root + 4) ++ finA M nm sz T) := by
  cases sz
  · exact ⟨[], rfl, rfl⟩
  · exact ⟨FK.i32.en (finU M nm true T root).length, FK.en_len _ _, rfl⟩
theorem finT_len (M : Int) (nm sz : Bool) (T : List UInt8) (root : Nat) : (finT M nm sz T root).length = p1 sz + (4 + (p1 nm + (gap M T.length (4 + p1 nm + p1 sz) + T.length))) := by
  obtain ⟨Pre, a, b⟩ := finT_eq M nm sz T root
  rw [b, List.length_append, List.length_append, FK.en_len, finA_len, a]; rfl
theorem finT_suf (M : Int) (nm sz : Bool) (T : List UInt8) (root : Nat) : Suf T (finT M nm sz T root) := by
  obtain ⟨Pre, a, b⟩ := finT_eq M nm sz T root
  rw [b]
  refine Suf.app (Suf.app ?_ _) _
  unfold finA
  exact Suf.app ⟨_, rfl⟩ _
theorem finT_mod {M : Int} (hM : Pz M) (nm sz : Bool) (T : List UInt8) (root : Nat) : ((finT M nm sz T root).length : Int) % M = 0 := by
  have := gap_sum hM T.length (4 + p1 nm + p1 sz)
  rw [finT_len]
  rwa [show ((p1 sz + (4 + (p1 nm + (gap M T.length (4 + p1 nm + p1 sz) + T.length))) : Nat) : Int) = (gap M T.length (4 + p1 nm + p1 sz) : Int) + T.length + ((4 + p1 nm + p1 sz : Nat) : Int) by omega]
theorem p1_le (c : Bool) : p1 c ≤ 4 := by cases c <;> decide
theorem finT_root {M : Int} (hM : Pz M) (nm sz : Bool) {T : List UInt8} {root : Nat} (h : root ≤ T.length) (hz : T.length ≤ 2 ^ 15) : (p1 sz : Int) + rd (finT M nm sz T root) (p1 sz) = ((finT M nm sz T root).length - root : Nat) := by
  obtain ⟨Pre, a, b⟩ := finT_eq M nm sz T root
  have hl := finT_len M nm sz T root
  have hA := finA_len M nm sz T
  have hg := gap_lt hM T.length (4 + p1 nm + p1 sz)
  have := hM.pos
  have := p1_le nm
  have := p1_le sz
  have e : rd (finT M nm sz T root) (p1 sz) = ((finA M nm sz T).length : Int) - root + 4 := by
    rw [b, ← a]
    exact rd_en _ _ (by omega)
  rw [e, hl, hA]; omega
theorem finT_size {M : Int} (hM : Pz M) (nm : Bool) {T : List UInt8} {root : Nat} (hz : T.length ≤ 2 ^ 15) : rd (finT M nm true T root) 0 = ((finT M nm true T root).length : Int) - 4 := by
  have hl := finT_len M nm true T root
  have hg := gap_lt hM T.length (4 + p1 nm + p1 true)
  have := hM.pos
  have := p1_le nm
  have hU : (finU M nm true T root).length = 4 + (finA M nm true T).length := by unfold finU; rw [List.length_append, FK.en_len]; rfl
  have hA := finA_len M nm true T
  have e : finT M nm true T root = [] ++ (FK.uo.en (finU M nm true T root).length ++ finU M nm true T root) := rfl
  have h4 : p1 true = 4 := rfl
  rw [hl]
  have := rd_en [] (finU M nm true T root) (n := (finU M nm true T root).length) (by omega)
  rw [← e] at this
  exact this.trans (by rw [hU, hA]; omega)
theorem finT_name (M : Int) (sz : Bool) (T : List UInt8) (root : Nat) : ((finT M true sz T root).drop (p1 sz + 4)).take 4 = laws := by
  obtain ⟨Pre, a, b⟩ := finT_eq M true sz T root
  rw [b, show Pre ++ (FK.uo.en (((finA M true sz T).length : Int) - root + 4) ++ finA M true sz T) = (Pre ++ FK.uo.en (((finA M true sz T).length : Int) - root + 4)) ++ finA M true sz T from (List.append_assoc ..).symm]
  rw [List.drop_left' (by rw [List.length_append, a, FK.en_len]; rfl)]
  exact List.take_left' rfl
/-- the whole of it -/
structure FinOk (F : List UInt8) (PT : List (List Int)) (nm sz : Bool) (pos vt wh : Nat) : Prop where
  hl : F.length ≤ 2 ^ 15
  hb : p1 sz + 8 ≤ F.length
  hsz : sz = true → rd F 0 = (F.length : Int) - 4
  hnm : nm = true → (F.drop (p1 sz + 4)).take 4 = laws
  h4 : (F.length : Int) % 4 = 0
  hal : ∀ j, j < PT.length → (F.length : Int) % alf (PT.getD j []) = 0
  hpos : (p1 sz : Int) + rd F (p1 sz) = pos
  rows : ∀ j, j < PT.length → ∃ vt wh fs, RowOk F pos j (PT.getD j []) vt wh fs
  slot : SlotOk F pos PT.length vt wh
  hm : ((pos + wh : Nat) : Int) % mwid (kds (lastP PT)) = 0
  st : StOk F (pos + wh) (kds (lastP PT)) (fFold (kds (lastP PT))).1 (worths (lastP PT) (kds (lastP PT)) 4) (lnf (lastP PT))
theorem fin_ok {PT : List (List Int)} {M : Int} (nm sz : Bool) (hm : PT.length ≤ 5) (hM : Pz M) (h4 : 4 ≤ M) (hal : ∀ j, j < PT.length → (alf (PT.getD j []) : Int) ≤ M) (hml : mwid (kds (lastP PT)) ≤ M) :
    ∃ pos vt wh, FinOk (finT M nm sz (tabT PT) (oOf (strT PT).length)) PT nm sz pos vt wh := by
  have hF := finT_suf M nm sz (tabT PT) (oOf (strT PT).length)
  have hmod := finT_mod hM nm sz (tabT PT) (oOf (strT PT).length)
  have hlen := finT_len M nm sz (tabT PT) (oOf (strT PT).length)
  have htl := tabT_len PT
  obtain ⟨s1, s2, s3⟩ := sizes PT hm
  have hgo := gap4 (strT PT).length
  have hoo : oOf (strT PT).length = 4 + gap 4 (strT PT).length 0 + (strT PT).length := rfl
  have hg := gap_lt hM (tabT PT).length (4 + p1 nm + p1 sz)
  have hMp := hM.pos
  have n1 := p1_le nm
  have n2 := p1_le sz
  have hro := finT_root hM nm sz (T := tabT PT) (root := oOf (strT PT).length) (by omega) (by omega)
  have hsz : sz = true → rd (finT M nm sz (tabT PT) (oOf (strT PT).length)) 0 = ((finT M nm sz (tabT PT) (oOf (strT PT).length)).length : Int) - 4 := fun e => by subst e; exact finT_size hM nm (by omega)
  have hnm : nm = true → ((finT M nm sz (tabT PT) (oOf (strT PT).length)).drop (p1 sz + 4)).take 4 = laws := fun e => by subst e; exact finT_name M sz _ _
  generalize finT M nm sz (tabT PT) (oOf (strT PT).length) = F at *
  have hdm : ∀ a : Int, Pz a → a ≤ M → (F.length : Int) % a = 0 := fun a ha hle => Int.emod_eq_zero_of_dvd (Int.dvd_trans (ha.dvd hM hle) (Int.dvd_of_emod_eq_zero hmod))
  have hmd := hdm _ (formOk (hd0 (lastP PT))).1.hz hml
  have hst := struct_shows hF hmd
  have hsl := slot_shows hm hF (Nat.lt_succ_self _) (esL_last PT) (Nat.le_refl _)
  have hpw : F.length - oOf (strT PT).length + (oOf (strT PT).length - (strT PT).length) = F.length - (strT PT).length := by omega
  refine ⟨F.length - oOf (strT PT).length, F.length - (tabT PT).length, oOf (strT PT).length - (strT PT).length, by omega, by omega, hsz, hnm, hdm 4 (by unfold Pz; omega) h4, fun j hj => hdm _ (fAlign_ok _).1 (hal j hj), hro, fun j hj => ⟨_, _, _, row_shows hm hF (by omega) hj (hdm _ (fAlign_ok _).1 (hal j hj))⟩, hsl, by rw [hpw]; exact hst.1, by rw [hpw]; exact hst.2⟩
section
variable {C : Cn} {lc : Lc} {ld : Ld}
/-- fewer objects behind an expression, in another order -/
theorem Ex.less {e : Expr} {P P' : PV → Ld → Prop} (h : Ex C lc ld e P) (hP : ∀ p ld', P p ld' → ∃ (l ld₀ : Ld), l.Sublist ld' ∧ l.Perm ld₀ ∧ P' p ld₀) : Ex C lc ld e P' := fun ok s I Q E k => h ok s I Q E fun v p ld' s' I' r hp => by
  obtain ⟨l, ld₀, a, b, c⟩ := hP p ld' hp
  exact k v p ld₀ s' (I'.sub a b) r c
/-- o[:b], o a list that stood before the call -/
theorem Ex_sllB {o b : Expr} {slp pos : Pos} {x : Addr} {xs : List PV} {hi : Nat} (ho : Ev C lc ld o (.v (.ref x))) (hb : Ev C lc ld b (.i hi)) (hm : ∃ us : List Value, C.h₀.IsList x us.toArray ∧ relL xs us) (hz : xs.length ≤ 2 ^ 20) :
    Ex C lc ld (.Subscript o (.Slice none (some b) none slp) pos) (fun p ld' => ∃ y, p = .v (.ref y) ∧ ld' = ld ++ [(y, .sq "list" (xs.take hi))]) := fun ok s I Q E k => by
  refine N_sub (ho ok s I _ _ fun v s₁ I₁ r => ?_)
  have r : v = .ref x := r
  subst r
  refine N_sliceTo ok I₁ hb fun y u s₂ I₂ hsl pu _ => ?_
  obtain ⟨vs, ⟨ob, hob, hc, n, hd⟩, rl⟩ := hm
  obtain ⟨m, news, F, _⟩ := I₂.ex
  have hl : s₂.heap.IsList x vs.toArray := ⟨ob, F.keep _ _ hob, hc, n, hd⟩
  have e := relL_len rl
  refine ⟨"list", _, hl.typeIs, slot_list_getitem.lookup, wpAny_getItem_list_slice hl hsl .none pu .none (by simp) ?_ (by rw [List.size_toArray, ← e, sizeLine_eq]; omega)⟩
  refine k _ (.v (.ref s₂.heap.objs.size)) _ _ (I₂.growE (t := s₂.toks) (o := .sq "list" (xs.take hi)) (fun b o e => Heap.get?_push_of_some _ e) (fresh_none _) (Heap.get?_push_size _ rfl) ⟨vs.take hi, 0, relL_take _ rl, ?_⟩) rfl ⟨_, rfl, rfl⟩
  rw [slicePick_upto']
theorem cp_ney {A : Around} {w : World} {a b : List UInt8} : Cp .NotEq A (.y a) (.y b) (a != b) w := fun s v u ⟨t, hv⟩ ⟨t', hu⟩ Q E h => by
  subst hv hu
  exact ne_bytes (by simpa using h)
theorem swap3 (A B D : Ld) : (A ++ B ++ D).Perm (A ++ D ++ B) := by
  rw [List.append_assoc, List.append_assoc]
  exact List.Perm.append_left A List.perm_append_comm
end
/-- the frame of law -/
noncomputable abbrev lawC (w : World) (A : Around) (h₀ : Heap) (L : Addr) (mg mb : Str → Option Value) (os : OsState) (gens : Array GenState) (k : Nat) : Cn := ⟨"law" ++ ".<locals>.", dScope (topD 55), some 880, .ref 879, some L, cellsFrom (L + 1) (dScope (topD 55)).names [], w, A, h₀, L, mg, mb, os, gens, k⟩
/-- a law's parts -/
structure PtOk (PT : List (List Int)) : Prop where
  h0 : 0 < PT.length
  h5 : PT.length ≤ 5
  hp : ∀ i, i < PT.length → 0 < (PT.getD i []).length ∧ (PT.getD i []).length ≤ 6
def chunk (N : List Int) (i : Nat) : List Int := (N.drop (6 * i)).take 6
def PTs (N : List Int) : List (List Int) := if 0 < N.length then (List.range ((N.length + 5) / 6)).map (chunk N) else [[0]]
theorem PTs_ok {N : List Int} (h : N.length ≤ 30) : PtOk (PTs N) := by
  unfold PTs
  split
  · refine ⟨by rw [List.length_map, List.length_range]; omega, by rw [List.length_map, List.length_range]; omega, fun i hi => ?_⟩
    rw [List.length_map, List.length_range] at hi
    rw [List.getD_eq_getElem?_getD, List.getElem?_map, List.getElem?_range hi]
    show 0 < (chunk N i).length ∧ (chunk N i).length ≤ 6
    unfold chunk
    rw [List.length_take, List.length_drop]; omega
  · exact ⟨by decide, by decide, fun i hi => by obtain rfl : i = 0 := by (have : i < 1 := hi); omega
                                                decide⟩
theorem zz_sl (N : List Int) (i : Nat) : ((zz N).drop (6 * i)).take 6 = zz (chunk N i) := by
  unfold zz chunk; rw [List.map_take, List.map_drop]
theorem rs6 : ∀ n : Nat, n < 31 → Builtin.Range.rangeSize 0 (n : Int) 6 = (((n + 5) / 6 : Nat) : Int) ∧ Builtin.Range.small 0 (n : Int) 6 = true := by decide +kernel
theorem law_A {ld : Ld} {sc : Addr} {ns : List Int} {w : World} {A : Around} {h₀ : Heap} {L : Addr} {mg mb : Str → Option Value} {os : OsState} {gens : Array GenState} {k : Nat} {K : Fl → Lc → Ld → Prop} (hsc : ∃ us : List Value, h₀.IsList sc us.toArray ∧ relL (zz ns) us) (hlen : ns.length ≤ 63)
    (h : ∀ px nx (as : List Addr) G, (px, PO.sq "list" (as.map fun a => .v (.ref a))) ∈ ld ++ G → as.length = (PTs (ns.take 30)).length → (∀ i, i < as.length → (as.getD i 0, PO.sq "list" (zz ((PTs (ns.take 30)).getD i []))) ∈ ld ++ G) →
      Bl (lawC w A h₀ L mg mb os gens k) [("parts", .v (.ref px)), ("total", .i (ns.take 30).sum)] ((L + 1 + 1, cellO none) :: (L + 1, PO.cell (.v (.ref nx))) :: (ld ++ G)) ((dBody (topD 55)).drop 4) K) :
    Bl (lawC w A h₀ L mg mb os gens k) [("script", .v (.ref sc))] ((L + 1 + 1, cellO none) :: (L + 1, cellO none) :: ld) (dBody (topD 55)) K := by
  have hzl := zz_len ns
  refine' Bl_sto (Ex_sllB (hi := 30) ?e1 (Ev.cast ?f1 ?q1) ?m1 ?z1) ?k1
  case e1 => walk_at "ev"
  case f1 => walk_at "ev"
  case q1 => rfl
  case m1 => exact hsc
  case z1 => omega
  refine elA10 ?_; intro nx
  rw [show (zz ns).take 30 = zz (ns.take 30) from (List.map_take ..).symm]
  have hN : (ns.take 30).length ≤ 30 := by rw [List.length_take]; exact Nat.min_le_left _ _
  generalize ns.take 30 = N at *
  have hNl := zz_len N
  refine ⟨_, _, Sto_cell (v₀ := none) (pre := [_]) (c := L + 1) (by with_unfolding_all rfl) (by kernel_rfl) cell_n, ?_⟩
  change Bl _ _ ((L + 1 + 1, cellO none) :: (L + 1, PO.cell (.v (.ref nx))) :: (ld ++ [(nx, .sq "list" (zz N))])) _ _
  have mn : (L + 1, PO.cell (.v (.ref nx))) ∈ (L + 1 + 1, cellO none) :: (L + 1, PO.cell (.v (.ref nx))) :: (ld ++ [(nx, .sq "list" (zz N))]) := .tail _ (.head _)
  have ml : (nx, PO.sq "list" (zz N)) ∈ (L + 1 + 1, cellO none) :: (L + 1, PO.cell (.v (.ref nx))) :: (ld ++ [(nx, .sq "list" (zz N))]) := .tail _ (.tail _ (List.mem_append_right _ (.head _)))
  refine' Bl_asg (p := .i N.sum) (Ev_bi1 (Ea_bi b_sum (by kernel_rfl) (by decide) (by kernel_rfl)) ?e2 (bi_sum (ns := N) ml)) ?k2 (by kernel_rfl)
  case e2 => walk_at "ev"
  have hrs : Builtin.Range.rangeSize 0 (N.length : Int) 6 = (((N.length + 5) / 6 : Nat) : Int) := (rs6 N.length (by omega)).1
  refine' Bl_asgc (α := List Addr × Ld) (fun _ a => ((L + 1 + 1, cellO none) :: (L + 1, PO.cell (.v (.ref nx))) :: (ld ++ [(nx, .sq "list" (zz N))])) ++ a.2) (fun _ a => a.1.map fun x => .v (.ref x))
    (fun i a => i ≤ (N.length + 5) / 6 ∧ a.1.length = i ∧ ∀ j, j < i → (a.1.getD j 0, PO.sq "list" (zz (chunk N j))) ∈ a.2)
    (Sc_rg (a := 0) (b := (N.length : Int)) (c := 6) (n := (N.length + 5) / 6) ?e3 ?r3 ?s3) ([], []) ?j3 ?y3 ?d3 ?n3 ?z3 ?t3 ?k3 (cl := [("numbers", L + 1)]) (by with_unfolding_all rfl) (by decide +kernel) (by kernel_rfl) (by decide +kernel) (by kernel_rfl) (by kernel_rfl) (by with_unfolding_all rfl)
  case e3 =>
    refine' Ex_bi (P₁ := fun ps ld' => ps = [.i 0, .i (N.length : Int), .i 6] ∧ ld' = _) (Ea_rng (by kernel_rfl)) (Ag_1 ?e4 (Ag_1 (Ev.cast (Ev_lenl ?f4 ml ?z4 (by kernel_rfl)) ?q4) (Ag_1 ?g4 (Ag_end ⟨rfl, rfl⟩) (by with_unfolding_all rfl)) (by with_unfolding_all rfl)) (by with_unfolding_all rfl)) ?h4 (by with_unfolding_all rfl) (by with_unfolding_all rfl)
    case e4 => walk_at "ev"
    case f4 => exact Ea.ev (Ea_cell (by with_unfolding_all rfl) mn (by kernel_rfl) (by decide))
    case z4 => omega
    case q4 => rw [hNl]
    case g4 => walk_at "ev"
    case h4 =>
      refine elF00 ?_
      exact bi_range3 (by decide) (by decide)
  case r3 => exact hrs
  case s3 => exact (rs6 N.length (by omega)).2
  case j3 => exact ⟨Nat.zero_le _, rfl, fun j hj => absurd hj (Nat.not_lt_zero _)⟩
  case y3 => rfl
  case d3 => exact (List.append_nil _).symm
  case n3 => intro _ _ _ _ h; cases h
  case z3 => rintro i a ⟨h1, h2, _⟩; rw [List.length_map, h2]; omega
  case t3 =>
    intro i; refine elP2 ?_; intro as G hi jj it o acc h L'; refine and3 jj ?_; intro j1 j2 j3; clear jj
    dsimp only at j1 j2 j3 ⊢
    refine ⟨true, Ts_nil, fun _ => ?_, fun q => by cases q⟩
    have mn' : (L + 1, PO.cell (.v (.ref nx))) ∈ ((L + 1 + 1, cellO none) :: (L + 1, PO.cell (.v (.ref nx))) :: (ld ++ [(nx, .sq "list" (zz N))])) ++ G ++ [(it, o), (acc, PO.sq "list" (as.map fun x => .v (.ref x)))] := List.mem_append_left _ (List.mem_append_left _ mn)
    have ml' : (nx, PO.sq "list" (zz N)) ∈ ((L + 1 + 1, cellO none) :: (L + 1, PO.cell (.v (.ref nx))) :: (ld ++ [(nx, .sq "list" (zz N))])) ++ G ++ [(it, o), (acc, PO.sq "list" (as.map fun x => .v (.ref x)))] := List.mem_append_left _ (List.mem_append_left _ ml)
    refine' Ex.less (Ex_sll (lo := 6 * i) (hi := 6 * i + 6) ?e5 (Ev.cast ?f5 ?q5) (Ev.cast (Ev_add ?g5 ?h5) ?r5) ml' ?z5) ?p5
    case e5 => walk_at "ev"
    case f5 => walk_at "ev"
    case q5 => omega
    case g5 => walk_at "ev"
    case h5 => walk_at "ev"
    case r5 => omega
    case z5 => omega
    case p5 =>
      refine elA10 ?_; intro y
      rw [show 6 * i + 6 - 6 * i = 6 by omega, zz_sl]
      refine ⟨_, _, List.Sublist.refl _, swap3 _ _ _, (as ++ [y], G ++ [(y, PO.sq "list" (zz (chunk N i)))]), ⟨hi, by rw [List.length_append, j2]; rfl, fun j hj => ?_⟩, by rw [List.map_append]; rfl, by rw [← List.append_assoc]⟩
      rcases Nat.lt_or_ge j i with q | q
      · rw [List.getD_eq_getElem?_getD, List.getElem?_append_left (by omega), ← List.getD_eq_getElem?_getD]
        exact List.mem_append_left _ (j3 j q)
      · obtain rfl : j = i := by omega
        rw [List.getD_eq_getElem?_getD, List.getElem?_append_right (by omega), j2, Nat.sub_self]
        exact List.mem_append_right _ (.head _)
  case k3 =>
    intro acc; refine elP2 ?_; intro as G jj; refine and3 jj ?_; intro _ j2 j3; clear jj
    dsimp only at j2 j3 ⊢
    have hal : (as.map fun x => PV.v (.ref x)).length = as.length := List.length_map _
    have ma : (acc, PO.sq "list" (as.map fun x => .v (.ref x))) ∈ ((L + 1 + 1, cellO none) :: (L + 1, PO.cell (.v (.ref nx))) :: (ld ++ [(nx, .sq "list" (zz N))])) ++ G ++ [(acc, PO.sq "list" (as.map fun x => .v (.ref x)))] := List.mem_append_right _ (.head _)
    refine' Bl_asgx (Ex_ite (P := fun p ld' => ∃ px, ∃ bs : List Addr, ∃ G' : Ld, p = .v (.ref px) ∧ ld' = (L + 1 + 1, cellO none) :: (L + 1, PO.cell (.v (.ref nx))) :: (ld ++ G') ∧ (px, PO.sq "list" (bs.map fun a => .v (.ref a))) ∈ ld ++ G' ∧ bs.length = (PTs N).length ∧ ∀ i, i < bs.length → (bs.getD i 0, PO.sq "list" (zz ((PTs N).getD i []))) ∈ ld ++ G')
      (Tr_gt (Ev_lenl ?e6 ma ?z6 (by kernel_rfl)) ?f6 (by with_unfolding_all rfl)) ?a6 ?b6) ?k6 (by kernel_rfl)
    case e6 => walk_at "ev"
    case z6 => omega
    case f6 => walk_at "ev"
    case a6 =>
      intro q
      have q := of_decide_eq_true q
      have hp : PTs N = (List.range ((N.length + 5) / 6)).map (chunk N) := if_pos (by omega)
      have hpl : (PTs N).length = as.length := by rw [hp, List.length_map, List.length_range, j2]
      refine' (Ev.ex (p := .v (.ref acc)) ?e7).mono ?p7
      case e7 => walk_at "ev"
      case p7 =>
        refine elF00 ?_
        refine ⟨acc, as, [(nx, .sq "list" (zz N))] ++ G ++ [(acc, PO.sq "list" (as.map fun x => .v (.ref x)))], rfl, by simp only [List.append_assoc, List.cons_append], List.mem_append_right _ (List.mem_append_right _ (.head _)), hpl.symm, fun i hi => ?_⟩
        have e : (PTs N).getD i [] = chunk N i := by rw [hp, List.getD_eq_getElem?_getD, List.getElem?_map, List.getElem?_range (by omega)]; rfl
        rw [e]
        exact List.mem_append_right _ (List.mem_append_left _ (List.mem_append_right _ (j3 i (by omega))))
    case b6 =>
      intro q
      have q := of_decide_eq_false q
      have hp : PTs N = [[0]] := if_neg (by omega)
      rw [hp]
      refine' (Ex_list (P := fun ps ld' => ∃ y, ps = [.v (.ref y)] ∧ ld' = ((L + 1 + 1, cellO none) :: (L + 1, PO.cell (.v (.ref nx))) :: (ld ++ [(nx, .sq "list" (zz N))])) ++ G ++ [(acc, PO.sq "list" (as.map fun x => .v (.ref x)))] ++ [(y, .sq "list" [.i 0])]) (Ag_cons (Ex_listE (.cons (by with_unfolding_all rfl) ?e8 .nil)) ?f8 (by with_unfolding_all rfl)) ?g8).mono ?p8
      case e8 => exact Ea.ev Ea_int
      case f8 =>
        refine elA10 ?_; intro y
        exact Ag_end ⟨y, rfl, rfl⟩
      case g8 => refine elA10 ?_; intro y; exact (by decide : 1 ≤ 2 ^ 20)
      case p8 =>
        rintro p ld' ⟨x, ps, ld₁, ⟨y, rfl, rfl⟩, rfl, rfl⟩
        refine ⟨x, [y], [(nx, .sq "list" (zz N))] ++ G ++ [(acc, PO.sq "list" (as.map fun x => .v (.ref x)))] ++ [(y, .sq "list" [.i 0])] ++ [(x, .sq "list" [.v (.ref y)])], rfl, by simp only [List.append_assoc, List.cons_append], List.mem_append_right _ (List.mem_append_right _ (.head _)), rfl, fun i hi => ?_⟩
        obtain rfl : i = 0 := by (have : i < 1 := hi); omega
        exact List.mem_append_right _ (List.mem_append_left _ (List.mem_append_right _ (.head _)))
    rintro p ld' ⟨px, bs, G', rfl, rfl, h1, h2, h3⟩
    refine Bl_less (h px nx bs G' h1 h2 h3) ?_ (List.Sublist.refl _)
    exact lsub_cons (by with_unfolding_all rfl) (lsub_cons (by with_unfolding_all rfl) lsub_nil)
/-- law's builder between objects -/
abbrev SR (vt d : Addr) (jk : List UInt8) (ma : Int) (ve : Option PV) (T : List UInt8) : BS := ⟨d, .v .none, false, ma, false, .v .none, ve, .v (.ref vt), jk, T⟩
theorem mk721 (P : Params) : makeOk (frag P) 721 335 = true := by kernel_rfl
theorem law_B {R : Ld} {px : Addr} {as : List Addr} {PT : List (List Int)} {X : PO} {tot : Int} {w : World} {A : Around} {h₀ : Heap} {L : Addr} {mg mb : Str → Option Value} {os : OsState} {gens : Array GenState} {k : Nat} {K : Fl → Lc → Ld → Prop} (hk : 9 ≤ k) (O : PtOk PT)
    (hpx : (px, PO.sq "list" (as.map fun a => .v (.ref a))) ∈ R) (hal : as.length = PT.length) (has : ∀ i, i < as.length → (as.getD i 0, PO.sq "list" (zz (PT.getD i []))) ∈ R)
    (h : ∀ b dx vt d jk ma ve rx, vt ≠ 1 → (jk ++ rowsT PT PT.length).length ≤ 2 ^ 18 → Pz ma → (∀ j, j < PT.length → (alf (PT.getD j []) : Int) ≤ ma) →
      Bl (lawC w A h₀ L mg mb os gens k) [("rows", .v (.ref rx)), ("parts", .v (.ref px)), ("total", .i tot)] (B b dx (SR vt d jk ma ve (rowsT PT PT.length)) ((vt, .raw (dictOf [] 0)) :: (L + 1 + 1, .cell (.v (.ref b))) :: (L + 1, X) :: (R ++ [(rx, .sq "list" ((List.range PT.length).map fun j => .i (offs PT j : Nat)))]))) ((dBody (topD 55)).drop 6) K) :
    Bl (lawC w A h₀ L mg mb os gens k) [("parts", .v (.ref px)), ("total", .i tot)] ((L + 1 + 1, cellO none) :: (L + 1, X) :: R) ((dBody (topD 55)).drop 4) K := by
  have hml : (as.map fun a => PV.v (.ref a)).length = as.length := List.length_map _
  obtain ⟨n, hn, hn7⟩ : ∃ n : Nat, tot % 70 = n ∧ n ≤ 70 := ⟨(tot % 70).toNat, by omega, by omega⟩
  refine' Bl_sto (Ex_cls (P := fun b ld' => ∃ dx d vt, vt ≠ 1 ∧ ld' = B b dx (S0 d vt n) ((vt, .raw (dictOf [] 0)) :: (L + 1 + 1, cellO none) :: (L + 1, X) :: R)) (P₁ := fun ps ld' => ps = [.i n] ∧ ld' = (L + 1 + 1, cellO none) :: (L + 1, X) :: R) (k := 2) (Ea_glob g721 (by kernel_rfl)) (Ag_1 (Ev.cast ?e1 hn) (Ag_end ⟨rfl, rfl⟩) (by with_unfolding_all rfl)) ?f1 ?k1 mk721) ?h1
  case e1 => walk_at "ev"
  case f1 =>
    rintro ps ld' ⟨rfl, rfl⟩ b dx
    refine (fn_Init (n := n) (by omega)).mono (Nat.le_refl _) ?_
    (first | refine elF21 ?_ | refine elF30 ?_); intro d vt h1
    exact ⟨rfl, dx, d, vt, h1, rfl⟩
  case k1 => show 3 ≤ k; omega
  rintro p ld' ⟨b, rfl, dx, d, vt, hv1, rfl⟩
  refine ⟨_, _, Sto_cell (v₀ := none) (pre := [_, _, _, _]) (c := L + 1 + 1) (by with_unfolding_all rfl) (by kernel_rfl) cell_n, ?_⟩
  change Bl _ _ (B b dx (SR vt d (List.replicate n 0) 1 none []) ((vt, .raw (dictOf [] 0)) :: (L + 1 + 1, .cell (.v (.ref b))) :: (L + 1, X) :: R)) _ _
  have up : ∀ S : BS, ∀ y ∈ R, y ∈ B b dx S ((vt, .raw (dictOf [] 0)) :: (L + 1 + 1, .cell (.v (.ref b))) :: (L + 1, X) :: R) := fun S y hy => .tail _ (.tail _ (.tail _ (.tail _ (.tail _ (.tail _ hy)))))
  refine' Bl_asgc (α := Addr × List UInt8 × Int × Option PV) (fun i a => B b dx (SR vt a.1 a.2.1 a.2.2.1 a.2.2.2 (rowsT PT i)) ((vt, .raw (dictOf [] 0)) :: (L + 1 + 1, .cell (.v (.ref b))) :: (L + 1, X) :: R)) (fun i _ => (List.range i).map fun j => .i (offs PT j : Nat))
    (fun i a => i ≤ PT.length ∧ (a.2.1 ++ rowsT PT i).length ≤ 2 ^ 18 ∧ Pz a.2.2.1 ∧ ∀ j, j < i → (alf (PT.getD j []) : Int) ≤ a.2.2.1)
    (Sc_list (l := px) (xs := as.map fun a => .v (.ref a)) ?e2 (up _ _ hpx)) (d, List.replicate n 0, 1, none) ?j2 ?y2 ?d2 ?n2 ?z2 ?t2 ?k2 (cl := [("builder", L + 1 + 1)]) (by with_unfolding_all rfl) (by decide +kernel) (by kernel_rfl) (by decide +kernel) (by kernel_rfl) (by kernel_rfl) (by with_unfolding_all rfl)
  case e2 => walk_at "ev"
  case j2 => exact ⟨Nat.zero_le _, by show (List.replicate n (0 : UInt8) ++ []).length ≤ _; rw [List.append_nil, List.length_replicate]; omega, .inl rfl, fun j hj => absurd hj (Nat.not_lt_zero _)⟩
  case y2 => rfl
  case d2 => rfl
  case n2 => intro i a _ y hy; rw [List.mem_singleton.mp hy]; exact up _ _ hpx
  case z2 => rintro i a ⟨h1, _⟩; rw [List.length_map, List.length_range]; have := O.h5; omega
  case t2 =>
    intro i; refine elP4 ?_; intro d2 jk2 ma2 ve2 hi jj it o acc h L'; refine and4 jj ?_; intro j1 j2 j3 j4; clear jj
    rw [hml, hal] at hi
    dsimp only at j1 j2 j3 j4 ⊢
    refine ⟨true, Ts_nil, fun _ => ?_, fun q => by cases q⟩
    have hg : (as.map fun a => PV.v (.ref a)).getD i (.v .none) = .v (.ref (as.getD i 0)) := by
      rw [List.getD_eq_getElem?_getD, List.getElem?_map, List.getD_eq_getElem?_getD, List.getElem?_eq_getElem (show i < as.length by omega)]; rfl
    have hpi := has i (by omega)
    have hp := O.hp i hi
    have h5 := O.h5
    have hrl := rowsT_len PT i
    rw [hg]
    change Ex _ _ (B b dx (SR vt d2 jk2 ma2 ve2 (rowsT PT i)) ((vt, .raw (dictOf [] 0)) :: (L + 1 + 1, .cell (.v (.ref b))) :: (L + 1, X) :: R ++ [(it, o), (acc, PO.sq "list" ((List.range i).map fun j => .i (offs PT j : Nat)))])) _ _
    refine' (Ex_f2 (fn_row (S := SR vt d2 jk2 ma2 ve2 (rowsT PT i)) (part := PT.getD i []) (pa := as.getD i 0) rfl j2 ?t3 j3 ?m3 hp.1 ?z3) (Ea_glob g858 (by kernel_rfl)) ?k3 (by intro; kernel_rfl) ?e3 ?f3).mono ?p3
    case t3 => show (rowsT PT i).length ≤ _; omega
    case m3 => exact List.mem_append_left _ (.tail _ (.tail _ (.tail _ hpi)))
    case z3 => omega
    case k3 => show 7 ≤ k; omega
    case e3 => exact Ea.ev (Ea_cell (c := L + 1 + 1) (by with_unfolding_all rfl) (.tail _ (.tail _ (.tail _ (.tail _ (.head _))))) (by kernel_rfl) (by decide))
    case f3 => walk_at "ev"
    case p3 =>
      refine elA34 ?_; intro d4 jk4 ma4 h1 h2 h3 h4
      refine ⟨(d4, jk4, ma4, some (.v .none)), ⟨hi, h1, h2, fun j hj => ?_⟩, ?_, rfl⟩
      · rcases Nat.lt_or_ge j i with q | q
        · exact Int.le_trans (j4 j q) h3
        · obtain rfl : j = i := by omega
          exact h4
      · rw [List.range_succ, List.map_append]; rfl
  case k2 =>
    intro acc; refine elP4 ?_; intro d2 jk2 ma2 ve2 jj; refine and4 jj ?_; intro j1 j2 j3 j4; clear jj
    rw [hml, hal] at j2 j4 ⊢
    exact h b dx vt d2 jk2 ma2 ve2 acc hv1 j2 j3 j4
/-- law's builder inside the table -/
abbrev SO (vt v d : Addr) (oe : Nat) (jk : List UInt8) (ma : Int) (ve : Option PV) (T : List UInt8) : BS := ⟨d, .v (.ref v), false, ma, true, .i oe, ve, .v (.ref vt), jk, T⟩
theorem idx_last {xs : List PV} {q : PV} (h : 0 < xs.length) (e : xs[xs.length - 1]? = some q) : idx xs (-1) = some q := by
  unfold idx
  rw [if_neg (by decide), if_pos (by omega), show (-1 + (xs.length : Int)).toNat = xs.length - 1 by omega]; exact e
theorem as_get {as : List Addr} {i : Nat} (h : i < as.length) : (as.map fun a => PV.v (.ref a))[i]? = some (.v (.ref (as.getD i 0))) := by
  rw [List.getElem?_map, List.getD_eq_getElem?_getD, List.getElem?_eq_getElem h]; rfl
/-- the slots, the first i set -/
def esN (PT : List (List Int)) (i : Nat) : List Nat := ((List.range i).map fun j => (slotT PT (j + 1)).length) ++ List.replicate (PT.length + 1 - i) 0
theorem esN_len (PT : List (List Int)) {i : Nat} (h : i ≤ PT.length + 1) : (esN PT i).length = PT.length + 1 := by
  unfold esN; rw [List.length_append, List.length_map, List.length_range, List.length_replicate]; omega
theorem set_at {l : List Nat} {n i : Nat} (h : l.length = i) (hn : 0 < n) (x : Nat) : (nz (l ++ List.replicate n 0)).set i (.i (x : Nat)) = nz (l ++ [x] ++ List.replicate (n - 1) 0) := by
  obtain ⟨k, rfl⟩ : ∃ k, n = k + 1 := ⟨n - 1, by omega⟩
  unfold nz
  rw [List.map_append, List.set_append_right _ _ (by rw [List.length_map, h]; exact Nat.le_refl _), List.length_map, h, Nat.sub_self, List.replicate_succ, List.map_cons, List.set_cons_zero, List.map_append, List.map_append, Nat.add_sub_cancel, List.append_assoc]
  rfl
theorem esN_set (PT : List (List Int)) {i : Nat} (h : i < PT.length) : (nz (esN PT i)).set i (.i ((slotT PT (i + 1)).length : Nat)) = nz (esN PT (i + 1)) := by
  unfold esN
  rw [set_at (by rw [List.length_map, List.length_range]) (by omega), List.range_succ, List.map_append, show PT.length + 1 - i - 1 = PT.length + 1 - (i + 1) by omega]
  rfl
theorem esN_end (PT : List (List Int)) : (nz (esN PT PT.length)).set PT.length (.i ((strT PT).length : Nat)) = nz (esL PT) := by
  unfold esN
  rw [set_at (by rw [List.length_map, List.length_range]) (by omega), show PT.length + 1 - PT.length - 1 = 0 by omega, List.replicate_zero, List.append_nil]
  rfl
theorem esL_rg (PT : List (List Int)) (hm : PT.length ≤ 5) : ∀ e ∈ esL PT, 0 < e ∧ e ≤ (strT PT).length := by
  intro e he
  have h3 := strT_len PT
  have h4 := slotT_len PT PT.length
  rcases List.mem_append.mp he with q | q
  · obtain ⟨j, hj, rfl⟩ := List.mem_map.mp q
    have hj := List.mem_range.mp hj
    obtain ⟨Z, hZ⟩ := slotT_suf PT (show j + 1 ≤ PT.length by omega)
    have hZl : (slotT PT PT.length).length = _ := congrArg List.length hZ
    rw [List.length_append] at hZl
    have : (slotT PT (j + 1)).length = _ := congrArg List.length (slotT_succ PT j)
    rw [List.length_append, slB_len] at this
    omega
  · rw [List.mem_singleton.mp q]
    refine ⟨?_, Nat.le_refl _⟩
    have hw : (fFold (kds (lastP PT))).1.getD 0 (lnf (lastP PT)) + wid ((kds (lastP PT)).getD 0 0) ≤ (fFold (kds (lastP PT))).1.getD 1 (lnf (lastP PT)) := (formOk (hd0 (lastP PT))).1.hn 0 (formOk (hd0 (lastP PT))).1.h0
    have hm0 : (fFold (kds (lastP PT))).1.getD 1 (lnf (lastP PT)) ≤ lnf (lastP PT) := (formOk (hd0 (lastP PT))).1.mono 1 (formOk (hd0 (lastP PT))).1.h0
    have hwp := wid_pos ((kds (lastP PT)).getD 0 0)
    omega
theorem law_C {R : Ld} {px rx b dx vt d : Addr} {as : List Addr} {PT : List (List Int)} {X : PO} {tot ma : Int} {jk : List UInt8} {ve : Option PV} {w : World} {A : Around} {h₀ : Heap} {L : Addr} {mg mb : Str → Option Value} {os : OsState} {gens : Array GenState} {k : Nat} {K : Fl → Lc → Ld → Prop} (hk : 9 ≤ k) (O : PtOk PT)
    (hpx : (px, PO.sq "list" (as.map fun a => .v (.ref a))) ∈ R) (hal : as.length = PT.length) (has : ∀ i, i < as.length → (as.getD i 0, PO.sq "list" (zz (PT.getD i []))) ∈ R) (hrx : (rx, PO.sq "list" ((List.range PT.length).map fun j => .i (offs PT j : Nat))) ∈ R)
    (hv1 : vt ≠ 1) (hz : (jk ++ rowsT PT PT.length).length ≤ 2 ^ 18) (hma : Pz ma) (hpa : ∀ j, j < PT.length → (alf (PT.getD j []) : Int) ≤ ma)
    (h : ∀ S ka qa fx wx R', S.ok → S.tl = tabT PT → Pz S.ma → 4 ≤ S.ma → (∀ j, j < PT.length → (alf (PT.getD j []) : Int) ≤ S.ma) → mwid (kds (lastP PT)) ≤ S.ma → R.Sublist R' →
      (ka, PO.sq "list" (nz (kds (lastP PT)))) ∈ R' → (qa, PO.sq "list" (nz (fFold (kds (lastP PT))).1)) ∈ R' → (fx, PO.sq "tuple" [.v (.ref ka), .v (.ref qa), .i (lnf (lastP PT) : Nat), .i (alf (lastP PT) : Nat), .i (cnf (lastP PT) : Nat)]) ∈ R' → (wx, PO.sq "list" (zz (worths (lastP PT) (kds (lastP PT)) 4))) ∈ R' →
      Bl (lawC w A h₀ L mg mb os gens k) [("root", .i (oOf (strT PT).length : Nat)), ("one", .v (.ref fx)), ("worths", .v (.ref wx)), ("rows", .v (.ref rx)), ("parts", .v (.ref px)), ("total", .i tot)] (B b dx S ((L + 1 + 1, .cell (.v (.ref b))) :: (L + 1, X) :: R')) ((dBody (topD 55)).drop 12) K) :
    Bl (lawC w A h₀ L mg mb os gens k) [("rows", .v (.ref rx)), ("parts", .v (.ref px)), ("total", .i tot)] (B b dx (SR vt d jk ma ve (rowsT PT PT.length)) ((vt, .raw (dictOf [] 0)) :: (L + 1 + 1, .cell (.v (.ref b))) :: (L + 1, X) :: R)) ((dBody (topD 55)).drop 6) K := by
  have h0 := O.h0
  have h5 := O.h5
  have hml : (as.map fun a => PV.v (.ref a)).length = as.length := List.length_map _
  have hlp := O.hp (PT.length - 1) (by omega)
  have hal1 := has (PT.length - 1) (by omega)
  refine and3 (formOk (hd0 (lastP PT))) ?_; intro F hmw hp0
  refine and3 (sizes PT h5) ?_; intro s1 s2 s3
  have hrl := rowsT_len PT PT.length
  have hil : idx (as.map fun a => PV.v (.ref a)) (-1) = some (.v (.ref (as.getD (PT.length - 1) 0))) := idx_last (by omega) (by rw [hml, hal]; exact as_get (by omega))
  have hpg := zz_get hlp.1
  have hzl := zz_len (PT.getD (PT.length - 1) [])
  refine' Bl_asgx (Ex_f1 (fn_form (n := hd0 (lastP PT))) (Ea_glob g839 (by kernel_rfl)) (by walk_at "side") (by intro; kernel_rfl) (Ev_itl (Ev_itl ?e1 (Ev.cast ?f1 ?q1) ?m1 ?z1 hil) ?g1 ?n1 ?y1 (idx_nat ?i1 hpg))) ?k1 (by kernel_rfl)
  case e1 => walk_at "ev"
  case f1 => walk_at "ev"
  case q1 => rfl
  case m1 => exact .tail _ (.tail _ (.tail _ (.tail _ (.tail _ (.tail _ hpx)))))
  case z1 => omega
  case g1 => walk_at "ev"
  case n1 => exact .tail _ (.tail _ (.tail _ (.tail _ (.tail _ (.tail _ hal1)))))
  case y1 => omega
  case i1 => rfl
  refine elA30 ?_; intro ka qa fx
  change Bl _ _ (B b dx (SR vt d jk ma ve (rowsT PT PT.length)) ((vt, .raw (dictOf [] 0)) :: (L + 1 + 1, .cell (.v (.ref b))) :: (L + 1, X) :: (R ++ [(ka, PO.sq "list" (nz (kds (lastP PT)))), (qa, PO.sq "list" (nz (fFold (kds (lastP PT))).1)), (fx, PO.sq "tuple" [.v (.ref ka), .v (.ref qa), .i (lnf (lastP PT) : Nat), .i (alf (lastP PT) : Nat), .i (cnf (lastP PT) : Nat)])]))) _ _
  have b1 : R.Sublist (R ++ [(ka, PO.sq "list" (nz (kds (lastP PT)))), (qa, PO.sq "list" (nz (fFold (kds (lastP PT))).1)), (fx, PO.sq "tuple" [.v (.ref ka), .v (.ref qa), .i (lnf (lastP PT) : Nat), .i (alf (lastP PT) : Nat), .i (cnf (lastP PT) : Nat)])]) := List.sublist_append_left _ _
  have u1 : ∀ y ∈ R, y ∈ R ++ [(ka, PO.sq "list" (nz (kds (lastP PT)))), (qa, PO.sq "list" (nz (fFold (kds (lastP PT))).1)), (fx, PO.sq "tuple" [.v (.ref ka), .v (.ref qa), .i (lnf (lastP PT) : Nat), .i (alf (lastP PT) : Nat), .i (cnf (lastP PT) : Nat)])] := fun y h => List.mem_append_left _ h
  have hka : (ka, PO.sq "list" (nz (kds (lastP PT)))) ∈ R ++ [(ka, PO.sq "list" (nz (kds (lastP PT)))), (qa, PO.sq "list" (nz (fFold (kds (lastP PT))).1)), (fx, PO.sq "tuple" [.v (.ref ka), .v (.ref qa), .i (lnf (lastP PT) : Nat), .i (alf (lastP PT) : Nat), .i (cnf (lastP PT) : Nat)])] := List.mem_append_right _ (.head _)
  have hqa : (qa, PO.sq "list" (nz (fFold (kds (lastP PT))).1)) ∈ R ++ [(ka, PO.sq "list" (nz (kds (lastP PT)))), (qa, PO.sq "list" (nz (fFold (kds (lastP PT))).1)), (fx, PO.sq "tuple" [.v (.ref ka), .v (.ref qa), .i (lnf (lastP PT) : Nat), .i (alf (lastP PT) : Nat), .i (cnf (lastP PT) : Nat)])] := List.mem_append_right _ (.tail _ (.head _))
  have hfx : (fx, PO.sq "tuple" [.v (.ref ka), .v (.ref qa), .i (lnf (lastP PT) : Nat), .i (alf (lastP PT) : Nat), .i (cnf (lastP PT) : Nat)]) ∈ R ++ [(ka, PO.sq "list" (nz (kds (lastP PT)))), (qa, PO.sq "list" (nz (fFold (kds (lastP PT))).1)), (fx, PO.sq "tuple" [.v (.ref ka), .v (.ref qa), .i (lnf (lastP PT) : Nat), .i (alf (lastP PT) : Nat), .i (cnf (lastP PT) : Nat)])] := List.mem_append_right _ (.tail _ (.tail _ (.head _)))
  generalize R ++ [(ka, PO.sq "list" (nz (kds (lastP PT)))), (qa, PO.sq "list" (nz (fFold (kds (lastP PT))).1)), (fx, PO.sq "tuple" [.v (.ref ka), .v (.ref qa), .i (lnf (lastP PT) : Nat), .i (alf (lastP PT) : Nat), .i (cnf (lastP PT) : Nat)])] = R1 at *
  have up : ∀ (S : BS) (R : Ld), ∀ y ∈ R, y ∈ B b dx S ((vt, .raw (dictOf [] 0)) :: (L + 1 + 1, .cell (.v (.ref b))) :: (L + 1, X) :: R) := fun S R y hy => .tail _ (.tail _ (.tail _ (.tail _ (.tail _ (.tail _ hy)))))
  refine' Bl_asgx (Ex_f3 (fn_worths (part := lastP PT) (kinds := kds (lastP PT)) (item := 4) (up _ _ _ (u1 _ hal1)) (up _ _ _ hka) hlp.1 (Nat.le_trans hlp.2 (by decide)) (Nat.le_trans F.h3 (by decide))) (Ea_glob g846 (by kernel_rfl)) (by walk_at "side") (by intro; kernel_rfl) (Ev_itl ?e2 (Ev.cast ?f2 ?q2) (up _ _ _ (u1 _ hpx)) ?z2 hil) (Ev_it5 ?e3 ?f3 (up _ _ _ hfx) ?i3) (Ev.cast ?e4 ?q4)) ?k2 (by kernel_rfl)
  case e2 => walk_at "ev"
  case f2 => walk_at "ev"
  case q2 => rfl
  case z2 => omega
  case e3 => walk_at "ev"
  case f3 => walk_at "ev"
  case i3 => rfl
  case e4 => walk_at "ev"
  case q4 => rfl
  refine elA10 ?_; intro wx
  change Bl _ _ (B b dx (SR vt d jk ma ve (rowsT PT PT.length)) ((vt, .raw (dictOf [] 0)) :: (L + 1 + 1, .cell (.v (.ref b))) :: (L + 1, X) :: (R1 ++ [(wx, .sq "list" (zz (worths (lastP PT) (kds (lastP PT)) 4)))]))) _ _
  have b2 : R1.Sublist (R1 ++ [(wx, PO.sq "list" (zz (worths (lastP PT) (kds (lastP PT)) 4)))]) := List.sublist_append_left _ _
  have u2 : ∀ y ∈ R1, y ∈ R1 ++ [(wx, PO.sq "list" (zz (worths (lastP PT) (kds (lastP PT)) 4)))] := fun y h => List.mem_append_left _ h
  have hwx : (wx, PO.sq "list" (zz (worths (lastP PT) (kds (lastP PT)) 4))) ∈ R1 ++ [(wx, PO.sq "list" (zz (worths (lastP PT) (kds (lastP PT)) 4)))] := List.mem_append_right _ (.head _)
  generalize R1 ++ [(wx, PO.sq "list" (zz (worths (lastP PT) (kds (lastP PT)) 4)))] = R2 at *
  have hrx2 := u2 _ (u1 _ hrx)
  have hrxl : ((List.range PT.length).map fun j => PV.i (offs PT j : Nat)).length = PT.length := by rw [List.length_map, List.length_range]
  have mb2 : ∀ (S : BS) (R : Ld), (L + 1 + 1, PO.cell (.v (.ref b))) ∈ B b dx S ((vt, .raw (dictOf [] 0)) :: (L + 1 + 1, .cell (.v (.ref b))) :: (L + 1, X) :: R) := fun S R => .tail _ (.tail _ (.tail _ (.tail _ (.head _))))
  refine' Bl_ex (Ex_m1 (fn_StartObject (S := SR vt d jk ma ve (rowsT PT PT.length)) (n := PT.length + 1) rfl hz ?n5) (Ea_cell (c := L + 1 + 1) (by with_unfolding_all rfl) (mb2 _ _) (by kernel_rfl) (by decide)) (.head _) (.tail _ (.head _)) m356 (by kernel_rfl) (by walk_at "side") (Ev.cast (Ev_add (Ev_lenl ?e5 (up _ _ _ hrx2) ?z5 (by kernel_rfl)) ?f5) ?q5)) ?k5 (by kernel_rfl) (by with_unfolding_all rfl)
  case n5 => omega
  case e5 => walk_at "ev"
  case z5 => omega
  case f5 => walk_at "ev"
  case q5 => rw [hrxl]; rfl
  refine elF10 ?_; intro v
  refine ⟨trivial, ?_⟩
  change Bl _ _ (B b dx (SO vt v d (rowsT PT PT.length).length jk ma ve (slotT PT 0)) ((v, .sq "list" (List.replicate (PT.length + 1) (.i 0))) :: (vt, .raw (dictOf [] 0)) :: (L + 1 + 1, .cell (.v (.ref b))) :: (L + 1, X) :: R2)) _ _
  rw [show List.replicate (PT.length + 1) (PV.i 0) = nz (esN PT 0) by unfold nz esN; rw [List.map_append, List.map_replicate]; rfl]
  have up2 : ∀ (S : BS) (z : Addr × PO) (R : Ld), ∀ y ∈ R, y ∈ B b dx S (z :: (vt, .raw (dictOf [] 0)) :: (L + 1 + 1, .cell (.v (.ref b))) :: (L + 1, X) :: R) := fun S z R y hy => .tail _ (.tail _ (.tail _ (.tail _ (.tail _ (.tail _ (.tail _ hy))))))
  have mb3 : ∀ (S : BS) (z : Addr × PO) (R : Ld), (L + 1 + 1, PO.cell (.v (.ref b))) ∈ B b dx S (z :: (vt, .raw (dictOf [] 0)) :: (L + 1 + 1, .cell (.v (.ref b))) :: (L + 1, X) :: R) := fun S z R => .tail _ (.tail _ (.tail _ (.tail _ (.tail _ (.head _)))))
  refine' Bl_for (α := Addr × List UInt8 × Int) (fun _ _ => [("one", .v (.ref fx)), ("worths", .v (.ref wx)), ("rows", .v (.ref rx)), ("parts", .v (.ref px)), ("total", .i tot)])
    (fun i a => B b dx (SO vt v a.1 (rowsT PT PT.length).length a.2.1 a.2.2 ve (slotT PT i)) ((v, .sq "list" (nz (esN PT i))) :: (vt, .raw (dictOf [] 0)) :: (L + 1 + 1, .cell (.v (.ref b))) :: (L + 1, X) :: R2))
    (fun i a => (a.2.1 ++ slotT PT i).length ≤ 2 ^ 18 ∧ Pz a.2.2 ∧ ma ≤ a.2.2) (Sc_range (n := PT.length) (Ea_rng (by kernel_rfl)) (Ev.cast (Ev_lenl ?e6 (up2 _ _ _ _ hrx2) ?z6 (by kernel_rfl)) ?q6) ?n6) (d, jk, ma) ?j6 ?l6 ?d6 ?y6 ?t6 ?k6
  case e6 => walk_at "ev"
  case z6 => omega
  case q6 => rw [hrxl]
  case n6 => omega
  case j6 => exact ⟨hz, hma, Int.le_refl _⟩
  case l6 => exact lsub_cons (by with_unfolding_all rfl) (lsub_cons (by with_unfolding_all rfl) (lsub_cons (by with_unfolding_all rfl) (lsub_cons (by with_unfolding_all rfl) (lsub_cons (by with_unfolding_all rfl) lsub_nil))))
  case d6 => rfl
  case y6 => intro _ _ _ _ h; cases h
  case t6 =>
    intro i; refine elP3 ?_; intro d1 jk1 ma1 hi jj it o; refine and3 jj ?_; intro j1 j2 j3; clear jj
    dsimp only at j1 j2 j3 ⊢
    have e0 : (0 : Int) + (i : Int) * 1 = i := by omega
    have hofl := offs_le PT i hi
    have hsle := slotT_len PT i
    have s4 := s3 i (by omega)
    have hgo : ((List.range PT.length).map fun j => PV.i (offs PT j : Nat))[i]? = some (.i (offs PT i : Nat)) := by rw [List.getElem?_map, List.getElem?_range hi]; rfl
    refine ⟨_, _, Sto_loc (by kernel_rfl), ?_⟩
    rw [e0]
    change Bl _ _ (B b dx (SO vt v d1 (rowsT PT PT.length).length jk1 ma1 ve (slotT PT i)) ((v, .sq "list" (nz (esN PT i))) :: (vt, .raw (dictOf [] 0)) :: (L + 1 + 1, .cell (.v (.ref b))) :: (L + 1, X) :: (R2 ++ [(it, o)]))) _ _
    refine' Bl_ex (Ex_m3 (fn_USlot (S := SO vt v d1 (rowsT PT PT.length).length jk1 ma1 ve (slotT PT i)) (l := nz (esN PT i)) (n := i) (x := (offs PT i : Nat)) rfl rfl j1 ?t7 ?n7 ?l7 ?a7 ?b7) (Ea_cell (c := L + 1 + 1) (by with_unfolding_all rfl) (mb3 _ _ _) (by kernel_rfl) (by decide)) (.head _) (.tail _ (.head _)) m598 (by kernel_rfl) (by walk_at "side") ?e7 (Ev_itl ?f7 ?g7 (up2 _ _ _ _ (List.mem_append_left _ hrx2)) ?z7 (idx_nat ?i7 hgo)) ?h7) ?k7 (by kernel_rfl) (by with_unfolding_all rfl)
    case t7 => show (slotT PT i).length ≤ _; omega
    case n7 => rw [nz_len, esN_len PT (by omega)]; omega
    case l7 => rw [nz_len, esN_len PT (by omega)]; omega
    case a7 => omega
    case b7 => show ((offs PT i : Nat) : Int) ≤ ((slotT PT i).length : Int); omega
    case e7 => walk_at "ev"
    case f7 => walk_at "ev"
    case g7 => walk_at "ev"
    case z7 => omega
    case i7 => rfl
    case h7 => walk_at "ev"
    (first | refine elF21 ?_ | refine elF30 ?_); intro d2 jk2 ho2
    have hset := esN_set PT hi
    refine ⟨trivial, Bl_nil ⟨.inl rfl, (d2, jk2, if ma1 < 4 then 4 else ma1), ⟨ho2, j2.ite (by unfold Pz; omega), by dsimp only; split <;> omega⟩, ?_, ?_⟩⟩
    · exact lsub_cons (by with_unfolding_all rfl) (lsub_cons (by with_unfolding_all rfl) (lsub_cons (by with_unfolding_all rfl) (lsub_cons (by with_unfolding_all rfl) (lsub_cons (by with_unfolding_all rfl) lsub_nil))))
    · dsimp only
      rw [← hset]; rfl
  case k6 =>
    refine elP3 ?_; intro d1 jk1 ma1 jj; refine and3 jj ?_; intro j1 j2 j3; clear jj
    dsimp only at j1 j2 j3 ⊢
    have s4 := s3 PT.length (Nat.le_refl _)
    have hst : strT PT = sB (lastP PT) 4 ++ zer (gap (mwid (kds (lastP PT))) (slotT PT PT.length).length (lnf (lastP PT))) ++ slotT PT PT.length := rfl
    have hrg := esL_rg PT h5
    refine' Bl_ex (Ex_meth (k := 6) (P₁ := fun ps ld' => ∃ d2 jk2 ma2, ps = [.i PT.length, .i (strT PT).length, .i 0] ∧ (jk2 ++ strT PT).length ≤ 2 ^ 18 ∧ Pz ma2 ∧ ma1 ≤ ma2 ∧ mwid (kds (lastP PT)) ≤ ma2 ∧
        ld' = B b dx (SO vt v d2 (rowsT PT PT.length).length jk2 ma2 ve (strT PT)) ((v, .sq "list" (nz (esN PT PT.length))) :: (vt, .raw (dictOf [] 0)) :: (L + 1 + 1, .cell (.v (.ref b))) :: (L + 1, X) :: R2))
      (P := fun p ld' => p = .v .none ∧ ∃ d2 jk2 ma2, (jk2 ++ strT PT).length ≤ 2 ^ 18 ∧ Pz ma2 ∧ ma1 ≤ ma2 ∧ mwid (kds (lastP PT)) ≤ ma2 ∧
        ld' = B b dx (SO vt v d2 (rowsT PT PT.length).length jk2 ma2 ve (strT PT)) ((v, .sq "list" (nz (esL PT))) :: (vt, .raw (dictOf [] 0)) :: (L + 1 + 1, .cell (.v (.ref b))) :: (L + 1, X) :: R2))
      (Ea_cell (c := L + 1 + 1) (by with_unfolding_all rfl) (mb3 _ _ _) (by kernel_rfl) (by decide)) (.head _) (.tail _ (.head _)) m605 (by kernel_rfl)
      (Ag_1 (Ev.cast (Ev_lenl ?e8 (up2 _ _ _ _ hrx2) ?z8 (by kernel_rfl)) ?q8) (Ag_cons (P := fun p ld' => ∃ d2 jk2 ma2, p = .i (strT PT).length ∧ (jk2 ++ strT PT).length ≤ 2 ^ 18 ∧ Pz ma2 ∧ ma1 ≤ ma2 ∧ mwid (kds (lastP PT)) ≤ ma2 ∧
        ld' = B b dx (SO vt v d2 (rowsT PT PT.length).length jk2 ma2 ve (strT PT)) ((v, .sq "list" (nz (esN PT PT.length))) :: (vt, .raw (dictOf [] 0)) :: (L + 1 + 1, .cell (.v (.ref b))) :: (L + 1, X) :: R2)) ?c9 ?r9 (by with_unfolding_all rfl)) (by with_unfolding_all rfl)) ?f10 (by walk_at "side") (by with_unfolding_all rfl)) ?k11 (by kernel_rfl) (by with_unfolding_all rfl)
    case e8 => walk_at "ev"
    case z8 => omega
    case q8 => rw [hrxl]
    case c9 =>
      refine' (Ex_f3 (fn_struct (S := SO vt v d1 (rowsT PT PT.length).length jk1 ma1 ve (slotT PT PT.length)) (ka := ka) (pa := qa) (wa := wx) (fx := fx) (al := .i (alf (lastP PT) : Nat)) (cn := .i (cnf (lastP PT) : Nat)) F (worths_len (lastP PT) (kds (lastP PT)) 4) (worths_ok (lastP PT) F.h8 4) ?a12 ?b12 ?c12 ?d12 j1 ?t12 j2) (Ea_glob g851 (by kernel_rfl)) (by walk_at "side") (by intro; kernel_rfl) (Ea.ev (Ea_cell (c := L + 1 + 1) (by with_unfolding_all rfl) (mb3 _ _ _) (by kernel_rfl) (by decide))) ?e12 ?f12).mono ?p12
      case a12 => exact .tail _ (.tail _ (.tail _ (.tail _ (u2 _ hka))))
      case b12 => exact .tail _ (.tail _ (.tail _ (.tail _ (u2 _ hqa))))
      case c12 => exact .tail _ (.tail _ (.tail _ (.tail _ hwx)))
      case d12 => exact .tail _ (.tail _ (.tail _ (.tail _ (u2 _ hfx))))
      case t12 => show (slotT PT PT.length).length ≤ _; omega
      case e12 => walk_at "ev"
      case f12 => walk_at "ev"
      case p12 =>
        refine elA35 ?_; intro d2 jk2 ma2 h1 h2 h3 h4 h5
        exact ⟨d2, jk2, ma2, rfl, h2, h3, h4, h5, rfl⟩
    case r9 =>
      refine elA34 ?_; intro d2 jk2 ma2 h1 h2 h3 h4
      exact Ag_1 (Ea.ev Ea_int) (Ag_end ⟨d2, jk2, ma2, rfl, h1, h2, h3, h4, rfl⟩) (by with_unfolding_all rfl)
    case f10 =>
      refine elA34 ?_; intro d2 jk2 ma2 h1 h2 h3 h4
      refine (fn_SSlot (S := SO vt v d2 (rowsT PT PT.length).length jk2 ma2 ve (strT PT)) (v := v) (l := nz (esN PT PT.length)) (n := PT.length) rfl rfl h1 ?_ ?_ ?_).mono (by decide) ?_
      · rw [nz_len, esN_len PT (by omega)]; omega
      · rw [nz_len, esN_len PT (by omega)]; omega
      · exact (hrg _ (List.mem_append_right _ (.head _))).1
      · refine elF00 ?_
        have hse := esN_end PT
        refine ⟨rfl, d2, jk2, ma2, h1, h2, h3, h4, ?_⟩
        rw [← hse]
    refine elF34 ?_; intro d2 jk2 ma2 h1 h2 h3 h4
    refine ⟨trivial, ?_⟩
    have hrs := (slotT_len PT PT.length).2
    have hss := (strT_len PT).2.1
    refine' Bl_asgx (Ex_m0 (fn_EndObject (S := SO vt v d2 (rowsT PT PT.length).length jk2 ma2 ve (strT PT)) (v := v) (vd := vt) (es := esL PT) (oe := (rowsT PT PT.length).length) rfl rfl rfl hv1 rfl h1 ?t13 hrg ?m13 ?l13) (Ea_cell (c := L + 1 + 1) (by with_unfolding_all rfl) (mb3 _ _ _) (by kernel_rfl) (by decide)) (.head _) (.tail _ (.head _)) m370 (by kernel_rfl) (by walk_at "side")) ?k13 (by kernel_rfl)
    case t13 => show (strT PT).length ≤ _; omega
    case m13 => rw [esL_len]; omega
    case l13 => show (rowsT PT PT.length).length ≤ (strT PT).length; omega
    refine elA21 ?_; intro d3 jk3 ho3
    refine Bl_less (h { (SO vt v d2 (rowsT PT PT.length).length jk2 ma2 ve (strT PT)).wvt d3 jk3 (esL PT) (rowsT PT PT.length).length with ne := false } ka qa fx wx R2 ho3 rfl (h2.ite (by unfold Pz; omega)) (by dsimp only; split <;> omega) (fun j hj => ?_) ?_ (b1.trans b2) (u2 _ hka) (u2 _ hqa) (u2 _ hfx) hwx) ?_ (List.Sublist.refl _)
    · have := hpa j hj
      dsimp only
      split <;> omega
    · dsimp only
      split <;> omega
    · exact lsub_cons (by with_unfolding_all rfl) (lsub_cons (by with_unfolding_all rfl) (lsub_cons (by with_unfolding_all rfl) (lsub_cons (by with_unfolding_all rfl) (lsub_cons (by with_unfolding_all rfl) (lsub_cons (by with_unfolding_all rfl) lsub_nil)))))
theorem law_D {R : Ld} {px rx fx wx b dx : Addr} {S : BS} {root : Nat} {X : PO} {tot : Int} {w : World} {A : Around} {h₀ : Heap} {L : Addr} {mg mb : Str → Option Value} {os : OsState} {gens : Array GenState} {k : Nat} {K : Fl → Lc → Ld → Prop} (hk : 9 ≤ k)
    (ho : S.ok) (hma : Pz S.ma) (h4 : 4 ≤ S.ma) (ht : S.tl.length ≤ 2 ^ 12) (hr : root ≤ S.tl.length)
    (h : ∀ nm sz ox Q, R.Sublist Q → (ox, PO.ba (finT S.ma nm sz S.tl root)) ∈ Q →
      Bl (lawC w A h₀ L mg mb os gens k) [("begin", .i (p1 sz : Nat)), ("octets", .v (.ref ox)), ("named", .v (.bool nm)), ("sized", .v (.bool sz)), ("one", .v (.ref fx)), ("worths", .v (.ref wx)), ("rows", .v (.ref rx)), ("parts", .v (.ref px))] Q ((dBody (topD 55)).drop 16) K) :
    Bl (lawC w A h₀ L mg mb os gens k) [("root", .i (root : Nat)), ("one", .v (.ref fx)), ("worths", .v (.ref wx)), ("rows", .v (.ref rx)), ("parts", .v (.ref px)), ("total", .i tot)] (B b dx S ((L + 1 + 1, .cell (.v (.ref b))) :: (L + 1, X) :: R)) ((dBody (topD 55)).drop 12) K := by
  refine' Bl_unps ["named", "sized"] (Ex_tupE (ps := [.v (.bool (decide (tot / 2 % 2 = 1))), .v (.bool (decide (tot % 2 = 1)))]) (.cons (by with_unfolding_all rfl) (Ev_eq ?e1 ?f1 (by with_unfolding_all rfl)) (.cons (by with_unfolding_all rfl) (Ev_eq ?e2 ?f2 (by with_unfolding_all rfl)) .nil))) (by kernel_rfl) ?k1 (by with_unfolding_all rfl) (by with_unfolding_all rfl)
  case e1 => walk_at "ev"
  case f1 => walk_at "ev"
  case e2 => walk_at "ev"
  case f2 => walk_at "ev"
  refine elA10 ?_; intro tx
  refine ⟨tx, _, rfl, List.mem_append_right _ (.head _), rfl, ?_⟩
  generalize decide (tot / 2 % 2 = 1) = nm
  generalize decide (tot % 2 = 1) = sz
  change Bl _ (([("named", PV.v (.bool nm)), ("sized", PV.v (.bool sz))] : Lc) ++ _) (B b dx S ((L + 1 + 1, .cell (.v (.ref b))) :: (L + 1, X) :: (R ++ [(tx, .sq "tuple" [.v (.bool nm), .v (.bool sz)])]))) _ _
  have b1 : R.Sublist (R ++ [(tx, PO.sq "tuple" [.v (.bool nm), .v (.bool sz)])]) := List.sublist_append_left _ _
  generalize R ++ [(tx, PO.sq "tuple" [.v (.bool nm), .v (.bool sz)])] = R1 at *
  have mb1 : ∀ S : BS, (L + 1 + 1, PO.cell (.v (.ref b))) ∈ B b dx S ((L + 1 + 1, .cell (.v (.ref b))) :: (L + 1, X) :: R1) := fun S => .tail _ (.tail _ (.tail _ (.head _)))
  refine' Bl_if3 [("named", .v (.bool nm)), ("sized", .v (.bool sz)), ("one", .v (.ref fx)), ("worths", .v (.ref wx)), ("rows", .v (.ref rx)), ("parts", .v (.ref px))]
    (fun D => ∃ d jk, (jk ++ finT S.ma nm sz S.tl root).length ≤ 2 ^ 18 ∧ D = B b dx { S with d := d, jk := jk, fi := true, tl := finT S.ma nm sz S.tl root } ((L + 1 + 1, .cell (.v (.ref b))) :: (L + 1, X) :: R1)) (Tr_ev ?e3 th_bool) ?a3 ?b3 ?k3
  case e3 => walk_at "ev"
  case a3 =>
    intro q; subst q
    refine' Bl_ex (Ex_m2 (fn_FinishSize (S := S) (nm := nm) (root := root) hma h4 ho (by omega) hr) (Ea_cell (c := L + 1 + 1) (by with_unfolding_all rfl) (mb1 _) (by kernel_rfl) (by decide)) (.head _) (.tail _ (.head _)) m507 (by kernel_rfl) (by walk_at "side") ?e4 (Ev_ite (Tr_ev ?e5 th_bool) ?a5 ?b5)) ?k4 (by kernel_rfl) (by with_unfolding_all rfl)
    case e4 => walk_at "ev"
    case e5 => walk_at "ev"
    case a5 => intro q; subst q; exact Ea.ev Ea_bytes
    case b5 => intro q; subst q; exact Ea.ev Ea_none
    refine elH22 ?_; intro p d jk hp h1
    refine ⟨hp, Bl_nil ⟨rfl, ?_, d, jk, h1, rfl⟩⟩
    exact lsub_cons (by with_unfolding_all rfl) (lsub_cons (by with_unfolding_all rfl) (lsub_cons (by with_unfolding_all rfl) (lsub_cons (by with_unfolding_all rfl) (lsub_cons (by with_unfolding_all rfl) (lsub_cons (by with_unfolding_all rfl) lsub_nil)))))
  case b3 =>
    intro q; subst q
    refine' Bl_ex (Ex_m2 (fn_Finish (S := S) (nm := nm) (root := root) hma h4 ho (by omega) hr) (Ea_cell (c := L + 1 + 1) (by with_unfolding_all rfl) (mb1 _) (by kernel_rfl) (by decide)) (.head _) (.tail _ (.head _)) m499 (by kernel_rfl) (by walk_at "side") ?e6 (Ev_ite (Tr_ev ?e7 th_bool) ?a7 ?b7)) ?k6 (by kernel_rfl) (by with_unfolding_all rfl)
    case e6 => walk_at "ev"
    case e7 => walk_at "ev"
    case a7 => intro q; subst q; exact Ea.ev Ea_bytes
    case b7 => intro q; subst q; exact Ea.ev Ea_none
    refine elH22 ?_; intro p d jk hp h1
    refine ⟨hp, Bl_nil ⟨rfl, ?_, d, jk, h1, rfl⟩⟩
    exact lsub_cons (by with_unfolding_all rfl) (lsub_cons (by with_unfolding_all rfl) (lsub_cons (by with_unfolding_all rfl) (lsub_cons (by with_unfolding_all rfl) (lsub_cons (by with_unfolding_all rfl) (lsub_cons (by with_unfolding_all rfl) lsub_nil)))))
  refine elD21 ?_; intro d jk h1
  refine' Bl_asgx (Ex_m0 (fn_Output (S := { S with d := d, jk := jk, fi := true, tl := finT S.ma nm sz S.tl root }) rfl h1) (Ea_cell (c := L + 1 + 1) (by with_unfolding_all rfl) (mb1 _) (by kernel_rfl) (by decide)) (.head _) (.tail _ (.head _)) m349 (by kernel_rfl) (by walk_at "side")) ?k8 (by kernel_rfl)
  refine elA10 ?_; intro ox
  refine' Bl_asg (p := .i (p1 sz : Nat)) (Ev_ite (Tr_ev ?e9 th_bool) ?a9 ?b9) ?k9 (by kernel_rfl)
  case e9 => walk_at "ev"
  case a9 => intro q; subst q; exact Ea.ev Ea_int
  case b9 => intro q; subst q; exact Ea.ev Ea_int
  refine Bl_less (h nm sz ox _ ?_ (List.mem_append_right _ (.head _))) ?_ (List.Sublist.refl _)
  · exact .trans (.cons _ (.cons _ (.cons _ (.cons _ (.cons _ b1))))) (List.sublist_append_left _ _)
  · exact lsub_cons (by with_unfolding_all rfl) (lsub_cons (by with_unfolding_all rfl) (lsub_cons (by with_unfolding_all rfl) (lsub_cons (by with_unfolding_all rfl) (lsub_cons (by with_unfolding_all rfl) (lsub_cons (by with_unfolding_all rfl) (lsub_cons (by with_unfolding_all rfl) (lsub_cons (by with_unfolding_all rfl) lsub_nil)))))))
theorem Tr.cast {C : Cn} {lc : Lc} {ld : Ld} {e : Expr} {c c' : Bool} (h : Tr C lc ld e c) (q : c = c') : Tr C lc ld e c' := q ▸ h
theorem law_E {Q : Ld} {px rx fx wx ox ka qa : Addr} {as : List Addr} {PT : List (List Int)} {F : List UInt8} {nm sz : Bool} {pos vt wh : Nat} {w : World} {A : Around} {h₀ : Heap} {L : Addr} {mg mb : Str → Option Value} {os : OsState} {gens : Array GenState} {k : Nat} (hk : 9 ≤ k) (O : PtOk PT) (W : FinOk F PT nm sz pos vt wh)
    (hpx : (px, PO.sq "list" (as.map fun a => .v (.ref a))) ∈ Q) (hal : as.length = PT.length) (has : ∀ i, i < as.length → (as.getD i 0, PO.sq "list" (zz (PT.getD i []))) ∈ Q) (hrx : (rx, PO.sq "list" ((List.range PT.length).map fun j => .i (offs PT j : Nat))) ∈ Q)
    (hox : (ox, PO.ba F) ∈ Q) (hka : (ka, PO.sq "list" (nz (kds (lastP PT)))) ∈ Q) (hqa : (qa, PO.sq "list" (nz (fFold (kds (lastP PT))).1)) ∈ Q)
    (hfx : (fx, PO.sq "tuple" [.v (.ref ka), .v (.ref qa), .i (lnf (lastP PT) : Nat), .i (alf (lastP PT) : Nat), .i (cnf (lastP PT) : Nat)]) ∈ Q) (hwx : (wx, PO.sq "list" (zz (worths (lastP PT) (kds (lastP PT)) 4))) ∈ Q) :
    Bl (lawC w A h₀ L mg mb os gens k) [("begin", .i (p1 sz : Nat)), ("octets", .v (.ref ox)), ("named", .v (.bool nm)), ("sized", .v (.bool sz)), ("one", .v (.ref fx)), ("worths", .v (.ref wx)), ("rows", .v (.ref rx)), ("parts", .v (.ref px))] Q ((dBody (topD 55)).drop 16)
      (fun fl _ ld' => fl = .ret (.v (.bool true)) ∧ Q.Sublist ld') := by
  have h0 := O.h0
  have h5 := O.h5
  have hl := W.hl
  have hb := W.hb
  have hp1 := p1_le sz
  have hml : (as.map fun a => PV.v (.ref a)).length = as.length := List.length_map _
  have hrxl : ((List.range PT.length).map fun j => PV.i (offs PT j : Nat)).length = PT.length := by rw [List.length_map, List.length_range]
  refine' Bl_if (c := false) ?t1 ?a1 ?b1
  case t1 =>
    have e : ((sz && false) || (nm && false)) = false := by rw [Bool.and_false, Bool.and_false]; rfl
    rw [← e]
    refine' Tr_or2 (Tr_and2 (Tr_ev ?e2 th_bool) fun q => ?f2) fun _ => Tr_and2 (Tr_ev ?g2 th_bool) fun q => ?h2
    case e2 => walk_at "ev"
    case f2 =>
      have e : (!decide (rd F 0 = (F.length : Int) - 4)) = false := by rw [decide_eq_true (W.hsz q)]; rfl
      rw [← e]
      refine' Tr_ne ((Ex_f2 (fn_read (i := 0) hox (by omega) (by omega)) (Ea_glob g863 (by kernel_rfl)) (by walk_at "side") (by intro; kernel_rfl) ?e3 (Ev.cast ?f3 ?q3)).ev fun _ _ h => h) (Ev_sub (Ev_lenba ?e4 hox ?z4 (by kernel_rfl) (by with_unfolding_all rfl)) ?f4) (by with_unfolding_all rfl)
      case e3 => walk_at "ev"
      case f3 => walk_at "ev"
      case q3 => rfl
      case e4 => walk_at "ev"
      case z4 => omega
      case f4 => walk_at "ev"
    case g2 => walk_at "ev"
    case h2 =>
      have hn := W.hnm q
      have e : (laws != laws) = false := by decide
      rw [← e]
      refine' Tr_cmp (a := .y laws) (b := .y laws) (Ex.drop (Ex_bix (f := .type "bytes") (P := fun p ld' => ∃ x, p = .v (.ref x) ∧ ld' = Q ++ [(x, .ba laws)]) (P' := fun p ld' => p = .y laws ∧ ∃ ex, ld' = Q ++ ex) (Ea_bi b_bytes (by kernel_rfl) (by decide) (by kernel_rfl)) ?c5 ?d5) fun _ _ h => h) ?e5 cp_ney (by with_unfolding_all rfl)
      case c5 =>
        refine' (Ex_sba (bs := F) (lo := ((p1 sz + 4 : Nat) : Int)) (hi := ((p1 sz + 8 : Nat) : Int)) ?e6 (Ev.cast (Ev_add ?f6 ?g6) ?q6) (Ev.cast (Ev_add ?h6 ?i6) ?r6) hox (Int.natCast_nonneg _) (by omega) (by omega) (by omega)).mono ?p6
        case e6 => walk_at "ev"
        case f6 => walk_at "ev"
        case g6 => walk_at "ev"
        case q6 => rfl
        case h6 => walk_at "ev"
        case i6 => walk_at "ev"
        case r6 => rfl
        case p6 =>
          refine elA10 ?_; intro x
          refine ⟨x, rfl, ?_⟩
          rw [show (((p1 sz + 8 : Nat) : Int) - ((p1 sz + 4 : Nat) : Int)).toNat = 4 by omega, Int.toNat_natCast, hn]
      case d5 =>
        refine elA10 ?_; intro x
        refine fun ok lc s I vs rs Q' E q => bi_bytes (bs := laws) (List.mem_append_right _ (.head _)) (by decide) ok lc s I vs rs Q' E fun v p ld' s' I' r ⟨a, b⟩ => q v p ld' s' I' r ⟨a, _, b⟩
      case e5 => exact Ea.ev Ea_bytes
  case a1 => intro q; cases q
  case b1 =>
    intro _
    refine Bl_nil ?_
    refine' Bl_asgx (Ex_addl (P' := fun _ _ => True) (xs := [.i 4]) (ys := (List.range PT.length).map fun i => .i (alf (PT.getD i []) : Nat)) (Ex_listE (.cons (by with_unfolding_all rfl) ?e7 .nil)) ?f7 ?z7) ?k7 (by kernel_rfl)
    case e7 => exact Ea.ev Ea_int
    case z7 => rw [List.length_map, List.length_range]; show 1 + _ ≤ _; omega
    case f7 =>
      refine elA10 ?_; intro x
      refine ⟨x, rfl, ?_⟩
      refine' (Ex_compM (fun i => .i (alf (PT.getD i []) : Nat)) (Sc_list (l := px) (xs := as.map fun a => .v (.ref a)) ?e8 (List.mem_append_left _ hpx)) ?n8 ?z8 ?t8 (cl := []) (by with_unfolding_all rfl) (by decide +kernel) (by kernel_rfl) (by decide +kernel) (by kernel_rfl)).mono ?m8
      case e8 => walk_at "ev"
      case n8 => intro z hz; rw [List.mem_singleton.mp hz]; exact List.mem_append_left _ hpx
      case z8 => omega
      case t8 =>
        intro i hi ex h L'
        rw [hml] at hi
        have hp := O.hp i (by omega)
        have hg : (as.map fun a => PV.v (.ref a)).getD i (.v .none) = .v (.ref (as.getD i 0)) := by
          rw [List.getD_eq_getElem?_getD, as_get hi]; rfl
        have hpg := zz_get hp.1
        have hzl := zz_len (PT.getD i [])
        rw [hg]
        refine Ex.drop (P := fun p ld' => p = .i (alf (PT.getD i []) : Nat) ∧ ∃ ex', ld' = (Q ++ [(x, .sq "list" [.i 4])] ++ ex) ++ ex') ?_ fun _ _ h => h
        refine' Ex_it (Ex_f1 (fn_form (n := hd0 (PT.getD i []))) (Ea_glob g839 (by kernel_rfl)) ?k9 (by intro; kernel_rfl) (Ev_itl ?e9 ?f9 ?m9 ?z9 (idx_nat ?i9 hpg))) ?g9
        case k9 => show 1 ≤ k; omega
        case e9 => walk_at "ev"
        case f9 => walk_at "ev"
        case m9 => exact List.mem_append_left _ (List.mem_append_left _ (has i hi))
        case z9 => omega
        case i9 => rfl
        case g9 =>
          refine elA30 ?_; intro a c y
          refine ⟨y, "tuple", _, 3, _, rfl, .inr rfl, List.mem_append_right _ (.tail _ (.tail _ (.head _))), show 5 ≤ 2 ^ 20 by decide, ?_, rfl, rfl, _, rfl⟩
          walk_at "ev"
      case m8 =>
        refine elA10 ?_; intro acc
        rw [hml, hal]
        exact ⟨acc, rfl, List.mem_append_left _ (List.mem_append_right _ (.head _)), List.mem_append_right _ (.head _), _, List.append_assoc ..⟩
    refine elA10 ?_; intro mx
    have hmm : [PV.i 4] ++ (List.range PT.length).map (fun i => PV.i (alf (PT.getD i []) : Nat)) = (4 :: (List.range PT.length).map (fun i => (alf (PT.getD i []) : Int))).map .i := by
      rw [List.map_cons, List.map_map]; rfl
    rw [hmm]
    have hmod : (F.length : Int) % lmax (4 :: (List.range PT.length).map (fun i => (alf (PT.getD i []) : Int))) = 0 ∧ 0 < lmax (4 :: (List.range PT.length).map (fun i => (alf (PT.getD i []) : Int))) := by
      rcases List.mem_cons.mp (lmax_mem (ns := 4 :: (List.range PT.length).map (fun i => (alf (PT.getD i []) : Int))) (by intro e; cases e)) with q | q
      · rw [q]; exact ⟨W.h4, by decide⟩
      · obtain ⟨i, hi, q⟩ := List.mem_map.mp q
        rw [← q]
        exact ⟨W.hal i (List.mem_range.mp hi), Int.lt_of_lt_of_le (by decide) (fAlign_ok (hd0 (PT.getD i []))).1.pos.1⟩
    have b1 : Q.Sublist (Q ++ [(mx, PO.sq "list" ((4 :: (List.range PT.length).map (fun i => (alf (PT.getD i []) : Int))).map .i))]) := List.sublist_append_left _ _
    have hmx : (mx, PO.sq "list" ((4 :: (List.range PT.length).map (fun i => (alf (PT.getD i []) : Int))).map .i)) ∈ Q ++ [(mx, PO.sq "list" ((4 :: (List.range PT.length).map (fun i => (alf (PT.getD i []) : Int))).map .i))] := List.mem_append_right _ (.head _)
    have u1 : ∀ y ∈ Q, y ∈ Q ++ [(mx, PO.sq "list" ((4 :: (List.range PT.length).map (fun i => (alf (PT.getD i []) : Int))).map .i))] := fun y h => List.mem_append_left _ h
    generalize Q ++ [(mx, PO.sq "list" ((4 :: (List.range PT.length).map (fun i => (alf (PT.getD i []) : Int))).map .i))] = Q1 at *
    generalize hms : 4 :: (List.range PT.length).map (fun i => (alf (PT.getD i []) : Int)) = ms at *
    have hm0 : ms ≠ [] := by rw [← hms]; intro e; cases e
    refine' Bl_if (c := false) ?t10 ?a10 ?b10
    case t10 =>
      have e : (!decide ((F.length : Int) % lmax ms = 0)) = false := by rw [decide_eq_true hmod.1]; rfl
      rw [← e]
      refine' Tr_ne (Ev_modp (Ev_lenba ?e11 (u1 _ hox) ?z11 (by kernel_rfl) (by with_unfolding_all rfl)) (Ev_bi1 (Ea_bi b_max (by kernel_rfl) (by decide) (by kernel_rfl)) ?f11 (bi_maxl (ns := ms) hmx hm0)) hmod.2) ?g11 (by with_unfolding_all rfl)
      case e11 => walk_at "ev"
      case z11 => omega
      case f11 => walk_at "ev"
      case g11 => walk_at "ev"
    case a10 => intro q; cases q
    case b10 =>
      intro _
      refine Bl_nil ?_
      refine' Bl_asgx (Ex_cls (P := fun t ld' => ∃ dx, ld' = (t, .ins 816 dx [some (.v (.ref ox)), some (.i pos)]) :: (dx, .raw (dictOf [] 0)) :: Q1) (P₁ := fun ps ld' => ps = [.v (.ref ox), .i pos] ∧ ld' = Q1) (k := 2) (Ea_glob g816 (by kernel_rfl)) (Ag_1 ?e12 (Ag_1 (Ev.cast (Ev_add ?f12 ((Ex_f2 (fn_read (i := p1 sz) (u1 _ hox) (by omega) (by omega)) (Ea_glob g863 (by kernel_rfl)) (by walk_at "side") (by intro; kernel_rfl) ?g12 ?h12).ev fun _ _ h => h)) W.hpos) (Ag_end ⟨rfl, rfl⟩) (by with_unfolding_all rfl)) (by with_unfolding_all rfl)) ?i12 ?j12 mk816) ?k12 (by kernel_rfl)
      case e12 => walk_at "ev"
      case f12 => walk_at "ev"
      case g12 => walk_at "ev"
      case h12 => walk_at "ev"
      case i12 =>
        rintro ps ld' ⟨rfl, rfl⟩ t dx
        have := W.slot.hp
        refine (fn_TInit (d := ox) (n := (pos : Nat)) (Int.natCast_nonneg _) (by omega)).mono (Nat.le_refl _) ?_
        refine elF00 ?_
        exact ⟨rfl, dx, rfl⟩
      case j12 => show 3 ≤ k; omega
      rintro p ld' ⟨t, rfl, dx, rfl⟩
      have T : TbAt ((t, PO.ins 816 dx [some (.v (.ref ox)), some (.i pos)]) :: (dx, .raw (dictOf [] 0)) :: Q1) t dx ox pos F := ⟨.head _, .tail _ (.head _), .tail _ (.tail _ (u1 _ hox)), by omega⟩
      have b2 : Q1.Sublist ((t, PO.ins 816 dx [some (.v (.ref ox)), some (.i pos)]) :: (dx, .raw (dictOf [] 0)) :: Q1) := .cons _ (.cons _ (List.Sublist.refl _))
      have u2 : ∀ y ∈ Q, y ∈ (t, PO.ins 816 dx [some (.v (.ref ox)), some (.i pos)]) :: (dx, .raw (dictOf [] 0)) :: Q1 := fun y h => .tail _ (.tail _ (u1 _ h))
      have b3 := b1.trans b2
      clear b1 b2 u1 hmx
      generalize (t, PO.ins 816 dx [some (.v (.ref ox)), some (.i pos)]) :: (dx, .raw (dictOf [] 0)) :: Q1 = Q2 at *
      clear Q1
      have hpx2 := u2 _ hpx
      have hrx2 := u2 _ hrx
      have hfx2 := u2 _ hfx
      refine' Bl_for (α := Unit) (fun _ _ => [("table", .v (.ref t)), ("octets", .v (.ref ox)), ("one", .v (.ref fx)), ("worths", .v (.ref wx)), ("rows", .v (.ref rx)), ("parts", .v (.ref px))]) (fun _ _ => Q2) (fun _ _ => True)
        (Sc_range (n := PT.length) (Ea_rng (by kernel_rfl)) (Ev.cast (Ev_lenl ?e20 hrx2 ?z20 (by kernel_rfl)) ?q20) ?y20) () trivial ?l20 ?d20 ?n20 ?t20 ?k20
      case e20 => walk_at "ev"
      case z20 => omega
      case q20 => rw [hrxl]
      case y20 => omega
      case l20 => exact lsub_cons (by with_unfolding_all rfl) (lsub_cons (by with_unfolding_all rfl) (lsub_cons (by with_unfolding_all rfl) (lsub_cons (by with_unfolding_all rfl) (lsub_cons (by with_unfolding_all rfl) (lsub_cons (by with_unfolding_all rfl) lsub_nil)))))
      case d20 => rfl
      case n20 => intro _ _ _ _ h; cases h
      case t20 =>
        intro i _ hi _ it o
        have e0 : (0 : Int) + (i : Int) * 1 = i := by omega
        have hp := O.hp i hi
        obtain ⟨vt1, wh1, fs1, RW⟩ := W.rows i hi
        refine ⟨_, _, Sto_loc (by kernel_rfl), ?_⟩
        rw [e0]
        have up : ∀ y ∈ Q2, y ∈ Q2 ++ [(it, o)] := fun y h => List.mem_append_left _ h
        refine' Bl_if (c := false) (Tr_not (c := true) (Tr_ev (p := .v (.bool true)) ((Ex_f4 (fn_rowRight (T.up up) RW (up _ (u2 _ (has i (by omega)))) hp.1 (by omega)) (Ea_glob g875 (by kernel_rfl)) (by walk_at "side") (by intro; kernel_rfl) ?e21 ?f21 ?g21 (Ev_itl ?h21 ?i21 (up _ hpx2) ?z21 (idx_nat ?j21 (as_get (by omega))))).ev fun _ _ h => h) th_bool)) ?a22 ?b22
        case e21 => walk_at "ev"
        case f21 => walk_at "ev"
        case g21 => walk_at "ev"
        case h21 => walk_at "ev"
        case i21 => walk_at "ev"
        case z21 => omega
        case j21 => rfl
        case a22 => intro q; cases q
        case b22 =>
          intro _
          refine Bl_nil (Bl_nil ⟨.inl rfl, (), trivial, ?_, rfl⟩)
          exact lsub_cons (by with_unfolding_all rfl) (lsub_cons (by with_unfolding_all rfl) (lsub_cons (by with_unfolding_all rfl) (lsub_cons (by with_unfolding_all rfl) (lsub_cons (by with_unfolding_all rfl) (lsub_cons (by with_unfolding_all rfl) lsub_nil)))))
      case k20 =>
        intro _ _
        have S := W.slot
        have w1 := S.hp
        have w2 := S.hv1
        have w3 := S.hv3
        have w4 := S.hv2
        have w5 := S.hw0
        have w6 := S.hw1
        refine and3 (formOk (hd0 (lastP PT))) ?_; intro Fo hmw hp0
        refine' Bl_asg (p := .i wh) (Ev.cast ((Ex_m1 (fn_TOffset (v := ((4 + 2 * PT.length : Nat) : Int)) T (Int.natCast_nonneg _) ?a23 S.hv (Int.natCast_nonneg _) ?b23 (Int.natCast_nonneg _) w4 ?c23) ?o23 T.hm T.hd m756 (by kernel_rfl) (by walk_at "side") (Ev.cast (Ev_add ?e23 (Ev_mul ?f23 (Ev.cast (Ev_lenl ?g23 hrx2 ?z23 (by kernel_rfl)) ?h23) ?y23)) ?q23)).ev fun _ _ h => h) S.hw) ?k23 (by kernel_rfl)
        case a23 => omega
        case b23 => omega
        case c23 => omega
        case o23 => walk_at "ea"
        case e23 => walk_at "ev"
        case f23 => walk_at "ev"
        case g23 => walk_at "ev"
        case z23 => omega
        case h23 => rw [hrxl]
        case y23 => right; decide
        case q23 => omega
        have hkm := u2 _ hka
        have hm24 : ((pos : Int) + wh) % mwid (kds (lastP PT)) = 0 := by have := W.hm; rwa [Int.natCast_add] at this
        have hmp : 1 ≤ mwid (kds (lastP PT)) ∧ mwid (kds (lastP PT)) ≤ 32 := Fo.hz.pos
        refine' Bl_if (c := false) ?t24 ?a24 ?b24
        case t24 =>
          have e : (decide ((wh : Int) = 0) || !decide (((pos : Int) + wh) % mwid (kds (lastP PT)) = 0)) = false := by
            rw [decide_eq_false (by omega), decide_eq_true hm24]; rfl
          refine Tr.cast ?_ e
          refine' Tr_or2 (Tr_eq ?e25 ?f25 (by with_unfolding_all rfl)) (fun _ => Tr_ne (Ev_modp (Ev_add (Ea.ev (Ea_attr ?g25 T.atPos)) ?h25) ?i25 (by omega)) ?j25 (by with_unfolding_all rfl))
          case e25 => walk_at "ev"
          case f25 => walk_at "ev"
          case g25 => walk_at "ea"
          case h25 => walk_at "ev"
          case j25 => walk_at "ev"
          case i25 =>
            have hnl := nz_len (kds (lastP PT))
            have hk3 : (kds (lastP PT)).length ≤ 3 := Fo.h3
            refine' (Ex_bix (f := .builtin "max") (P := fun p ld' => ∃ acc, p = .v (.ref acc) ∧ ld' = Q2 ++ [(acc, .sq "list" (((kds (lastP PT)).map fun k => (wid k : Int)).map .i))])
              (P' := fun p ld' => p = .i (mwid (kds (lastP PT))) ∧ ∃ ex, ld' = Q2 ++ ex) (Ea_bi b_max (by kernel_rfl) (by decide) (by kernel_rfl)) ?c26 ?d26).drop fun _ _ h => h
            case c26 =>
              refine' (Ex_compM (fun i => .i (wid ((kds (lastP PT)).getD i 0) : Nat)) (Sc_list (l := ka) (xs := nz (kds (lastP PT))) (Ev_it5 ?e27 ?f27 hfx2 ?i27) hkm) ?n27 ?z27 ?t27 (cl := []) (by with_unfolding_all rfl) (by decide +kernel) (by kernel_rfl) (by decide +kernel) (by kernel_rfl)).mono ?m27
              case e27 => walk_at "ev"
              case f27 => walk_at "ev"
              case i27 => rfl
              case n27 => intro z hz; rw [List.mem_singleton.mp hz]; exact hkm
              case z27 => omega
              case t27 =>
                intro i hi ex h L'
                rw [nz_get (by omega)]
                generalize (kds (lastP PT)).getD i 0 = kd
                refine' Ev.cast (Ev_pow ?e28 ?f28 ?z28 ?y28 ?x28) (wid_pow kd)
                case e28 => walk_at "ev"
                case f28 => walk_at "ev"
                case z28 => omega
                case y28 => omega
                case x28 => decide
              case m27 =>
                refine elA10 ?_; intro acc
                refine ⟨acc, rfl, ?_⟩
                have : (List.range (nz (kds (lastP PT))).length).map (fun i => PV.i (wid ((kds (lastP PT)).getD i 0) : Nat)) = ((kds (lastP PT)).map fun k => (wid k : Int)).map .i := by
                  rw [hnl, List.map_map]
                  apply List.ext_getElem
                  · simp
                  · intro i h1 h2
                    simp only [List.getElem_map, List.getElem_range, Function.comp]
                    rw [List.getD_eq_getElem?_getD, List.getElem?_eq_getElem (by simpa using h1)]; rfl
                rw [this]
            case d26 =>
              refine elA10 ?_; intro acc
              refine fun ok lc s I vs rs Q' E q => bi_maxl (ns := (kds (lastP PT)).map fun k => (wid k : Int)) (List.mem_append_right _ (.head _)) (by have q : 0 < (kds (lastP PT)).length := Fo.h0; intro e; rw [List.map_eq_nil_iff] at e; rw [e] at q; cases q) ok lc s I vs rs Q' E fun v p ld' s' I' r ⟨a, b⟩ => q v p ld' s' I' r ⟨a, ⟨_, b⟩⟩
        case a24 => intro q; cases q
        case b24 =>
          intro _
          refine Bl_nil ?_
          refine' Bl_retx (Ex_fn (k := 4) (P₁ := fun ps ld' => ps = [.v (.ref ox), .v (.ref t), .i ((pos + wh : Nat) : Int), .v (.ref fx), .v (.ref wx)] ∧ ld' = Q2) (P := fun p ld' => p = .v (.bool true) ∧ ld' = Q2) (Ea_glob g868 (by kernel_rfl))
            (Ag_1 ?e30 (Ag_1 ?f30 (Ag_1 (Ev.cast (b := ((pos + wh : Nat) : Int)) (Ev_add (Ea.ev (Ea_attr ?g30 T.atPos)) ?h30) ?q30) (Ag_1 ?i30 (Ag_1 ?j30 (Ag_end ⟨rfl, rfl⟩) (by with_unfolding_all rfl)) (by with_unfolding_all rfl)) (by with_unfolding_all rfl)) (by with_unfolding_all rfl)) (by with_unfolding_all rfl)) ?r30 (by walk_at "side") (by intro; kernel_rfl) (by with_unfolding_all rfl)) ?k30
          case e30 => walk_at "ev"
          case f30 => walk_at "ev"
          case g30 => walk_at "ea"
          case h30 => walk_at "ev"
          case q30 => rw [Int.natCast_add]
          case i30 => walk_at "ev"
          case j30 => walk_at "ev"
          case r30 =>
            refine elF00 ?_
            exact fn_right (ka := ka) (pa := qa) (al := .i (alf (lastP PT) : Nat)) (cn := .i (cnf (lastP PT) : Nat)) Fo T (u2 _ hox) (by omega) (worths_len (lastP PT) (kds (lastP PT)) 4) W.st hkm (u2 _ hqa) (u2 _ hwx) hfx2
          refine elF00 ?_
          exact ⟨rfl, b3⟩
theorem law_Bl {ld : Ld} {sc : Addr} {ns : List Int} {w : World} {A : Around} {h₀ : Heap} {L : Addr} {mg mb : Str → Option Value} {os : OsState} {gens : Array GenState} {k : Nat} (hk : 9 ≤ k) (hsc : ∃ us : List Value, h₀.IsList sc us.toArray ∧ relL (zz ns) us) (hlen : ns.length ≤ 63) :
    Bl (lawC w A h₀ L mg mb os gens k) [("script", .v (.ref sc))] ((L + 1 + 1, cellO none) :: (L + 1, cellO none) :: ld) (dBody (topD 55)) (fun fl _ ld' => fl = .ret (.v (.bool true)) ∧ ld.Sublist ld') := by
  have hN : (ns.take 30).length ≤ 30 := by rw [List.length_take]; exact Nat.min_le_left _ _
  have O := PTs_ok hN
  refine law_A hsc hlen fun px nx as G hpx hal has => ?_
  generalize PTs (ns.take 30) = PT at *
  refine and3 (sizes PT O.h5) ?_; intro s1 s2 s3
  have htl := tabT_len PT
  have hgo := gap4 (strT PT).length
  have hoo : oOf (strT PT).length = 4 + gap 4 (strT PT).length 0 + (strT PT).length := rfl
  have h5 := O.h5
  refine law_B hk O hpx hal has fun b dx vt d jk ma ve rx hv1 hz hma hpa => ?_
  have c1 : (ld ++ G).Sublist ((ld ++ G) ++ [(rx, PO.sq "list" ((List.range PT.length).map fun j => .i (offs PT j : Nat)))]) := List.sublist_append_left _ _
  have hrx : (rx, PO.sq "list" ((List.range PT.length).map fun j => .i (offs PT j : Nat))) ∈ (ld ++ G) ++ [(rx, PO.sq "list" ((List.range PT.length).map fun j => .i (offs PT j : Nat)))] := List.mem_append_right _ (.head _)
  refine law_C hk O (c1.subset hpx) hal (fun i hi => c1.subset (has i hi)) hrx hv1 hz hma hpa fun S ka qa fx wx R' ho hS hma' h4 hal' hml hsub hka hqa hfx hwx => ?_
  refine law_D hk ho hma' h4 (by rw [hS, htl]; omega) (by rw [hS, htl]; omega) fun nm sz ox Q hQ hox => ?_
  rw [hS] at hox
  obtain ⟨pos, vt', wh, W⟩ := fin_ok (PT := PT) (M := S.ma) nm sz O.h5 hma' h4 hal' hml
  have c2 := c1.trans (hsub.trans hQ)
  refine Bl_mono (law_E hk O W (c2.subset hpx) hal (fun i hi => c2.subset (has i hi)) ((hsub.trans hQ).subset hrx) hox (hQ.subset hka) (hQ.subset hqa) (hQ.subset hfx) (hQ.subset hwx)) ?_
  rintro f l d ⟨rfl, h⟩
  exact ⟨rfl, (List.sublist_append_left ld G).trans (c2.trans h)⟩
/-- the caller's own context: nothing lies below it -/
abbrev Γ0 : Ctx := ⟨.builtin "claim.caller" {}, none, none, [], none⟩
/-- a run from the caller that always returns -/
theorem run_ends {prog : Program} {w : World} {t : Sem Fin} {s : Shared} {G : Value → Shared → Prop} (hz : s.asleep)
    (h : wpN (model prog w) callerA t (fun fin s' => ∃ v, fin = .done (.ret v) ∧ G v s' ∧ AllBare s'.gens) (fun _ _ => False) s) :
    ∃ n v s' s'', schedN (denote table) prog w n (.single s ⟨t, .builtin "claim.caller" {}, default, []⟩) = .halted (.done (.ret v)) s' ∧ PySem.runN (denote table) prog w n s ⟨t, .builtin "claim.caller" {}, default, []⟩ = .halted (.done (.ret v)) s' ∧ s'.forget = s''.forget ∧ G v s'' := by
  have h0 : wp (model prog w) Γ0 t (Sem.finPost (model prog w) Γ0 fun r s' => (∃ v, r = .ok (.ret v) ∧ G v s') ∧ leftWithCleanup s'.gens = false) (fun e _ s' => (∃ v, (Except.error e : Result) = .ok (.ret v) ∧ G v s') ∧ leftWithCleanup s'.gens = false) default s := by
    refine Sem.wp_mono (model prog w) Γ0 t ?_ ?_ default s (h Γ0 default caller_in (by decide) (fun _ hx => nomatch hx))
    · rintro fin p s' ⟨v, rfl, g, b⟩
      exact ⟨⟨v, rfl, g⟩, leftWithCleanup_false_of_bare b⟩
    · exact fun _ _ _ x => x.elim
  obtain ⟨n, r, s', s'', hs, hr, hf, v, rfl, g⟩ := wp_halts_full (R := fun r s' => ∃ v, r = .ok (.ret v) ∧ G v s') hz h0
  exact ⟨n, v, s'', s', hs, hr, hf, g⟩
/-- the head's end: the walk given in the N judgement, nothing raised -/
theorem holdsN {r : OpenRow} {q : Program} {loose : List Str} {Xt : Shared → Bool} {XP : (Str → Option Value) → Heap → Prop} {α : Type} {Yf : Shared → α} {Ya : World → α} {YP : World → Heap → Prop} {d : DefRec} {kwd : List (Str × Expr)} {N : Nat}
    (left : LeftO r.prog q loose Xt Yf Ya N) (hY : ∀ w s, Yf s = Ya w → YP w s.heap) (hYk : ∀ w h h', YP w h → (∀ b o, h.get? b = some o → h'.get? b = some o) → YP w h')
    (hX : ∀ s, Xt s = true → XP (s.heap.nsMap mainGlobals) s.heap) (hXk : ∀ mg h h', XP mg h → (∀ b o, h.get? b = some o → h'.get? b = some o) → XP mg h')
    (hdef : defOf q r.name = some (d, kwd)) (hp : r.prog.theDef r.name = some (d.params, d.body, d.scope)) (hk : kwWritten? d.params.kwonlyargs d.params.kw_defaults = some kwd) (hnr : r.records = []) (hwr : r.writes = false)
    (k1 : r.wellSaid = true) (ok : (chainsOk q && opensWell r.prog && (frees r.toRowW && r.within.isEmpty)) = true) (hb : r.prog.bare) (hw : r.toRowW.promised)
    (walk : ∀ (w : World) (s₀ s₁ : Shared) (mg mb : Str → Option Value), Ground q loose r.records XP w s₀ mg mb s₁.heap → YP w s₁.heap → ∀ (args : List WData) (vs : List Value) (as : List Addr),
      r.toRowW.claim.pre args = true → WData.layableAll args = true → Laid r.records w s₀ s₁ args vs as → sysModules < s₀.heap.objs.size → ∃ f, mg r.name = some f ∧
        wpN (model r.prog w) callerA (PySem.call f vs) (fun v s' => GoodWG r.toRowW.claim (classAt s₀.heap) (ExcName.means s₀.heap) args s₁ (.ok (.ret v)) s') (fun _ _ => False) s₁) : r.Holds := by
  rw [Bool.and_eq_true, Bool.and_eq_true, Bool.and_eq_true] at ok
  obtain ⟨⟨hch, how⟩, hfr, hin⟩ := ok
  obtain ⟨hsame, hu, ha, hap, hmk⟩ := frees_parts hfr
  have hwi : r.toRowW.claim.within = [] := List.isEmpty_iff.mp hin
  have hRf : ∀ h : Heap, RecFacts r.records h := fun h => recFacts_nil hnr
  refine ⟨k1, hw, ⟨hb, how, by show r.makers.map _ = []; rw [hmk]; rfl⟩, hw.witness, fun w => ?_⟩
  have B := left.behind hX hch w
  refine ⟨B.1, fun s' hs' => Classical.byContradiction fun hn1 => ?_⟩
  obtain ⟨s₀, hf, hg0, s, hT, hz, hg, hns, G, y⟩ := B.2 s' hs'
  have hge : s.gens = #[] := Array.eq_empty_of_size_eq_zero (beq_iff_eq.mp hg)
  refine hn1 ⟨s₀, hf, hg0, s, hT, fun n hn => ?_, (hRf s.heap).1, (hRf s.heap).2.1, ?_⟩
  · obtain rfl : n = r.name := by split at hn <;> simp_all
    exact pinned_of_view hns G hdef hp hk
  intro args hpre hlay ord hord
  clear hn1
  refine Classical.byContradiction fun hn1 => ?_
  have G' : Ground q loose r.records XP w s (s.heap.nsMap mainGlobals) (s.heap.nsMap builtinsNs) s.heap := (hRf s.heap).ground G
  obtain ⟨⟨vs, s₁⟩, hl⟩ := Option.isSome_iff_exists.mp (layAllW_isSome (P := w.params) (ord := ord) G'.has args r.args s (pre_splitW hpre).1)
  have kp := layAllW_keeps _ _ _ hl
  have al := layAllW_rest _ _ _ hl
  obtain ⟨as, hrd, hins, hold⟩ := reads_layAllW hord _ _ _ hl hlay s₁.heap (fun _ _ e => e)
  have L : Laid r.records w s s₁ args vs as := ⟨⟨ord, hord, hl⟩, hrd, hins, hold, kp, al.1.trans hge, al.2.2.1⟩
  have G₁ := G'.keeps hXk kp
  obtain ⟨f, hfn, hcall⟩ := walk w s s₁ _ _ G₁ (hYk _ _ _ (hY w s y) kp) args vs as hpre hlay L G'.low
  obtain ⟨n, v, e', e'', hsch, hrun, hfo, gd⟩ := run_ends (G := fun v s' => GoodWG r.toRowW.claim (classAt s.heap) (ExcName.means s.heap) args s₁ (.ok (.ret v)) s') (Shared.asleep_of_life al.2.2.2 hz)
    (N_bind (N_any (wpAny_nsGet G₁.T.g (by rw [hfn]; exact N_bind (N_mono hcall (fun v s' g => N_pure ⟨v, rfl, g, g.2.2.2⟩) fun _ _ x => x)))) : wpN (model r.prog w) callerA (callStub r.name vs).cur _ _ s₁)
  obtain ⟨en, hos, _⟩ := gd.laid (c := r.toRowW.claim) hsame hwi (ident_freeW hu ha hap) L
  obtain ⟨eh, _, _, eo, _⟩ := Shared.forget_eq hfo
  have en := en.congr eh
  refine hn1 ⟨vs, s₁, hl, n, _, e', hsch, ?_, fun _ i x hx => ?_, fun q => ?_, ?_, Shared.rest_eq (eo.trans hos)⟩
  · clear hn1
    refine Classical.byContradiction fun hn1 => ?_
    rcases en with ⟨v', q, d1, d2, d3, d4, d5⟩ | ⟨e, ob, cls, q, _⟩
    · cases q
      exact hn1 (.inl ⟨v, rfl, d1, d2, d3, fun b o hb' _ => d4 b o hb', d5⟩)
    · cases q
  · rw [hge] at hx; simp at hx
  · rw [hwr] at q; cases q
  · rw [runN_life _ _ _ hrun, al.2.2.2]
theorem room0 : Room callerA 10 := ⟨by decide, by decide, rfl, rfl⟩
theorem bind880 (P : Params) (v : Value) : bindArgs (fnOf "law" "law" (dArgs (topD 55)) (dBody (topD 55)) (dScope (topD 55)) .none .none .none (.str "law_af0003_01" 1524) none (.ref 879) .none) ⟨[v], []⟩ = pure ([(("script" : Str), v)]) := rfl
theorem enter_law {w : World} {s : Shared} {a : Addr} {ns : List Int} {mg mb : Str → Option Value} {Q : Value → Shared → Prop} {E : Value → Shared → Prop} (X : KIn w s.heap) (T : TR mg mb s.heap) (hob : ∃ us : List Value, s.heap.IsList a us.toArray ∧ relL (zz ns) us) (hlen : ns.length ≤ 63)
    (hQ : ∀ s' : Shared, (∀ b o, s.heap.get? b = some o → s'.heap.get? b = some o) → s'.os = s.os → s'.gens = s.gens → Q (.bool true) s') : wpN (model pw w) callerA (PySem.call (.ref 880) [.ref a]) Q E s := by
  refine N_call ?_
  refine codeN_call_function room0.lt (X _ _ (f880 _)) rfl (by kernel_rfl) (by kernel_rfl) rfl (codeRec_of X (c880 _)) (BindsTo.of_eq (bind880 w.params (.ref a)) _ _ _ _ ?_)
  have hloc : ([(("script" : Str), Value.ref a)].all fun y => (dScope (topD 55)).names.lookup y.1 == some .local || (dScope (topD 55)).names.lookup y.1 == some .cell) = true := by kernel_rfl
  refine wpAny_newFunctionEnv_cells (by kernel_rfl) (kindsX hloc _) fun env' he s' x => ?_
  subst he
  refine ⟨T.nolimit.keeps x.toInCall.keep, codeN_func ?_⟩
  obtain ⟨h₁, tk, rfl, _⟩ := x.done
  have hk₁ := x.toInCall.keep
  obtain ⟨cells, NC, Y⟩ := Cl.news (h₀ := s.heap) (Nat.le_refl _) fun n c hm => ⟨x.cell n c (lookup_of_mem_nodup (cellsFrom_names (dScope (topD 55)).names 0 (s.heap.objs.size + 1) [] [] rfl ▸ (show ((cellsFrom 0 (dScope (topD 55)).names []).map (·.1)).Nodup by decide +kernel)) hm), x.above n c hm⟩
  have RM : Room callerA (9 + 1) := room0
  have ok' : Cn.Ok (lawC w (callerA.deeper (envOfC "law" (dScope (topD 55)) s.heap.objs.size 880 (.ref 879))) s.heap s.heap.objs.size mg mb s.os s.gens 9) := ⟨X, T, RM.down, by kernel_rfl⟩
  have HC : relH [(s.heap.objs.size + 1 + 1, cellO none), (s.heap.objs.size + 1, cellO none)] cells := by
    have hv : relL [PV.v (.ref a)] [Value.ref a] := ⟨rfl, trivial⟩
    have hkeys : (((["script"] : List Str).zip [Value.ref a]).map (·.1)).Nodup := List.Sublist.nodup (zip_keys ["script"] [Value.ref a]) (by decide)
    have HC' : relH (cellLd (cellsFrom (s.heap.objs.size + 1) (dScope (topD 55)).names []) (cellV (dScope (topD 55)) ["script"] [.v (.ref a)])) cells := cells_rel (fun n => by
      show relE _ (bindC _ ((["script"] : List Str).zip [Value.ref a]) _ n)
      rw [bindC_get _ _ _ _ hkeys, Option.or_none]
      unfold cellV
      show relE _ (if (dScope (topD 55)).names.lookup n = some .local then none else ((["script"] : List Str).zip [Value.ref a]).lookup n)
      by_cases q : (dScope (topD 55)).names.lookup n = some .local
      · rw [if_pos q, if_pos q]; exact trivial
      · rw [if_neg q, if_neg q]; exact zip_get hv n) Y
    with_unfolding_all exact HC'
  have hB := law_Bl (ld := []) (w := w) (A := callerA.deeper (envOfC "law" (dScope (topD 55)) s.heap.objs.size 880 (.ref 879))) (h₀ := s.heap) (L := s.heap.objs.size) (mg := mg) (mb := mb) (os := s.os) (gens := s.gens) (k := 9) (Nat.le_refl _) hob hlen
  refine hB ok' { s with heap := h₁, toks := tk } ⟨⟨_, cells, ⟨x.toInCall.ns, hk₁, Nat.le_refl _⟩, NC, HC, fun y p hy => ?_⟩, ?_, rfl, rfl⟩ _ _ ?_
  · have hkeys : (((["script"] : List Str).zip [Value.ref a]).map (·.1)).Nodup := List.Sublist.nodup (zip_keys ["script"] [Value.ref a]) (by decide)
    have hys : y = "script" ∧ p = .v (.ref a) := by
      rw [List.lookup_cons] at hy
      cases hx : y == "script" with
      | true => rw [hx] at hy; cases hy; exact ⟨beq_iff_eq.mp hx, rfl⟩
      | false => rw [hx] at hy; cases hy
    obtain ⟨rfl, rfl⟩ := hys
    refine ⟨.ref a, ?_, rfl⟩
    show bindL _ ((["script"] : List Str).zip [Value.ref a]) _ _ = _
    rw [bindL_get _ _ _ _ hkeys, Option.or_none]
    exact if_pos (by kernel_rfl)
  · show [s.heap.objs.size + 1 + 1, s.heap.objs.size + 1].Nodup
    simp
  · rintro fl fa lc' ld' s' I' rf ⟨rfl, _⟩
    refine St.el I' fun m' news' F' N' H' l' nd' os' gens' => ?_
    cases fl <;> first | exact rf.elim | skip
    have rf : _ = _ := rf
    subst rf
    exact hQ s' F'.keep os' gens'
theorem ints_of {R : WRecords} : ∀ {xs : List WData}, WShape.hasItems R xs .int = true → ∃ ns : List Int, xs = ns.map .int
  | [], _ => ⟨[], rfl⟩
  | x :: xs, h => by
    have h' := Bool.and_eq_true_iff.mp (show (WShape.has R x .int && WShape.hasItems R xs .int) = true by rw [← h]; with_unfolding_all rfl)
    obtain ⟨ns, rfl⟩ := ints_of h'.2
    obtain ⟨n, rfl⟩ := hasW_int h'.1
    exact ⟨n :: ns, rfl⟩
theorem ints_read {R : WRecords} {cl : Str → Option Addr} {h : Heap} : ∀ {ns : List Int} {vs : List Value} {as : List Addr}, ReadsAllW R cl h vs (ns.map .int) as → relL (zz ns) vs
  | [], _, _, r => by cases r; exact trivial
  | n :: ns, _, _, r => by
    cases r with
    | cons a b =>
      cases a with
      | int i t => exact ⟨⟨t, rfl⟩, ints_read b⟩
theorem walk0 (w : World) (s₀ s₁ : Shared) (mg mb : Str → Option Value) (G : Ground q0 loose0 PySem.Challenge.rw_af0003_01.row.records (XL q0 []) w s₀ mg mb s₁.heap) (X : KIn w s₁.heap) (args : List WData) (vs : List Value) (as : List Addr)
    (hpre : PySem.Challenge.rw_af0003_01.row.toRowW.claim.pre args = true) (hlay : WData.layableAll args = true) (L : Laid PySem.Challenge.rw_af0003_01.row.records w s₀ s₁ args vs as) : ∃ f, mg PySem.Challenge.rw_af0003_01.row.name = some f ∧
      wpN (model PySem.Challenge.rw_af0003_01.row.prog w) callerA (PySem.call f vs) (fun v s' => GoodWG PySem.Challenge.rw_af0003_01.row.toRowW.claim (classAt s₀.heap) (ExcName.means s₀.heap) args s₁ (.ok (.ret v)) s') (fun _ _ => False) s₁ := by
  have T : TR mg mb s₁.heap := topRead_of G.T
  obtain ⟨h1, h2⟩ := pre_splitW hpre
  obtain ⟨d, r, rfl, hd, hr⟩ := hasAllW_cons (e := .list .int) (es := []) h1
  obtain rfl := hasAllW_nil hr
  obtain ⟨xs, rfl, hi⟩ := hasW_list hd
  obtain ⟨ns, rfl⟩ := ints_of hi
  have hlen : ns.length ≤ 63 := by
    have e2 : ∀ c : Bool, WTm.holds PySem.Challenge.rw_af0003_01.row.toRowW.records (.and (.not (.lit (.bool c))) (.lit (.bool true))) { args := [] } = !c := fun c => by cases c <;> kernel_rfl
    have e3 : WTm.holds PySem.Challenge.rw_af0003_01.row.toRowW.records PySem.Challenge.rw_af0003_01.row.toRowW.pre { args := [.list (ns.map .int)] } = !decide ((63 : Int) < ((ns.map WData.int).length : Nat)) := (by kernel_rfl : _ = _).trans (e2 (decide ((63 : Int) < ((ns.map WData.int).length : Nat))))
    rw [e3] at h2
    cases hq : decide ((63 : Int) < ((ns.map WData.int).length : Nat)) with
    | true => rw [hq] at h2; cases h2
    | false =>
      have := of_decide_eq_false hq
      rw [List.length_map] at this
      omega
  have hrd := L.reads
  cases hrd with
  | cons ra rb =>
    cases rb
    obtain ⟨a, us, as', rfl, hl, rs, rfl⟩ := readsW_list_inv ra
    refine ⟨.ref 880, mg_of X T.g (g880 _), ?_⟩
    refine enter_law X T (ns := ns) ⟨us.toList, hl, ints_read rs⟩ hlen fun s' hk ho hg => ?_
    refine ⟨.inl ⟨_, .bool true, [], rfl, fun _ => rfl, .bool true, ?_, fun _ => ⟨List.nodup_nil, fun _ h => nomatch h⟩⟩, .of_keep hk, ho, .of_eq (hg.trans L.gens)⟩
    show (WShape.has PySem.Challenge.rw_af0003_01.row.toRowW.records (.bool true) .bool && WTm.holds PySem.Challenge.rw_af0003_01.row.toRowW.records (.eq .res (.lit (.bool true))) { args := [.list (ns.map .int)], res := some (.bool true), after := [.list (ns.map .int)] }) = true
    refine Bool.and_eq_true_iff.mpr ⟨?_, ?_⟩
    · show WShape.has _ (.bool true) .bool = true
      kernel_rfl
    · show WTm.holds _ (.eq .res (.lit (.bool true))) _ = true
      kernel_rfl
/-- each look at the law a small check of its own -/
theorem ws : PySem.Challenge.rw_af0003_01.wellSaid = true := by
  rw [PySem.W.Fast.te9446332074065402090]
  delta PySem.W.Fast.tw9446332074065402090
  repeat' (with_reducible refine look_both ?_ ?_)
  all_goals try delta PySem.W.Fast.tw17960256430627541270
  all_goals repeat' (with_reducible refine look_both ?_ ?_)
  all_goals try delta PySem.W.Fast.tw2436336058641802641
  all_goals repeat' (with_reducible refine look_both ?_ ?_)
  all_goals try delta PySem.W.Fast.tw12908688711261696721
  all_goals repeat' (with_reducible refine look_both ?_ ?_)
  all_goals decide +kernel
end Mine
open Mine
set_option maxHeartbeats 8000000 in
theorem PySem.Challenge.cw_af0003_01_holds : PySem.Challenge.rw_af0003_01.Holds := by
  w_on
  refine holds_law ws fun said => ?_
  refine holdsN (q := q0) (loose := loose0) (Xt := Xt0) (XP := XL q0 []) (Yf := Hook.obs kH) (Ya := Hook.val kH) (YP := Hook.says kH) (N := 16000) left0 (Hook.of kH) (Hook.keeps kH) (fun s e => xl_of s (Bool.and_eq_true_iff.mp e).1) XL.keeps (by rfl) (by rfl) (by rfl) (by rfl) (by rfl) (by assumption) (by decide +kernel) ⟨rfl, rfl, rfl, rfl, rfl, by decide +kernel⟩ ?hw ?hc
  case hw => w_witness2
  case hc =>
    intro w s₀ s₁ mg mb G Y args vs as hpre hlay L low
    exact walk0 w s₀ s₁ mg mb G (kIn_of Y) args vs as hpre hlay L
