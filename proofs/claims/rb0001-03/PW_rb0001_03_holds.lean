import PyProof.Rows.All
import Wide.All
import OpenK.AllK
import Wide.FinOn
import PySem.Challenge.RW_rb0001_03
set_option Elab.async false
section
open PySem PySem.W PyProof.Rows PySem.Calls PySem.Spec
set_option Elab.async false
set_option maxRecDepth 100000
set_option maxHeartbeats 0
namespace Mine
abbrev PM : Program := PySem.Challenge.pw_rb0001_03
noncomputable def hdLoose : List Str := [Str.ofString "asciiLetters", Str.ofString "digits", Str.ofString "hexDigits", Str.ofString "entities", Str.ofString "replacementCharacters", Str.ofString "tokenTypes", Str.ofString "tagTokenTypes", Str.ofString "HTMLUnicodeInputStream", Str.ofString "bisect_left", Str.ofString "entitiesTrie", Str.ofString "HTMLTokenizer", Str.ofString "_law_PIECES"]
noncomputable def hdLv : List (Str × WData) := [(Str.ofString "asciiLetters", .tuple [.str ⟨#[97]⟩, .str ⟨#[98]⟩, .str ⟨#[99]⟩, .str ⟨#[100]⟩, .str ⟨#[101]⟩, .str ⟨#[102]⟩, .str ⟨#[103]⟩, .str ⟨#[104]⟩, .str ⟨#[105]⟩, .str ⟨#[106]⟩, .str ⟨#[107]⟩, .str ⟨#[108]⟩, .str ⟨#[109]⟩, .str ⟨#[110]⟩, .str ⟨#[111]⟩, .str ⟨#[112]⟩, .str ⟨#[113]⟩, .str ⟨#[114]⟩, .str ⟨#[115]⟩, .str ⟨#[116]⟩, .str ⟨#[117]⟩, .str ⟨#[118]⟩, .str ⟨#[119]⟩, .str ⟨#[120]⟩, .str ⟨#[121]⟩, .str ⟨#[122]⟩, .str ⟨#[65]⟩, .str ⟨#[66]⟩, .str ⟨#[67]⟩, .str ⟨#[68]⟩, .str ⟨#[69]⟩, .str ⟨#[70]⟩, .str ⟨#[71]⟩, .str ⟨#[72]⟩, .str ⟨#[73]⟩, .str ⟨#[74]⟩, .str ⟨#[75]⟩, .str ⟨#[76]⟩, .str ⟨#[77]⟩, .str ⟨#[78]⟩, .str ⟨#[79]⟩, .str ⟨#[80]⟩, .str ⟨#[81]⟩, .str ⟨#[82]⟩, .str ⟨#[83]⟩, .str ⟨#[84]⟩, .str ⟨#[85]⟩, .str ⟨#[86]⟩, .str ⟨#[87]⟩, .str ⟨#[88]⟩, .str ⟨#[89]⟩, .str ⟨#[90]⟩]), (Str.ofString "digits", .tuple [.str ⟨#[48]⟩, .str ⟨#[49]⟩, .str ⟨#[50]⟩, .str ⟨#[51]⟩, .str ⟨#[52]⟩, .str ⟨#[53]⟩, .str ⟨#[54]⟩, .str ⟨#[55]⟩, .str ⟨#[56]⟩, .str ⟨#[57]⟩]), (Str.ofString "hexDigits", .tuple [.str ⟨#[48]⟩, .str ⟨#[49]⟩, .str ⟨#[50]⟩, .str ⟨#[51]⟩, .str ⟨#[52]⟩, .str ⟨#[53]⟩, .str ⟨#[54]⟩, .str ⟨#[55]⟩, .str ⟨#[56]⟩, .str ⟨#[57]⟩, .str ⟨#[97]⟩, .str ⟨#[98]⟩, .str ⟨#[99]⟩, .str ⟨#[100]⟩, .str ⟨#[101]⟩, .str ⟨#[102]⟩, .str ⟨#[65]⟩, .str ⟨#[66]⟩, .str ⟨#[67]⟩, .str ⟨#[68]⟩, .str ⟨#[69]⟩, .str ⟨#[70]⟩]), (Str.ofString "tagTokenTypes", .tuple [.int 3, .int 4, .int 5])]
noncomputable def runT (tb : String → Option Builtin) (p : Program) (w : World) (n₀ : Nat) (ann : Option Value) (n : Nat) : SharedT → Thread → Option SharedT :=
  @Nat.rec (fun _ => SharedT → Thread → Option SharedT) (fun _ _ => none) (fun _ ih s t => match through t with
    | true => some s
    | false => match stepOk n₀ ann t with
      | false => none
      | true => match stepT (denote tb) p w s t with
        | some r => ih r.1 r.2
        | none => none) n
theorem run_top {tb : String → Option Builtin} {p : Program} {w : World} {n₀ : Nat} {ann : Option Value} : ∀ {n : Nat} {s s' : SharedT} {t : Thread}, runT tb p w n₀ ann n s t = some s' → topRun tb p w n₀ ann n s.abs t = some s'.abs
  | 0, _, _, _, h => by cases h
  | n + 1, s, s', t, h => by
    have h' : (match through t with
      | true => some s
      | false => match stepOk n₀ ann t with
        | false => none
        | true => match stepT (denote tb) p w s t with
          | some r => runT tb p w n₀ ann n r.1 r.2
          | none => none) = some s' := h
    unfold topRun
    cases ht : through t with
    | true => rw [ht] at h'; cases h'; rfl
    | false =>
      rw [ht] at h'
      cases hk : stepOk n₀ ann t with
      | false => rw [hk] at h'; cases h'
      | true =>
        rw [hk] at h'
        cases hs : stepT (denote tb) p w s t with
        | none => rw [hs] at h'; cases h'
        | some r => rw [hs] at h'; obtain ⟨s₂, t₂⟩ := r; rw [stepT_spec hs]; exact run_top h'
noncomputable def bootT (P : Params) : BT := (boot_heap P).objs.toList.zipIdx.foldl (fun t x => t.ins x.2 x.1) .nil
noncomputable def S0 (w : World) (os : OsState) : SharedT := ⟨bootT w.params, (boot_heap w.params).objs.size, (boot_heap w.params).life, Array.mk [], boot_drawn, boot_toks, os⟩
theorem S0_abs (w : World) (os : OsState) : (S0 w os).abs = ⟨boot_heap w.params, Array.mk [], boot_drawn, boot_toks, os⟩ := by kernel_rfl
noncomputable abbrev seeOk (p : Program) (P : Params) (s : Shared) : Bool := staticsOk (importedModules p.main.body) (boot_heap P) s.heap && namesBound p s.heap && gensDone s && laidKept (boot_heap P) s.heap
def seeT (as : List Addr) (s : SharedT) : List (Option Obj) := as.map fun a => match Nat.blt a s.n with
  | true => (s.tree.get a).bind alive
  | false => none
theorem seeT_get (s : SharedT) : ∀ (as : List Addr) (l : Frag), seeT as s = l.map (fun p => some p.2) → as.map s.abs.heap.get? = l.map fun p => some p.2
  | [], [], _ => rfl
  | [], _ :: _, h => by cases h
  | _ :: _, [], h => by cases h
  | a :: as, p :: l, h => by
    have h' : (match Nat.blt a s.n with | true => (s.tree.get a).bind alive | false => none) :: seeT as s = some p.2 :: l.map (fun p => some p.2) := h
    injection h' with h1 h2
    refine List.cons_eq_cons.mpr ⟨?_, seeT_get s as l h2⟩
    cases e : Nat.blt a s.n with
    | false => rw [e] at h1; cases h1
    | true =>
      rw [e] at h1
      obtain ⟨o, g, al⟩ := Option.bind_eq_some_iff.mp h1
      exact (abs_get (Nat.le_of_ble_eq_true e) g).trans al
theorem left_of {p q : Program} {loose : List Str} {Xt : Shared → Bool} {N m₀ : Nat} {ann : Option Value} {KK : Params → Frag} {as : List Addr} {ea : ∀ P, as = (KK P).map (·.1)}
    (op : ∀ w : World, (fencedOpening treeTable p w N).map (fun s => (s.heap, s.gens, s.drawn, s.toks)) = some (boot_heap w.params, Array.mk [], boot_drawn, boot_toks))
    (sz : ∀ w : World, ((boot_heap w.params).isNs mainGlobals, (boot_heap w.params).objs.size, (boot_heap w.params).nsMap mainGlobals (Str.ofString "__annotations__")) = (true, m₀, ann))
    (run : ∀ (w : World), (fun os => (runT treeTable p w m₀ ann N (S0 w os) (topStub p)).map (fun s => (seeOk p w.params s.abs, openSeen q loose (importedModules p.main.body) Xt true s.abs, seeT as s))) = fun _ => some (true, openGood q loose, (KK w.params).map fun p => some p.2)) :
    LeftO p q loose Xt (kHook KK as ea).obs (kHook KK as ea).val N := fun w => by
  obtain ⟨⟨h, gs, d, k, os⟩, e, e'⟩ := Option.map_eq_some_iff.mp (op w)
  obtain ⟨rfl, rfl, rfl, rfl⟩ : h = boot_heap w.params ∧ gs = Array.mk [] ∧ d = boot_drawn ∧ k = boot_toks := by simpa using e'
  obtain ⟨z1, z2, z3⟩ : _ ∧ _ ∧ _ := by simpa only [Prod.mk.injEq] using sz w
  obtain ⟨s1, hr, hv⟩ := Option.map_eq_some_iff.mp (congrFun (run w) os)
  have r := run_top hr
  rw [S0_abs] at r
  obtain ⟨l1, l2, l3⟩ : _ ∧ _ ∧ _ := by simpa only [Prod.mk.injEq] using hv
  have t : topFrom treeTable p w N ⟨boot_heap w.params, Array.mk [], boot_drawn, boot_toks, os⟩ = some s1.abs := by
    unfold topFrom
    dsimp only
    have z1' : ((boot_heap w.params).isNs mainGlobals && (Array.mk ([] : List GenState)).size == 0) = true := by rw [z1]; rfl
    rw [z1', z2]
    have z3' : (boot_heap w.params).nsMap mainGlobals "__annotations__" = ann := z3
    rw [z3', r]
    show (match staticsOk (importedModules p.main.body) (boot_heap w.params) s1.abs.heap && namesBound p s1.abs.heap && gensDone s1.abs && laidKept (boot_heap w.params) s1.abs.heap with | true => _ | false => _) = _
    have l1' : (staticsOk (importedModules p.main.body) (boot_heap w.params) s1.abs.heap && namesBound p s1.abs.heap && gensDone s1.abs && laidKept (boot_heap w.params) s1.abs.heap) = true := l1
    rw [l1']
  unfold openEnds
  rw [e]
  show (topFrom treeTable p w N _).map _ = _
  rw [t]
  exact congrArg some (Prod.ext l2 (seeT_get _ _ _ l3))
end Mine


namespace Mine
def stAt (i : Nat) : Stmt := (PM.main.body[i]?).getD (.Pass ⟨0, 0, 0, 0⟩)
def mtAt (i j : Nat) : Stmt := match stAt i with
  | .ClassDef _ _ _ b .. => (b[j]?).getD (.Pass ⟨0, 0, 0, 0⟩)
  | s => s
def fnObj (s : Stmt) (qual : String) (dV pm : Value) (cd : Nat) : Obj := match s with
  | .FunctionDef n a b _ _ _ sc _ _ _ => ⟨.type "function", none, .func ⟨n, Str.ofString qual, a, .stmts b, sc, 3, [], dV, .none, .none, pm, none, .ref cd, .none, 0⟩, #[]⟩
  | _ => ⟨.none, none, .plain, #[]⟩
noncomputable def K : Params → Frag := fun P =>
(nat_lit 2, { cls := Value.none, data := Data.dict #[] }) ::
  (nat_lit 3, { cls := Value.type "dict", data := Data.dict #[{ hash := PyData.keyHash P (Str.ofString "__name__"), key := Value.str (Str.ofString "__name__") 165, val := Value.str (Str.ofString "law_rb0001_03") 1444 }, { hash := PyData.keyHash P (Str.ofString "__doc__"), key := Value.str (Str.ofString "__doc__") 166, val := Value.none }, { hash := PyData.keyHash P (Str.ofString "__package__"), key := Value.str (Str.ofString "__package__") 167, val := Value.none }, { hash := PyData.keyHash P (Str.ofString "__loader__"), key := Value.str (Str.ofString "__loader__") 168, val := Value.builtin "__main__.__loader__#opaque" }, { hash := PyData.keyHash P (Str.ofString "__spec__"), key := Value.str (Str.ofString "__spec__") 169, val := Value.none }, { hash := PyData.keyHash P (Str.ofString "__annotations__"), key := Value.str (Str.ofString "__annotations__") 170, val := Value.ref 6 }, { hash := PyData.keyHash P (Str.ofString "__builtins__"), key := Value.str (Str.ofString "__builtins__") 171, val := Value.ref 4 }, { hash := PyData.keyHash P (Str.ofString "__file__"), key := Value.str (Str.ofString "__file__") 173, val := Value.str (Str.ofString "/claim/cut.py") 172 }, { hash := PyData.keyHash P (Str.ofString "__cached__"), key := Value.str (Str.ofString "__cached__") 174, val := Value.none }, { hash := PyData.keyHash P (Str.ofString "_wall"), key := Value.str (Str.ofString "_wall") 193, val := Value.ref 21 }, { hash := PyData.keyHash P (Str.ofString "EOF"), key := Value.str (Str.ofString "EOF") 196, val := Value.none }, { hash := PyData.keyHash P (Str.ofString "spaceCharacters"), key := Value.str (Str.ofString "spaceCharacters") 202, val := Value.ref 22 }, { hash := PyData.keyHash P (Str.ofString "asciiLetters"), key := Value.str (Str.ofString "asciiLetters") 256, val := Value.ref 27 }, { hash := PyData.keyHash P (Str.ofString "digits"), key := Value.str (Str.ofString "digits") 268, val := Value.ref 32 }, { hash := PyData.keyHash P (Str.ofString "hexDigits"), key := Value.str (Str.ofString "hexDigits") 292, val := Value.ref 37 }, { hash := PyData.keyHash P (Str.ofString "asciiLower"), key := Value.str (Str.ofString "asciiLower") 298, val := Value.ref 42 }, { hash := PyData.keyHash P (Str.ofString "entities"), key := Value.str (Str.ofString "entities") 428, val := Value.ref 43 }, { hash := PyData.keyHash P (Str.ofString "replacementCharacters"), key := Value.str (Str.ofString "replacementCharacters") 531, val := Value.ref 46 }, { hash := PyData.keyHash P (Str.ofString "tokenTypes"), key := Value.str (Str.ofString "tokenTypes") 556, val := Value.ref 48 }, { hash := PyData.keyHash P (Str.ofString "tagTokenTypes"), key := Value.str (Str.ofString "tagTokenTypes") 563, val := Value.ref 49 }, { hash := PyData.keyHash P (Str.ofString "Text"), key := Value.str (Str.ofString "Text") 604, val := Value.ref 73 }, { hash := PyData.keyHash P (Str.ofString "_is_invalid"), key := Value.str (Str.ofString "_is_invalid") 611, val := Value.ref 84 }, { hash := PyData.keyHash P (Str.ofString "HTMLUnicodeInputStream"), key := Value.str (Str.ofString "HTMLUnicodeInputStream") 737, val := Value.ref 166 }, { hash := PyData.keyHash P (Str.ofString "bisect_left"), key := Value.str (Str.ofString "bisect_left") 751, val := Value.ref 178 }, { hash := PyData.keyHash P (Str.ofString "Trie"), key := Value.str (Str.ofString "Trie") 826, val := Value.ref 230 }, { hash := PyData.keyHash P (Str.ofString "entitiesTrie"), key := Value.str (Str.ofString "entitiesTrie") 843, val := Value.ref 236 }, { hash := PyData.keyHash P (Str.ofString "HTMLTokenizer"), key := Value.str (Str.ofString "HTMLTokenizer") 1443, val := Value.ref 762 }, { hash := PyData.keyHash P (Str.ofString "_law_PIECES"), key := Value.str (Str.ofString "_law_PIECES") 1475, val := Value.ref 767 }, { hash := PyData.keyHash P (Str.ofString "_law_LETTERS"), key := Value.str (Str.ofString "_law_LETTERS") 1477, val := Value.str (Str.ofString "abcdefghijklmnopqrstuvwxyzABCDEFGHIJKLMNOPQRSTUVWXYZ") 1476 }, { hash := PyData.keyHash P (Str.ofString "_law_BLANKS"), key := Value.str (Str.ofString "_law_BLANKS") 1479, val := Value.str (Str.ofString " \t\n\x0c") 1478 }, { hash := PyData.keyHash P (Str.ofString "_law_small"), key := Value.str (Str.ofString "_law_small") 1485, val := Value.ref 772 }, { hash := PyData.keyHash P (Str.ofString "_law_end"), key := Value.str (Str.ofString "_law_end") 1495, val := Value.ref 779 }, { hash := PyData.keyHash P (Str.ofString "_law_spot"), key := Value.str (Str.ofString "_law_spot") 1504, val := Value.ref 786 }, { hash := PyData.keyHash P (Str.ofString "_law_told"), key := Value.str (Str.ofString "_law_told") 1511, val := Value.ref 793 }, { hash := PyData.keyHash P (Str.ofString "_law_tag"), key := Value.str (Str.ofString "_law_tag") 1520, val := Value.ref 800 }, { hash := PyData.keyHash P (Str.ofString "_law_bare"), key := Value.str (Str.ofString "_law_bare") 1530, val := Value.ref 807 }, { hash := PyData.keyHash P (Str.ofString "_law_due"), key := Value.str (Str.ofString "_law_due") 1536, val := Value.ref 812 }, { hash := PyData.keyHash P (Str.ofString "_law_call"), key := Value.str (Str.ofString "_law_call") 1544, val := Value.ref 819 }, { hash := PyData.keyHash P (Str.ofString "law"), key := Value.str (Str.ofString "law") 1550, val := Value.ref 824 }] 39 }) ::
  (nat_lit 22, { cls := Value.type "tuple", data := Data.seq #[Value.str (Str.ofString "\t") 197, Value.str (Str.ofString "\n") 198, Value.str (Str.ofString "\x0c") 199, Value.str (Str.ofString " ") 200, Value.str (Str.ofString "\x0d") 201] }) ::
  (nat_lit 27, { cls := Value.type "tuple", data := Data.seq #[Value.str (Str.ofString "a") 204, Value.str (Str.ofString "b") 205, Value.str (Str.ofString "c") 206, Value.str (Str.ofString "d") 207, Value.str (Str.ofString "e") 208, Value.str (Str.ofString "f") 209, Value.str (Str.ofString "g") 210, Value.str (Str.ofString "h") 211, Value.str (Str.ofString "i") 212, Value.str (Str.ofString "j") 213, Value.str (Str.ofString "k") 214, Value.str (Str.ofString "l") 215, Value.str (Str.ofString "m") 216, Value.str (Str.ofString "n") 217, Value.str (Str.ofString "o") 218, Value.str (Str.ofString "p") 219, Value.str (Str.ofString "q") 220, Value.str (Str.ofString "r") 221, Value.str (Str.ofString "s") 222, Value.str (Str.ofString "t") 223, Value.str (Str.ofString "u") 224, Value.str (Str.ofString "v") 225, Value.str (Str.ofString "w") 226, Value.str (Str.ofString "x") 227, Value.str (Str.ofString "y") 228, Value.str (Str.ofString "z") 229, Value.str (Str.ofString "A") 230, Value.str (Str.ofString "B") 231, Value.str (Str.ofString "C") 232, Value.str (Str.ofString "D") 233, Value.str (Str.ofString "E") 234, Value.str (Str.ofString "F") 235, Value.str (Str.ofString "G") 236, Value.str (Str.ofString "H") 237, Value.str (Str.ofString "I") 238, Value.str (Str.ofString "J") 239, Value.str (Str.ofString "K") 240, Value.str (Str.ofString "L") 241, Value.str (Str.ofString "M") 242, Value.str (Str.ofString "N") 243, Value.str (Str.ofString "O") 244, Value.str (Str.ofString "P") 245, Value.str (Str.ofString "Q") 246, Value.str (Str.ofString "R") 247, Value.str (Str.ofString "S") 248, Value.str (Str.ofString "T") 249, Value.str (Str.ofString "U") 250, Value.str (Str.ofString "V") 251, Value.str (Str.ofString "W") 252, Value.str (Str.ofString "X") 253, Value.str (Str.ofString "Y") 254, Value.str (Str.ofString "Z") 255] }) ::
  (nat_lit 32, { cls := Value.type "tuple", data := Data.seq #[Value.str (Str.ofString "0") 258, Value.str (Str.ofString "1") 259, Value.str (Str.ofString "2") 260, Value.str (Str.ofString "3") 261, Value.str (Str.ofString "4") 262, Value.str (Str.ofString "5") 263, Value.str (Str.ofString "6") 264, Value.str (Str.ofString "7") 265, Value.str (Str.ofString "8") 266, Value.str (Str.ofString "9") 267] }) ::
  (nat_lit 37, { cls := Value.type "tuple", data := Data.seq #[Value.str (Str.ofString "0") 270, Value.str (Str.ofString "1") 271, Value.str (Str.ofString "2") 272, Value.str (Str.ofString "3") 273, Value.str (Str.ofString "4") 274, Value.str (Str.ofString "5") 275, Value.str (Str.ofString "6") 276, Value.str (Str.ofString "7") 277, Value.str (Str.ofString "8") 278, Value.str (Str.ofString "9") 279, Value.str (Str.ofString "a") 280, Value.str (Str.ofString "b") 281, Value.str (Str.ofString "c") 282, Value.str (Str.ofString "d") 283, Value.str (Str.ofString "e") 284, Value.str (Str.ofString "f") 285, Value.str (Str.ofString "A") 286, Value.str (Str.ofString "B") 287, Value.str (Str.ofString "C") 288, Value.str (Str.ofString "D") 289, Value.str (Str.ofString "E") 290, Value.str (Str.ofString "F") 291] }) ::
  (nat_lit 38, { cls := Value.type "tuple", data := Data.seq #[] }) ::
  (nat_lit 41, { cls := Value.type "code", data := Data.fields #[Value.str (Str.ofString "asciiLower") 293, Value.str (Str.ofString "asciiLower") 294, Value.str (Str.ofString "/claim/cut.py") 295, Value.int 10 0, Value.int 1 0, Value.int 0 0, Value.int 0 0, Value.int 3 0, Value.ref 38, Value.bool true, Value.int 181 0, Value.ref 39, Value.none, Value.none, Value.none, Value.ref 40, Value.int 296 0, Value.int 10 0, Value.str (Str.ofString "/claim/cut.py") 297] }) ::
  (nat_lit 42, fnObj (stAt 7) "asciiLower" (Value.none) (Value.str (Str.ofString "html5lib.constants") 194) 41) ::
  (nat_lit 43, { cls := Value.type "dict", data := Data.dict #[{ hash := PyData.keyHash P (Str.ofString "AMP"), key := Value.str (Str.ofString "AMP") 299, val := Value.str (Str.ofString "&") 300 }, { hash := PyData.keyHash P (Str.ofString "AMP;"), key := Value.str (Str.ofString "AMP;") 302, val := Value.str (Str.ofString "&") 303 }, { hash := PyData.keyHash P (Str.ofString "Eacute"), key := Value.str (Str.ofString "Eacute") 305, val := Value.str (Str.ofString "É") 306 }, { hash := PyData.keyHash P (Str.ofString "Eacute;"), key := Value.str (Str.ofString "Eacute;") 308, val := Value.str (Str.ofString "É") 309 }, { hash := PyData.keyHash P (Str.ofString "Mopf;"), key := Value.str (Str.ofString "Mopf;") 311, val := Value.str (Str.ofString "𝕄") 312 }, { hash := PyData.keyHash P (Str.ofString "ac;"), key := Value.str (Str.ofString "ac;") 314, val := Value.str (Str.ofString "∾") 315 }, { hash := PyData.keyHash P (Str.ofString "acE;"), key := Value.str (Str.ofString "acE;") 317, val := Value.str (Str.ofString "∾̳") 318 }, { hash := PyData.keyHash P (Str.ofString "acute"), key := Value.str (Str.ofString "acute") 320, val := Value.str (Str.ofString "´") 321 }, { hash := PyData.keyHash P (Str.ofString "acute;"), key := Value.str (Str.ofString "acute;") 323, val := Value.str (Str.ofString "´") 324 }, { hash := PyData.keyHash P (Str.ofString "amp"), key := Value.str (Str.ofString "amp") 326, val := Value.str (Str.ofString "&") 327 }, { hash := PyData.keyHash P (Str.ofString "amp;"), key := Value.str (Str.ofString "amp;") 329, val := Value.str (Str.ofString "&") 330 }, { hash := PyData.keyHash P (Str.ofString "ang;"), key := Value.str (Str.ofString "ang;") 332, val := Value.str (Str.ofString "∠") 333 }, { hash := PyData.keyHash P (Str.ofString "angle;"), key := Value.str (Str.ofString "angle;") 335, val := Value.str (Str.ofString "∠") 336 }, { hash := PyData.keyHash P (Str.ofString "bne;"), key := Value.str (Str.ofString "bne;") 338, val := Value.str (Str.ofString "=⃥") 339 }, { hash := PyData.keyHash P (Str.ofString "copy"), key := Value.str (Str.ofString "copy") 341, val := Value.str (Str.ofString "©") 342 }, { hash := PyData.keyHash P (Str.ofString "copy;"), key := Value.str (Str.ofString "copy;") 344, val := Value.str (Str.ofString "©") 345 }, { hash := PyData.keyHash P (Str.ofString "eacute"), key := Value.str (Str.ofString "eacute") 347, val := Value.str (Str.ofString "é") 348 }, { hash := PyData.keyHash P (Str.ofString "eacute;"), key := Value.str (Str.ofString "eacute;") 350, val := Value.str (Str.ofString "é") 351 }, { hash := PyData.keyHash P (Str.ofString "frac12"), key := Value.str (Str.ofString "frac12") 353, val := Value.str (Str.ofString "½") 354 }, { hash := PyData.keyHash P (Str.ofString "frac12;"), key := Value.str (Str.ofString "frac12;") 356, val := Value.str (Str.ofString "½") 357 }, { hash := PyData.keyHash P (Str.ofString "gt"), key := Value.str (Str.ofString "gt") 359, val := Value.str (Str.ofString ">") 360 }, { hash := PyData.keyHash P (Str.ofString "gt;"), key := Value.str (Str.ofString "gt;") 362, val := Value.str (Str.ofString ">") 363 }, { hash := PyData.keyHash P (Str.ofString "lt"), key := Value.str (Str.ofString "lt") 365, val := Value.str (Str.ofString "<") 366 }, { hash := PyData.keyHash P (Str.ofString "lt;"), key := Value.str (Str.ofString "lt;") 368, val := Value.str (Str.ofString "<") 369 }, { hash := PyData.keyHash P (Str.ofString "nbsp"), key := Value.str (Str.ofString "nbsp") 371, val := Value.str (Str.ofString " ") 372 }, { hash := PyData.keyHash P (Str.ofString "nbsp;"), key := Value.str (Str.ofString "nbsp;") 374, val := Value.str (Str.ofString " ") 375 }, { hash := PyData.keyHash P (Str.ofString "not"), key := Value.str (Str.ofString "not") 377, val := Value.str (Str.ofString "¬") 378 }, { hash := PyData.keyHash P (Str.ofString "not;"), key := Value.str (Str.ofString "not;") 380, val := Value.str (Str.ofString "¬") 381 }, { hash := PyData.keyHash P (Str.ofString "notin;"), key := Value.str (Str.ofString "notin;") 383, val := Value.str (Str.ofString "∉") 384 }, { hash := PyData.keyHash P (Str.ofString "notni;"), key := Value.str (Str.ofString "notni;") 386, val := Value.str (Str.ofString "∌") 387 }, { hash := PyData.keyHash P (Str.ofString "para"), key := Value.str (Str.ofString "para") 389, val := Value.str (Str.ofString "¶") 390 }, { hash := PyData.keyHash P (Str.ofString "para;"), key := Value.str (Str.ofString "para;") 392, val := Value.str (Str.ofString "¶") 393 }, { hash := PyData.keyHash P (Str.ofString "parallel;"), key := Value.str (Str.ofString "parallel;") 395, val := Value.str (Str.ofString "∥") 396 }, { hash := PyData.keyHash P (Str.ofString "quot"), key := Value.str (Str.ofString "quot") 398, val := Value.str (Str.ofString "\"") 399 }, { hash := PyData.keyHash P (Str.ofString "quot;"), key := Value.str (Str.ofString "quot;") 401, val := Value.str (Str.ofString "\"") 402 }, { hash := PyData.keyHash P (Str.ofString "sup1"), key := Value.str (Str.ofString "sup1") 403, val := Value.str (Str.ofString "¹") 404 }, { hash := PyData.keyHash P (Str.ofString "sup1;"), key := Value.str (Str.ofString "sup1;") 405, val := Value.str (Str.ofString "¹") 406 }, { hash := PyData.keyHash P (Str.ofString "sup2"), key := Value.str (Str.ofString "sup2") 407, val := Value.str (Str.ofString "²") 408 }, { hash := PyData.keyHash P (Str.ofString "sup2;"), key := Value.str (Str.ofString "sup2;") 409, val := Value.str (Str.ofString "²") 410 }, { hash := PyData.keyHash P (Str.ofString "sup;"), key := Value.str (Str.ofString "sup;") 411, val := Value.str (Str.ofString "⊃") 412 }, { hash := PyData.keyHash P (Str.ofString "times"), key := Value.str (Str.ofString "times") 413, val := Value.str (Str.ofString "×") 414 }, { hash := PyData.keyHash P (Str.ofString "times;"), key := Value.str (Str.ofString "times;") 415, val := Value.str (Str.ofString "×") 416 }, { hash := PyData.keyHash P (Str.ofString "timesb;"), key := Value.str (Str.ofString "timesb;") 417, val := Value.str (Str.ofString "⊠") 418 }] 43 }) ::
  (nat_lit 46, { cls := Value.type "dict", data := Data.dict #[{ hash := 0, key := Value.int 0 429, val := Value.str (Str.ofString "�") 430 }, { hash := 13, key := Value.int 13 432, val := Value.str (Str.ofString "\x0d") 433 }, { hash := 128, key := Value.int 128 435, val := Value.str (Str.ofString "€") 436 }, { hash := 129, key := Value.int 129 438, val := Value.str (Str.ofString "") 439 }, { hash := 130, key := Value.int 130 441, val := Value.str (Str.ofString "‚") 442 }, { hash := 131, key := Value.int 131 444, val := Value.str (Str.ofString "ƒ") 445 }, { hash := 132, key := Value.int 132 447, val := Value.str (Str.ofString "„") 448 }, { hash := 133, key := Value.int 133 450, val := Value.str (Str.ofString "…") 451 }, { hash := 134, key := Value.int 134 453, val := Value.str (Str.ofString "†") 454 }, { hash := 135, key := Value.int 135 456, val := Value.str (Str.ofString "‡") 457 }, { hash := 136, key := Value.int 136 459, val := Value.str (Str.ofString "ˆ") 460 }, { hash := 137, key := Value.int 137 462, val := Value.str (Str.ofString "‰") 463 }, { hash := 138, key := Value.int 138 465, val := Value.str (Str.ofString "Š") 466 }, { hash := 139, key := Value.int 139 468, val := Value.str (Str.ofString "‹") 469 }, { hash := 140, key := Value.int 140 471, val := Value.str (Str.ofString "Œ") 472 }, { hash := 141, key := Value.int 141 474, val := Value.str (Str.ofString "") 475 }, { hash := 142, key := Value.int 142 477, val := Value.str (Str.ofString "Ž") 478 }, { hash := 143, key := Value.int 143 480, val := Value.str (Str.ofString "") 481 }, { hash := 144, key := Value.int 144 483, val := Value.str (Str.ofString "") 484 }, { hash := 145, key := Value.int 145 486, val := Value.str (Str.ofString "‘") 487 }, { hash := 146, key := Value.int 146 489, val := Value.str (Str.ofString "’") 490 }, { hash := 147, key := Value.int 147 492, val := Value.str (Str.ofString "“") 493 }, { hash := 148, key := Value.int 148 495, val := Value.str (Str.ofString "”") 496 }, { hash := 149, key := Value.int 149 498, val := Value.str (Str.ofString "•") 499 }, { hash := 150, key := Value.int 150 501, val := Value.str (Str.ofString "–") 502 }, { hash := 151, key := Value.int 151 504, val := Value.str (Str.ofString "—") 505 }, { hash := 152, key := Value.int 152 507, val := Value.str (Str.ofString "˜") 508 }, { hash := 153, key := Value.int 153 510, val := Value.str (Str.ofString "™") 511 }, { hash := 154, key := Value.int 154 513, val := Value.str (Str.ofString "š") 514 }, { hash := 155, key := Value.int 155 516, val := Value.str (Str.ofString "›") 517 }, { hash := 156, key := Value.int 156 519, val := Value.str (Str.ofString "œ") 520 }, { hash := 157, key := Value.int 157 522, val := Value.str (Str.ofString "") 523 }, { hash := 158, key := Value.int 158 525, val := Value.str (Str.ofString "ž") 526 }, { hash := 159, key := Value.int 159 528, val := Value.str (Str.ofString "Ÿ") 529 }] 34 }) ::
  (nat_lit 48, { cls := Value.type "dict", data := Data.dict #[{ hash := PyData.keyHash P (Str.ofString "Doctype"), key := Value.str (Str.ofString "Doctype") 532, val := Value.int 0 533 }, { hash := PyData.keyHash P (Str.ofString "Characters"), key := Value.str (Str.ofString "Characters") 534, val := Value.int 1 535 }, { hash := PyData.keyHash P (Str.ofString "SpaceCharacters"), key := Value.str (Str.ofString "SpaceCharacters") 536, val := Value.int 2 537 }, { hash := PyData.keyHash P (Str.ofString "StartTag"), key := Value.str (Str.ofString "StartTag") 538, val := Value.int 3 539 }, { hash := PyData.keyHash P (Str.ofString "EndTag"), key := Value.str (Str.ofString "EndTag") 540, val := Value.int 4 541 }, { hash := PyData.keyHash P (Str.ofString "EmptyTag"), key := Value.str (Str.ofString "EmptyTag") 542, val := Value.int 5 543 }, { hash := PyData.keyHash P (Str.ofString "Comment"), key := Value.str (Str.ofString "Comment") 544, val := Value.int 6 545 }, { hash := PyData.keyHash P (Str.ofString "ParseError"), key := Value.str (Str.ofString "ParseError") 546, val := Value.int 7 547 }] 8 }) ::
  (nat_lit 49, { cls := Value.type "tuple", data := Data.seq #[Value.int 3 539, Value.int 4 541, Value.int 5 543] }) ::
  (nat_lit 50, { cls := Value.type "tuple", data := Data.seq #[Value.type "object"] }) ::
  (nat_lit 57, { cls := Value.type "tuple", data := Data.seq #[] }) ::
  (nat_lit 59, { cls := Value.type "tuple", data := Data.seq #[Value.str (Str.ofString "self") 581, Value.str (Str.ofString "text") 582] }) ::
  (nat_lit 60, { cls := Value.type "tuple", data := Data.seq #[] }) ::
  (nat_lit 62, { cls := Value.type "code", data := Data.fields #[Value.str (Str.ofString "__init__") 578, Value.str (Str.ofString "Text.__init__") 579, Value.str (Str.ofString "/claim/cut.py") 580, Value.int 19 0, Value.int 2 0, Value.int 0 0, Value.int 0 0, Value.int 3 0, Value.ref 57, Value.bool true, Value.int 181 0, Value.ref 58, Value.none, Value.ref 59, Value.ref 60, Value.ref 61, Value.int 583 0, Value.int 19 0, Value.str (Str.ofString "/claim/cut.py") 584] }) ::
  (nat_lit 63, fnObj (mtAt 13 0) "Text.__init__" (Value.none) (Value.str (Str.ofString "html5lib._inputstream") 564) 62) ::
  (nat_lit 64, { cls := Value.type "tuple", data := Data.seq #[] }) ::
  (nat_lit 66, { cls := Value.type "tuple", data := Data.seq #[Value.str (Str.ofString "self") 589, Value.str (Str.ofString "size") 590, Value.str (Str.ofString "part") 591] }) ::
  (nat_lit 67, { cls := Value.type "tuple", data := Data.seq #[] }) ::
  (nat_lit 69, { cls := Value.type "code", data := Data.fields #[Value.str (Str.ofString "read") 586, Value.str (Str.ofString "Text.read") 587, Value.str (Str.ofString "/claim/cut.py") 588, Value.int 23 0, Value.int 2 0, Value.int 0 0, Value.int 0 0, Value.int 3 0, Value.ref 64, Value.bool true, Value.int 181 0, Value.ref 65, Value.none, Value.ref 66, Value.ref 67, Value.ref 68, Value.int 592 0, Value.int 23 0, Value.str (Str.ofString "/claim/cut.py") 593] }) ::
  (nat_lit 70, fnObj (mtAt 13 1) "Text.read" (Value.none) (Value.str (Str.ofString "html5lib._inputstream") 564) 69) ::
  (nat_lit 71, { cls := Value.type "tuple", data := Data.seq #[Value.str (Str.ofString "place") 595, Value.str (Str.ofString "text") 596] }) ::
  (nat_lit 72, { cls := Value.type "dict", data := Data.dict #[{ hash := PyData.keyHash P (Str.ofString "__module__"), key := Value.str (Str.ofString "__module__") 573, val := Value.str (Str.ofString "html5lib._inputstream") 564 }, { hash := PyData.keyHash P (Str.ofString "__firstlineno__"), key := Value.str (Str.ofString "__firstlineno__") 577, val := Value.int 17 576 }, { hash := PyData.keyHash P (Str.ofString "__init__"), key := Value.str (Str.ofString "__init__") 585, val := Value.ref 63 }, { hash := PyData.keyHash P (Str.ofString "read"), key := Value.str (Str.ofString "read") 594, val := Value.ref 70 }, { hash := PyData.keyHash P (Str.ofString "__static_attributes__"), key := Value.str (Str.ofString "__static_attributes__") 597, val := Value.ref 71 }, { hash := PyData.keyHash P (Str.ofString "__dict__"), key := Value.str (Str.ofString "__dict__") 599, val := Value.ref 74 }, { hash := PyData.keyHash P (Str.ofString "__weakref__"), key := Value.str (Str.ofString "__weakref__") 601, val := Value.ref 75 }, { hash := PyData.keyHash P (Str.ofString "__doc__"), key := Value.str (Str.ofString "__doc__") 602, val := Value.none }] 4 }) ::
  (nat_lit 73, { cls := Value.type "type", data := Data.cls { name := Str.ofString "Text", bases := [Value.type "object"], mro := [Value.ref 73, Value.type "object"], ns := 72, qualname := Str.ofString "Text" }, slots := #[some (Value.ref 50), none, some (Value.str (Str.ofString "Text") 566), some (Value.str (Str.ofString "Text") 574), some (Value.builtin "object.__new__"), some (Value.bool true)] }) ::
  (nat_lit 74, { cls := Value.type "getset_descriptor", data := Data.fields #[Value.str (Str.ofString "__dict__") 598, Value.ref 73, Value.builtin "function.__dict__", Value.builtin "function.__dict__#set"] }) ::
  (nat_lit 75, { cls := Value.type "getset_descriptor", data := Data.fields #[Value.str (Str.ofString "__weakref__") 600, Value.ref 73, Value.builtin "ExceptionGroup.__weakref__", Value.none] }) ::
  (nat_lit 78, { cls := Value.type "tuple", data := Data.seq #[] }) ::
  (nat_lit 80, { cls := Value.type "tuple", data := Data.seq #[Value.str (Str.ofString "codepoint") 608] }) ::
  (nat_lit 81, { cls := Value.type "tuple", data := Data.seq #[] }) ::
  (nat_lit 83, { cls := Value.type "code", data := Data.fields #[Value.str (Str.ofString "_is_invalid") 605, Value.str (Str.ofString "_is_invalid") 606, Value.str (Str.ofString "/claim/cut.py") 607, Value.int 27 0, Value.int 1 0, Value.int 0 0, Value.int 0 0, Value.int 3 0, Value.ref 78, Value.bool true, Value.int 181 0, Value.ref 79, Value.none, Value.ref 80, Value.ref 81, Value.ref 82, Value.int 609 0, Value.int 27 0, Value.str (Str.ofString "/claim/cut.py") 610] }) ::
  (nat_lit 84, fnObj (stAt 14) "_is_invalid" (Value.none) (Value.str (Str.ofString "html5lib._inputstream") 564) 83) ::
  (nat_lit 85, { cls := Value.type "tuple", data := Data.seq #[Value.type "object"] }) ::
  (nat_lit 92, { cls := Value.type "tuple", data := Data.seq #[] }) ::
  (nat_lit 94, { cls := Value.type "tuple", data := Data.seq #[Value.str (Str.ofString "self") 629, Value.str (Str.ofString "source") 630] }) ::
  (nat_lit 95, { cls := Value.type "tuple", data := Data.seq #[] }) ::
  (nat_lit 97, { cls := Value.type "code", data := Data.fields #[Value.str (Str.ofString "__init__") 626, Value.str (Str.ofString "HTMLUnicodeInputStream.__init__") 627, Value.str (Str.ofString "/claim/cut.py") 628, Value.int 32 0, Value.int 2 0, Value.int 0 0, Value.int 0 0, Value.int 3 0, Value.ref 92, Value.bool true, Value.int 181 0, Value.ref 93, Value.none, Value.ref 94, Value.ref 95, Value.ref 96, Value.int 631 0, Value.int 32 0, Value.str (Str.ofString "/claim/cut.py") 632] }) ::
  (nat_lit 98, fnObj (mtAt 15 1) "HTMLUnicodeInputStream.__init__" (Value.none) (Value.str (Str.ofString "html5lib._inputstream") 564) 97) ::
  (nat_lit 99, { cls := Value.type "tuple", data := Data.seq #[] }) ::
  (nat_lit 101, { cls := Value.type "tuple", data := Data.seq #[Value.str (Str.ofString "self") 637] }) ::
  (nat_lit 102, { cls := Value.type "tuple", data := Data.seq #[] }) ::
  (nat_lit 104, { cls := Value.type "code", data := Data.fields #[Value.str (Str.ofString "reset") 634, Value.str (Str.ofString "HTMLUnicodeInputStream.reset") 635, Value.str (Str.ofString "/claim/cut.py") 636, Value.int 38 0, Value.int 1 0, Value.int 0 0, Value.int 0 0, Value.int 3 0, Value.ref 99, Value.bool true, Value.int 181 0, Value.ref 100, Value.none, Value.ref 101, Value.ref 102, Value.ref 103, Value.int 638 0, Value.int 38 0, Value.str (Str.ofString "/claim/cut.py") 639] }) ::
  (nat_lit 105, fnObj (mtAt 15 2) "HTMLUnicodeInputStream.reset" (Value.none) (Value.str (Str.ofString "html5lib._inputstream") 564) 104) ::
  (nat_lit 106, { cls := Value.type "tuple", data := Data.seq #[] }) ::
  (nat_lit 108, { cls := Value.type "tuple", data := Data.seq #[Value.str (Str.ofString "self") 644, Value.str (Str.ofString "source") 645, Value.str (Str.ofString "stream") 646] }) ::
  (nat_lit 109, { cls := Value.type "tuple", data := Data.seq #[] }) ::
  (nat_lit 111, { cls := Value.type "code", data := Data.fields #[Value.str (Str.ofString "openStream") 641, Value.str (Str.ofString "HTMLUnicodeInputStream.openStream") 642, Value.str (Str.ofString "/claim/cut.py") 643, Value.int 47 0, Value.int 2 0, Value.int 0 0, Value.int 0 0, Value.int 3 0, Value.ref 106, Value.bool true, Value.int 181 0, Value.ref 107, Value.none, Value.ref 108, Value.ref 109, Value.ref 110, Value.int 647 0, Value.int 47 0, Value.str (Str.ofString "/claim/cut.py") 648] }) ::
  (nat_lit 112, fnObj (mtAt 15 3) "HTMLUnicodeInputStream.openStream" (Value.none) (Value.str (Str.ofString "html5lib._inputstream") 564) 111) ::
  (nat_lit 113, { cls := Value.type "tuple", data := Data.seq #[] }) ::
  (nat_lit 115, { cls := Value.type "tuple", data := Data.seq #[Value.str (Str.ofString "self") 653, Value.str (Str.ofString "offset") 654, Value.str (Str.ofString "chunk") 655, Value.str (Str.ofString "nLines") 656, Value.str (Str.ofString "positionLine") 657, Value.str (Str.ofString "lastLinePos") 658, Value.str (Str.ofString "positionColumn") 659] }) ::
  (nat_lit 116, { cls := Value.type "tuple", data := Data.seq #[] }) ::
  (nat_lit 118, { cls := Value.type "code", data := Data.fields #[Value.str (Str.ofString "_position") 650, Value.str (Str.ofString "HTMLUnicodeInputStream._position") 651, Value.str (Str.ofString "/claim/cut.py") 652, Value.int 51 0, Value.int 2 0, Value.int 0 0, Value.int 0 0, Value.int 3 0, Value.ref 113, Value.bool true, Value.int 181 0, Value.ref 114, Value.none, Value.ref 115, Value.ref 116, Value.ref 117, Value.int 660 0, Value.int 51 0, Value.str (Str.ofString "/claim/cut.py") 661] }) ::
  (nat_lit 119, fnObj (mtAt 15 4) "HTMLUnicodeInputStream._position" (Value.none) (Value.str (Str.ofString "html5lib._inputstream") 564) 118) ::
  (nat_lit 120, { cls := Value.type "tuple", data := Data.seq #[] }) ::
  (nat_lit 122, { cls := Value.type "tuple", data := Data.seq #[Value.str (Str.ofString "self") 666, Value.str (Str.ofString "line") 667, Value.str (Str.ofString "col") 668] }) ::
  (nat_lit 123, { cls := Value.type "tuple", data := Data.seq #[] }) ::
  (nat_lit 125, { cls := Value.type "code", data := Data.fields #[Value.str (Str.ofString "position") 663, Value.str (Str.ofString "HTMLUnicodeInputStream.position") 664, Value.str (Str.ofString "/claim/cut.py") 665, Value.int 62 0, Value.int 1 0, Value.int 0 0, Value.int 0 0, Value.int 3 0, Value.ref 120, Value.bool true, Value.int 181 0, Value.ref 121, Value.none, Value.ref 122, Value.ref 123, Value.ref 124, Value.int 669 0, Value.int 62 0, Value.str (Str.ofString "/claim/cut.py") 670] }) ::
  (nat_lit 126, fnObj (mtAt 15 5) "HTMLUnicodeInputStream.position" (Value.none) (Value.str (Str.ofString "html5lib._inputstream") 564) 125) ::
  (nat_lit 127, { cls := Value.type "tuple", data := Data.seq #[] }) ::
  (nat_lit 129, { cls := Value.type "tuple", data := Data.seq #[Value.str (Str.ofString "self") 675, Value.str (Str.ofString "chunkOffset") 676, Value.str (Str.ofString "char") 677] }) ::
  (nat_lit 130, { cls := Value.type "tuple", data := Data.seq #[] }) ::
  (nat_lit 132, { cls := Value.type "code", data := Data.fields #[Value.str (Str.ofString "char") 672, Value.str (Str.ofString "HTMLUnicodeInputStream.char") 673, Value.str (Str.ofString "/claim/cut.py") 674, Value.int 66 0, Value.int 1 0, Value.int 0 0, Value.int 0 0, Value.int 3 0, Value.ref 127, Value.bool true, Value.int 181 0, Value.ref 128, Value.none, Value.ref 129, Value.ref 130, Value.ref 131, Value.int 678 0, Value.int 66 0, Value.str (Str.ofString "/claim/cut.py") 679] }) ::
  (nat_lit 133, fnObj (mtAt 15 6) "HTMLUnicodeInputStream.char" (Value.none) (Value.str (Str.ofString "html5lib._inputstream") 564) 132) ::
  (nat_lit 134, { cls := Value.type "tuple", data := Data.seq #[Value.none] }) ::
  (nat_lit 135, { cls := Value.type "tuple", data := Data.seq #[] }) ::
  (nat_lit 137, { cls := Value.type "tuple", data := Data.seq #[Value.str (Str.ofString "self") 684, Value.str (Str.ofString "chunkSize") 685, Value.str (Str.ofString "data") 686, Value.str (Str.ofString "lastv") 687] }) ::
  (nat_lit 138, { cls := Value.type "tuple", data := Data.seq #[] }) ::
  (nat_lit 140, { cls := Value.type "code", data := Data.fields #[Value.str (Str.ofString "readChunk") 681, Value.str (Str.ofString "HTMLUnicodeInputStream.readChunk") 682, Value.str (Str.ofString "/claim/cut.py") 683, Value.int 75 0, Value.int 2 0, Value.int 0 0, Value.int 0 0, Value.int 3 0, Value.ref 135, Value.bool true, Value.int 181 0, Value.ref 136, Value.none, Value.ref 137, Value.ref 138, Value.ref 139, Value.int 688 0, Value.int 75 0, Value.str (Str.ofString "/claim/cut.py") 689] }) ::
  (nat_lit 141, fnObj (mtAt 15 7) "HTMLUnicodeInputStream.readChunk" (Value.ref 134) (Value.str (Str.ofString "html5lib._inputstream") 564) 140) ::
  (nat_lit 142, { cls := Value.type "tuple", data := Data.seq #[] }) ::
  (nat_lit 144, { cls := Value.type "tuple", data := Data.seq #[Value.str (Str.ofString "self") 694, Value.str (Str.ofString "data") 695, Value.str (Str.ofString "c") 696] }) ::
  (nat_lit 145, { cls := Value.type "tuple", data := Data.seq #[] }) ::
  (nat_lit 147, { cls := Value.type "code", data := Data.fields #[Value.str (Str.ofString "characterErrorsUCS4") 691, Value.str (Str.ofString "HTMLUnicodeInputStream.characterErrorsUCS4") 692, Value.str (Str.ofString "/claim/cut.py") 693, Value.int 101 0, Value.int 2 0, Value.int 0 0, Value.int 0 0, Value.int 3 0, Value.ref 142, Value.bool true, Value.int 181 0, Value.ref 143, Value.none, Value.ref 144, Value.ref 145, Value.ref 146, Value.int 697 0, Value.int 101 0, Value.str (Str.ofString "/claim/cut.py") 698] }) ::
  (nat_lit 148, fnObj (mtAt 15 8) "HTMLUnicodeInputStream.characterErrorsUCS4" (Value.none) (Value.str (Str.ofString "html5lib._inputstream") 564) 147) ::
  (nat_lit 149, { cls := Value.type "tuple", data := Data.seq #[Value.bool false] }) ::
  (nat_lit 150, { cls := Value.type "tuple", data := Data.seq #[] }) ::
  (nat_lit 152, { cls := Value.type "tuple", data := Data.seq #[Value.str (Str.ofString "self") 703, Value.str (Str.ofString "characters") 704, Value.str (Str.ofString "opposite") 705, Value.str (Str.ofString "rv") 706, Value.str (Str.ofString "end") 707, Value.str (Str.ofString "r") 708] }) ::
  (nat_lit 153, { cls := Value.type "tuple", data := Data.seq #[] }) ::
  (nat_lit 155, { cls := Value.type "code", data := Data.fields #[Value.str (Str.ofString "charsUntil") 700, Value.str (Str.ofString "HTMLUnicodeInputStream.charsUntil") 701, Value.str (Str.ofString "/claim/cut.py") 702, Value.int 106 0, Value.int 3 0, Value.int 0 0, Value.int 0 0, Value.int 3 0, Value.ref 150, Value.bool true, Value.int 181 0, Value.ref 151, Value.none, Value.ref 152, Value.ref 153, Value.ref 154, Value.int 709 0, Value.int 106 0, Value.str (Str.ofString "/claim/cut.py") 710] }) ::
  (nat_lit 156, fnObj (mtAt 15 9) "HTMLUnicodeInputStream.charsUntil" (Value.ref 149) (Value.str (Str.ofString "html5lib._inputstream") 564) 155) ::
  (nat_lit 157, { cls := Value.type "tuple", data := Data.seq #[] }) ::
  (nat_lit 159, { cls := Value.type "tuple", data := Data.seq #[Value.str (Str.ofString "self") 715, Value.str (Str.ofString "char") 716] }) ::
  (nat_lit 160, { cls := Value.type "tuple", data := Data.seq #[] }) ::
  (nat_lit 162, { cls := Value.type "code", data := Data.fields #[Value.str (Str.ofString "unget") 712, Value.str (Str.ofString "HTMLUnicodeInputStream.unget") 713, Value.str (Str.ofString "/claim/cut.py") 714, Value.int 125 0, Value.int 2 0, Value.int 0 0, Value.int 0 0, Value.int 3 0, Value.ref 157, Value.bool true, Value.int 181 0, Value.ref 158, Value.none, Value.ref 159, Value.ref 160, Value.ref 161, Value.int 717 0, Value.int 125 0, Value.str (Str.ofString "/claim/cut.py") 718] }) ::
  (nat_lit 163, fnObj (mtAt 15 10) "HTMLUnicodeInputStream.unget" (Value.none) (Value.str (Str.ofString "html5lib._inputstream") 564) 162) ::
  (nat_lit 165, { cls := Value.type "dict", data := Data.dict #[{ hash := PyData.keyHash P (Str.ofString "__module__"), key := Value.str (Str.ofString "__module__") 619, val := Value.str (Str.ofString "html5lib._inputstream") 564 }, { hash := PyData.keyHash P (Str.ofString "__firstlineno__"), key := Value.str (Str.ofString "__firstlineno__") 623, val := Value.int 29 622 }, { hash := PyData.keyHash P (Str.ofString "_defaultChunkSize"), key := Value.str (Str.ofString "_defaultChunkSize") 625, val := Value.int 10240 624 }, { hash := PyData.keyHash P (Str.ofString "__init__"), key := Value.str (Str.ofString "__init__") 633, val := Value.ref 98 }, { hash := PyData.keyHash P (Str.ofString "reset"), key := Value.str (Str.ofString "reset") 640, val := Value.ref 105 }, { hash := PyData.keyHash P (Str.ofString "openStream"), key := Value.str (Str.ofString "openStream") 649, val := Value.ref 112 }, { hash := PyData.keyHash P (Str.ofString "_position"), key := Value.str (Str.ofString "_position") 662, val := Value.ref 119 }, { hash := PyData.keyHash P (Str.ofString "position"), key := Value.str (Str.ofString "position") 671, val := Value.ref 126 }, { hash := PyData.keyHash P (Str.ofString "char"), key := Value.str (Str.ofString "char") 680, val := Value.ref 133 }, { hash := PyData.keyHash P (Str.ofString "readChunk"), key := Value.str (Str.ofString "readChunk") 690, val := Value.ref 141 }, { hash := PyData.keyHash P (Str.ofString "characterErrorsUCS4"), key := Value.str (Str.ofString "characterErrorsUCS4") 699, val := Value.ref 148 }, { hash := PyData.keyHash P (Str.ofString "charsUntil"), key := Value.str (Str.ofString "charsUntil") 711, val := Value.ref 156 }, { hash := PyData.keyHash P (Str.ofString "unget"), key := Value.str (Str.ofString "unget") 719, val := Value.ref 163 }, { hash := PyData.keyHash P (Str.ofString "__static_attributes__"), key := Value.str (Str.ofString "__static_attributes__") 730, val := Value.ref 164 }, { hash := PyData.keyHash P (Str.ofString "__dict__"), key := Value.str (Str.ofString "__dict__") 732, val := Value.ref 167 }, { hash := PyData.keyHash P (Str.ofString "__weakref__"), key := Value.str (Str.ofString "__weakref__") 734, val := Value.ref 168 }, { hash := PyData.keyHash P (Str.ofString "__doc__"), key := Value.str (Str.ofString "__doc__") 735, val := Value.none }] 4 }) ::
  (nat_lit 166, { cls := Value.type "type", data := Data.cls { name := Str.ofString "HTMLUnicodeInputStream", bases := [Value.type "object"], mro := [Value.ref 166, Value.type "object"], ns := 165, qualname := Str.ofString "HTMLUnicodeInputStream" }, slots := #[some (Value.ref 85), none, some (Value.str (Str.ofString "HTMLUnicodeInputStream") 612), some (Value.str (Str.ofString "HTMLUnicodeInputStream") 620), some (Value.builtin "object.__new__"), some (Value.bool true)] }) ::
  (nat_lit 167, { cls := Value.type "getset_descriptor", data := Data.fields #[Value.str (Str.ofString "__dict__") 731, Value.ref 166, Value.builtin "function.__dict__", Value.builtin "function.__dict__#set"] }) ::
  (nat_lit 168, { cls := Value.type "getset_descriptor", data := Data.fields #[Value.str (Str.ofString "__weakref__") 733, Value.ref 166, Value.builtin "ExceptionGroup.__weakref__", Value.none] }) ::
  (nat_lit 171, { cls := Value.type "tuple", data := Data.seq #[Value.int 0 740, Value.none] }) ::
  (nat_lit 179, { cls := Value.type "tuple", data := Data.seq #[Value.type "object"] }) ::
  (nat_lit 228, { cls := Value.type "tuple", data := Data.seq #[Value.str (Str.ofString "_cachepoints") 815, Value.str (Str.ofString "_cachestr") 816, Value.str (Str.ofString "_data") 817, Value.str (Str.ofString "_keys") 818] }) ::
  (nat_lit 229, { cls := Value.type "dict", data := Data.dict #[{ hash := PyData.keyHash P (Str.ofString "__module__"), key := Value.str (Str.ofString "__module__") 759, val := Value.str (Str.ofString "html5lib._trie.py") 738 }, { hash := PyData.keyHash P (Str.ofString "__firstlineno__"), key := Value.str (Str.ofString "__firstlineno__") 763, val := Value.int 144 762 }, { hash := PyData.keyHash P (Str.ofString "__init__"), key := Value.str (Str.ofString "__init__") 771, val := Value.ref 192 }, { hash := PyData.keyHash P (Str.ofString "__contains__"), key := Value.str (Str.ofString "__contains__") 779, val := Value.ref 199 }, { hash := PyData.keyHash P (Str.ofString "__len__"), key := Value.str (Str.ofString "__len__") 786, val := Value.ref 206 }, { hash := PyData.keyHash P (Str.ofString "__getitem__"), key := Value.str (Str.ofString "__getitem__") 794, val := Value.ref 213 }, { hash := PyData.keyHash P (Str.ofString "has_keys_with_prefix"), key := Value.str (Str.ofString "has_keys_with_prefix") 805, val := Value.ref 220 }, { hash := PyData.keyHash P (Str.ofString "longest_prefix"), key := Value.str (Str.ofString "longest_prefix") 814, val := Value.ref 227 }, { hash := PyData.keyHash P (Str.ofString "__static_attributes__"), key := Value.str (Str.ofString "__static_attributes__") 819, val := Value.ref 228 }, { hash := PyData.keyHash P (Str.ofString "__dict__"), key := Value.str (Str.ofString "__dict__") 821, val := Value.ref 231 }, { hash := PyData.keyHash P (Str.ofString "__weakref__"), key := Value.str (Str.ofString "__weakref__") 823, val := Value.ref 232 }, { hash := PyData.keyHash P (Str.ofString "__doc__"), key := Value.str (Str.ofString "__doc__") 824, val := Value.none }] 4 }) ::
  (nat_lit 230, { cls := Value.type "type", data := Data.cls { name := Str.ofString "Trie", bases := [Value.type "object"], mro := [Value.ref 230, Value.type "object"], ns := 229, qualname := Str.ofString "Trie" }, slots := #[some (Value.ref 179), none, some (Value.str (Str.ofString "Trie") 752), some (Value.str (Str.ofString "Trie") 760), some (Value.builtin "object.__new__"), some (Value.bool true)] }) ::
  (nat_lit 231, { cls := Value.type "getset_descriptor", data := Data.fields #[Value.str (Str.ofString "__dict__") 820, Value.ref 230, Value.builtin "function.__dict__", Value.builtin "function.__dict__#set"] }) ::
  (nat_lit 232, { cls := Value.type "getset_descriptor", data := Data.fields #[Value.str (Str.ofString "__weakref__") 822, Value.ref 230, Value.builtin "ExceptionGroup.__weakref__", Value.none] }) ::
  (nat_lit 235, { cls := Value.type "dict", data := Data.dict #[{ hash := PyData.keyHash P (Str.ofString "_data"), key := Value.str (Str.ofString "_data") 832, val := Value.ref 43 }, { hash := PyData.keyHash P (Str.ofString "_keys"), key := Value.str (Str.ofString "_keys") 834, val := Value.ref 243 }, { hash := PyData.keyHash P (Str.ofString "_cachestr"), key := Value.str (Str.ofString "_cachestr") 837, val := Value.str (Str.ofString "") 835 }, { hash := PyData.keyHash P (Str.ofString "_cachepoints"), key := Value.str (Str.ofString "_cachepoints") 842, val := Value.ref 246 }] 4 }) ::
  (nat_lit 236, { cls := Value.ref 230, dict := some 235 }) ::
  (nat_lit 243, { cls := Value.type "list", data := Data.seq #[Value.str (Str.ofString "AMP") 299, Value.str (Str.ofString "AMP;") 302, Value.str (Str.ofString "Eacute") 305, Value.str (Str.ofString "Eacute;") 308, Value.str (Str.ofString "Mopf;") 311, Value.str (Str.ofString "ac;") 314, Value.str (Str.ofString "acE;") 317, Value.str (Str.ofString "acute") 320, Value.str (Str.ofString "acute;") 323, Value.str (Str.ofString "amp") 326, Value.str (Str.ofString "amp;") 329, Value.str (Str.ofString "ang;") 332, Value.str (Str.ofString "angle;") 335, Value.str (Str.ofString "bne;") 338, Value.str (Str.ofString "copy") 341, Value.str (Str.ofString "copy;") 344, Value.str (Str.ofString "eacute") 347, Value.str (Str.ofString "eacute;") 350, Value.str (Str.ofString "frac12") 353, Value.str (Str.ofString "frac12;") 356, Value.str (Str.ofString "gt") 359, Value.str (Str.ofString "gt;") 362, Value.str (Str.ofString "lt") 365, Value.str (Str.ofString "lt;") 368, Value.str (Str.ofString "nbsp") 371, Value.str (Str.ofString "nbsp;") 374, Value.str (Str.ofString "not") 377, Value.str (Str.ofString "not;") 380, Value.str (Str.ofString "notin;") 383, Value.str (Str.ofString "notni;") 386, Value.str (Str.ofString "para") 389, Value.str (Str.ofString "para;") 392, Value.str (Str.ofString "parallel;") 395, Value.str (Str.ofString "quot") 398, Value.str (Str.ofString "quot;") 401, Value.str (Str.ofString "sup1") 403, Value.str (Str.ofString "sup1;") 405, Value.str (Str.ofString "sup2") 407, Value.str (Str.ofString "sup2;") 409, Value.str (Str.ofString "sup;") 411, Value.str (Str.ofString "times") 413, Value.str (Str.ofString "times;") 415, Value.str (Str.ofString "timesb;") 417] 2 }) ::
  (nat_lit 246, { cls := Value.type "tuple", data := Data.seq #[Value.int 0 838, Value.int 43 840] }) ::
  (nat_lit 247, { cls := Value.type "tuple", data := Data.seq #[Value.type "object"] }) ::
  (nat_lit 254, { cls := Value.type "tuple", data := Data.seq #[Value.none] }) ::
  (nat_lit 255, { cls := Value.type "tuple", data := Data.seq #[] }) ::
  (nat_lit 257, { cls := Value.type "tuple", data := Data.seq #[Value.str (Str.ofString "self") 859, Value.str (Str.ofString "stream") 860, Value.str (Str.ofString "parser") 861] }) ::
  (nat_lit 258, { cls := Value.type "tuple", data := Data.seq #[] }) ::
  (nat_lit 260, { cls := Value.type "code", data := Data.fields #[Value.str (Str.ofString "__init__") 856, Value.str (Str.ofString "HTMLTokenizer.__init__") 857, Value.str (Str.ofString "/claim/cut.py") 858, Value.int 184 0, Value.int 3 0, Value.int 0 0, Value.int 0 0, Value.int 3 0, Value.ref 255, Value.bool true, Value.int 181 0, Value.ref 256, Value.none, Value.ref 257, Value.ref 258, Value.ref 259, Value.int 862 0, Value.int 184 0, Value.str (Str.ofString "/claim/cut.py") 863] }) ::
  (nat_lit 261, fnObj (mtAt 21 0) "HTMLTokenizer.__init__" (Value.ref 254) (Value.str (Str.ofString "html5lib._tokenizer") 827) 260) ::
  (nat_lit 276, { cls := Value.type "tuple", data := Data.seq #[Value.none, Value.bool false] }) ::
  (nat_lit 291, { cls := Value.type "tuple", data := Data.seq #[] }) ::
  (nat_lit 293, { cls := Value.type "tuple", data := Data.seq #[Value.str (Str.ofString "self") 913, Value.str (Str.ofString "token") 914, Value.str (Str.ofString "raw") 915, Value.str (Str.ofString "data") 916] }) ::
  (nat_lit 294, { cls := Value.type "tuple", data := Data.seq #[] }) ::
  (nat_lit 296, { cls := Value.type "code", data := Data.fields #[Value.str (Str.ofString "emitCurrentToken") 910, Value.str (Str.ofString "HTMLTokenizer.emitCurrentToken") 911, Value.str (Str.ofString "/claim/cut.py") 912, Value.int 286 0, Value.int 1 0, Value.int 0 0, Value.int 0 0, Value.int 3 0, Value.ref 291, Value.bool true, Value.int 181 0, Value.ref 292, Value.none, Value.ref 293, Value.ref 294, Value.ref 295, Value.int 917 0, Value.int 286 0, Value.str (Str.ofString "/claim/cut.py") 918] }) ::
  (nat_lit 297, fnObj (mtAt 21 5) "HTMLTokenizer.emitCurrentToken" (Value.none) (Value.str (Str.ofString "html5lib._tokenizer") 827) 296) ::
  (nat_lit 298, { cls := Value.type "tuple", data := Data.seq #[] }) ::
  (nat_lit 300, { cls := Value.type "tuple", data := Data.seq #[Value.str (Str.ofString "self") 923, Value.str (Str.ofString "data") 924, Value.str (Str.ofString "chars") 925] }) ::
  (nat_lit 301, { cls := Value.type "tuple", data := Data.seq #[] }) ::
  (nat_lit 303, { cls := Value.type "code", data := Data.fields #[Value.str (Str.ofString "dataState") 920, Value.str (Str.ofString "HTMLTokenizer.dataState") 921, Value.str (Str.ofString "/claim/cut.py") 922, Value.int 304 0, Value.int 1 0, Value.int 0 0, Value.int 0 0, Value.int 3 0, Value.ref 298, Value.bool true, Value.int 181 0, Value.ref 299, Value.none, Value.ref 300, Value.ref 301, Value.ref 302, Value.int 926 0, Value.int 304 0, Value.str (Str.ofString "/claim/cut.py") 927] }) ::
  (nat_lit 304, fnObj (mtAt 21 6) "HTMLTokenizer.dataState" (Value.none) (Value.str (Str.ofString "html5lib._tokenizer") 827) 303) ::
  (nat_lit 305, { cls := Value.type "tuple", data := Data.seq #[] }) ::
  (nat_lit 307, { cls := Value.type "tuple", data := Data.seq #[Value.str (Str.ofString "self") 932] }) ::
  (nat_lit 308, { cls := Value.type "tuple", data := Data.seq #[] }) ::
  (nat_lit 310, { cls := Value.type "code", data := Data.fields #[Value.str (Str.ofString "entityDataState") 929, Value.str (Str.ofString "HTMLTokenizer.entityDataState") 930, Value.str (Str.ofString "/claim/cut.py") 931, Value.int 322 0, Value.int 1 0, Value.int 0 0, Value.int 0 0, Value.int 3 0, Value.ref 305, Value.bool true, Value.int 181 0, Value.ref 306, Value.none, Value.ref 307, Value.ref 308, Value.ref 309, Value.int 933 0, Value.int 322 0, Value.str (Str.ofString "/claim/cut.py") 934] }) ::
  (nat_lit 311, fnObj (mtAt 21 7) "HTMLTokenizer.entityDataState" (Value.none) (Value.str (Str.ofString "html5lib._tokenizer") 827) 310) ::
  (nat_lit 347, { cls := Value.type "tuple", data := Data.seq #[] }) ::
  (nat_lit 349, { cls := Value.type "tuple", data := Data.seq #[Value.str (Str.ofString "self") 974, Value.str (Str.ofString "data") 975] }) ::
  (nat_lit 350, { cls := Value.type "tuple", data := Data.seq #[] }) ::
  (nat_lit 352, { cls := Value.type "code", data := Data.fields #[Value.str (Str.ofString "tagOpenState") 971, Value.str (Str.ofString "HTMLTokenizer.tagOpenState") 972, Value.str (Str.ofString "/claim/cut.py") 973, Value.int 342 0, Value.int 1 0, Value.int 0 0, Value.int 0 0, Value.int 3 0, Value.ref 347, Value.bool true, Value.int 181 0, Value.ref 348, Value.none, Value.ref 349, Value.ref 350, Value.ref 351, Value.int 976 0, Value.int 342 0, Value.str (Str.ofString "/claim/cut.py") 977] }) ::
  (nat_lit 353, fnObj (mtAt 21 13) "HTMLTokenizer.tagOpenState" (Value.none) (Value.str (Str.ofString "html5lib._tokenizer") 827) 352) ::
  (nat_lit 354, { cls := Value.type "tuple", data := Data.seq #[] }) ::
  (nat_lit 356, { cls := Value.type "tuple", data := Data.seq #[Value.str (Str.ofString "self") 982, Value.str (Str.ofString "data") 983] }) ::
  (nat_lit 357, { cls := Value.type "tuple", data := Data.seq #[] }) ::
  (nat_lit 359, { cls := Value.type "code", data := Data.fields #[Value.str (Str.ofString "closeTagOpenState") 979, Value.str (Str.ofString "HTMLTokenizer.closeTagOpenState") 980, Value.str (Str.ofString "/claim/cut.py") 981, Value.int 366 0, Value.int 1 0, Value.int 0 0, Value.int 0 0, Value.int 3 0, Value.ref 354, Value.bool true, Value.int 181 0, Value.ref 355, Value.none, Value.ref 356, Value.ref 357, Value.ref 358, Value.int 984 0, Value.int 366 0, Value.str (Str.ofString "/claim/cut.py") 985] }) ::
  (nat_lit 360, fnObj (mtAt 21 14) "HTMLTokenizer.closeTagOpenState" (Value.none) (Value.str (Str.ofString "html5lib._tokenizer") 827) 359) ::
  (nat_lit 361, { cls := Value.type "tuple", data := Data.seq #[] }) ::
  (nat_lit 363, { cls := Value.type "tuple", data := Data.seq #[Value.str (Str.ofString "self") 990, Value.str (Str.ofString "data") 991] }) ::
  (nat_lit 364, { cls := Value.type "tuple", data := Data.seq #[] }) ::
  (nat_lit 366, { cls := Value.type "code", data := Data.fields #[Value.str (Str.ofString "tagNameState") 987, Value.str (Str.ofString "HTMLTokenizer.tagNameState") 988, Value.str (Str.ofString "/claim/cut.py") 989, Value.int 384 0, Value.int 1 0, Value.int 0 0, Value.int 0 0, Value.int 3 0, Value.ref 361, Value.bool true, Value.int 181 0, Value.ref 362, Value.none, Value.ref 363, Value.ref 364, Value.ref 365, Value.int 992 0, Value.int 384 0, Value.str (Str.ofString "/claim/cut.py") 993] }) ::
  (nat_lit 367, fnObj (mtAt 21 15) "HTMLTokenizer.tagNameState" (Value.none) (Value.str (Str.ofString "html5lib._tokenizer") 827) 366) ::
  (nat_lit 529, { cls := Value.type "tuple", data := Data.seq #[] }) ::
  (nat_lit 531, { cls := Value.type "tuple", data := Data.seq #[Value.str (Str.ofString "self") 1159, Value.str (Str.ofString "data") 1160] }) ::
  (nat_lit 532, { cls := Value.type "tuple", data := Data.seq #[] }) ::
  (nat_lit 534, { cls := Value.type "code", data := Data.fields #[Value.str (Str.ofString "beforeAttributeNameState") 1156, Value.str (Str.ofString "HTMLTokenizer.beforeAttributeNameState") 1157, Value.str (Str.ofString "/claim/cut.py") 1158, Value.int 471 0, Value.int 1 0, Value.int 0 0, Value.int 0 0, Value.int 3 0, Value.ref 529, Value.bool true, Value.int 181 0, Value.ref 530, Value.none, Value.ref 531, Value.ref 532, Value.ref 533, Value.int 1161 0, Value.int 471 0, Value.str (Str.ofString "/claim/cut.py") 1162] }) ::
  (nat_lit 535, fnObj (mtAt 21 39) "HTMLTokenizer.beforeAttributeNameState" (Value.none) (Value.str (Str.ofString "html5lib._tokenizer") 827) 534) ::
  (nat_lit 585, { cls := Value.type "tuple", data := Data.seq #[] }) ::
  (nat_lit 587, { cls := Value.type "tuple", data := Data.seq #[Value.str (Str.ofString "self") 1227, Value.str (Str.ofString "data") 1228] }) ::
  (nat_lit 588, { cls := Value.type "tuple", data := Data.seq #[] }) ::
  (nat_lit 590, { cls := Value.type "code", data := Data.fields #[Value.str (Str.ofString "selfClosingStartTagState") 1224, Value.str (Str.ofString "HTMLTokenizer.selfClosingStartTagState") 1225, Value.str (Str.ofString "/claim/cut.py") 1226, Value.int 667 0, Value.int 1 0, Value.int 0 0, Value.int 0 0, Value.int 3 0, Value.ref 585, Value.bool true, Value.int 181 0, Value.ref 586, Value.none, Value.ref 587, Value.ref 588, Value.ref 589, Value.int 1229 0, Value.int 667 0, Value.str (Str.ofString "/claim/cut.py") 1230] }) ::
  (nat_lit 591, fnObj (mtAt 21 47) "HTMLTokenizer.selfClosingStartTagState" (Value.none) (Value.str (Str.ofString "html5lib._tokenizer") 827) 590) ::
  (nat_lit 592, { cls := Value.type "tuple", data := Data.seq #[] }) ::
  (nat_lit 594, { cls := Value.type "tuple", data := Data.seq #[Value.str (Str.ofString "self") 1235, Value.str (Str.ofString "data") 1236] }) ::
  (nat_lit 595, { cls := Value.type "tuple", data := Data.seq #[] }) ::
  (nat_lit 597, { cls := Value.type "code", data := Data.fields #[Value.str (Str.ofString "bogusCommentState") 1232, Value.str (Str.ofString "HTMLTokenizer.bogusCommentState") 1233, Value.str (Str.ofString "/claim/cut.py") 1234, Value.int 682 0, Value.int 1 0, Value.int 0 0, Value.int 0 0, Value.int 3 0, Value.ref 592, Value.bool true, Value.int 181 0, Value.ref 593, Value.none, Value.ref 594, Value.ref 595, Value.ref 596, Value.int 1237 0, Value.int 682 0, Value.str (Str.ofString "/claim/cut.py") 1238] }) ::
  (nat_lit 598, fnObj (mtAt 21 48) "HTMLTokenizer.bogusCommentState" (Value.none) (Value.str (Str.ofString "html5lib._tokenizer") 827) 597) ::
  (nat_lit 599, { cls := Value.type "tuple", data := Data.seq #[] }) ::
  (nat_lit 601, { cls := Value.type "tuple", data := Data.seq #[Value.str (Str.ofString "self") 1243, Value.str (Str.ofString "charStack") 1244, Value.str (Str.ofString "matched") 1245, Value.str (Str.ofString "expected") 1246] }) ::
  (nat_lit 602, { cls := Value.type "tuple", data := Data.seq #[] }) ::
  (nat_lit 604, { cls := Value.type "code", data := Data.fields #[Value.str (Str.ofString "markupDeclarationOpenState") 1240, Value.str (Str.ofString "HTMLTokenizer.markupDeclarationOpenState") 1241, Value.str (Str.ofString "/claim/cut.py") 1242, Value.int 690 0, Value.int 1 0, Value.int 0 0, Value.int 0 0, Value.int 3 0, Value.ref 599, Value.bool true, Value.int 181 0, Value.ref 600, Value.none, Value.ref 601, Value.ref 602, Value.ref 603, Value.int 1247 0, Value.int 690 0, Value.str (Str.ofString "/claim/cut.py") 1248] }) ::
  (nat_lit 605, fnObj (mtAt 21 49) "HTMLTokenizer.markupDeclarationOpenState" (Value.none) (Value.str (Str.ofString "html5lib._tokenizer") 827) 604) ::
  (nat_lit 760, { cls := Value.type "tuple", data := Data.seq #[Value.str (Str.ofString "currentToken") 1428, Value.str (Str.ofString "escape") 1429, Value.str (Str.ofString "escapeFlag") 1430, Value.str (Str.ofString "lastFourChars") 1431, Value.str (Str.ofString "parser") 1432, Value.str (Str.ofString "state") 1433, Value.str (Str.ofString "stream") 1434, Value.str (Str.ofString "tokenQueue") 1435] }) ::
  (nat_lit 761, { cls := Value.type "dict", data := Data.dict #[{ hash := PyData.keyHash P (Str.ofString "__module__"), key := Value.str (Str.ofString "__module__") 851, val := Value.str (Str.ofString "html5lib._tokenizer") 827 }, { hash := PyData.keyHash P (Str.ofString "__firstlineno__"), key := Value.str (Str.ofString "__firstlineno__") 855, val := Value.int 182 854 }, { hash := PyData.keyHash P (Str.ofString "__init__"), key := Value.str (Str.ofString "__init__") 864, val := Value.ref 261 }, { hash := PyData.keyHash P (Str.ofString "__iter__"), key := Value.str (Str.ofString "__iter__") 871, val := Value.ref 268 }, { hash := PyData.keyHash P (Str.ofString "consumeNumberEntity"), key := Value.str (Str.ofString "consumeNumberEntity") 886, val := Value.ref 275 }, { hash := PyData.keyHash P (Str.ofString "consumeEntity"), key := Value.str (Str.ofString "consumeEntity") 901, val := Value.ref 283 }, { hash := PyData.keyHash P (Str.ofString "processEntityInAttribute"), key := Value.str (Str.ofString "processEntityInAttribute") 909, val := Value.ref 290 }, { hash := PyData.keyHash P (Str.ofString "emitCurrentToken"), key := Value.str (Str.ofString "emitCurrentToken") 919, val := Value.ref 297 }, { hash := PyData.keyHash P (Str.ofString "dataState"), key := Value.str (Str.ofString "dataState") 928, val := Value.ref 304 }, { hash := PyData.keyHash P (Str.ofString "entityDataState"), key := Value.str (Str.ofString "entityDataState") 935, val := Value.ref 311 }, { hash := PyData.keyHash P (Str.ofString "rcdataState"), key := Value.str (Str.ofString "rcdataState") 942, val := Value.ref 318 }, { hash := PyData.keyHash P (Str.ofString "characterReferenceInRcdata"), key := Value.str (Str.ofString "characterReferenceInRcdata") 949, val := Value.ref 325 }, { hash := PyData.keyHash P (Str.ofString "rawtextState"), key := Value.str (Str.ofString "rawtextState") 956, val := Value.ref 332 }, { hash := PyData.keyHash P (Str.ofString "scriptDataState"), key := Value.str (Str.ofString "scriptDataState") 963, val := Value.ref 339 }, { hash := PyData.keyHash P (Str.ofString "plaintextState"), key := Value.str (Str.ofString "plaintextState") 970, val := Value.ref 346 }, { hash := PyData.keyHash P (Str.ofString "tagOpenState"), key := Value.str (Str.ofString "tagOpenState") 978, val := Value.ref 353 }, { hash := PyData.keyHash P (Str.ofString "closeTagOpenState"), key := Value.str (Str.ofString "closeTagOpenState") 986, val := Value.ref 360 }, { hash := PyData.keyHash P (Str.ofString "tagNameState"), key := Value.str (Str.ofString "tagNameState") 994, val := Value.ref 367 }, { hash := PyData.keyHash P (Str.ofString "rcdataLessThanSignState"), key := Value.str (Str.ofString "rcdataLessThanSignState") 1001, val := Value.ref 374 }, { hash := PyData.keyHash P (Str.ofString "rcdataEndTagOpenState"), key := Value.str (Str.ofString "rcdataEndTagOpenState") 1008, val := Value.ref 381 }, { hash := PyData.keyHash P (Str.ofString "rcdataEndTagNameState"), key := Value.str (Str.ofString "rcdataEndTagNameState") 1015, val := Value.ref 388 }, { hash := PyData.keyHash P (Str.ofString "rawtextLessThanSignState"), key := Value.str (Str.ofString "rawtextLessThanSignState") 1022, val := Value.ref 395 }, { hash := PyData.keyHash P (Str.ofString "rawtextEndTagOpenState"), key := Value.str (Str.ofString "rawtextEndTagOpenState") 1029, val := Value.ref 402 }, { hash := PyData.keyHash P (Str.ofString "rawtextEndTagNameState"), key := Value.str (Str.ofString "rawtextEndTagNameState") 1036, val := Value.ref 409 }, { hash := PyData.keyHash P (Str.ofString "scriptDataLessThanSignState"), key := Value.str (Str.ofString "scriptDataLessThanSignState") 1043, val := Value.ref 416 }, { hash := PyData.keyHash P (Str.ofString "scriptDataEndTagOpenState"), key := Value.str (Str.ofString "scriptDataEndTagOpenState") 1050, val := Value.ref 423 }, { hash := PyData.keyHash P (Str.ofString "scriptDataEndTagNameState"), key := Value.str (Str.ofString "scriptDataEndTagNameState") 1057, val := Value.ref 430 }, { hash := PyData.keyHash P (Str.ofString "scriptDataEscapeStartState"), key := Value.str (Str.ofString "scriptDataEscapeStartState") 1064, val := Value.ref 437 }, { hash := PyData.keyHash P (Str.ofString "scriptDataEscapeStartDashState"), key := Value.str (Str.ofString "scriptDataEscapeStartDashState") 1071, val := Value.ref 444 }, { hash := PyData.keyHash P (Str.ofString "scriptDataEscapedState"), key := Value.str (Str.ofString "scriptDataEscapedState") 1078, val := Value.ref 451 }, { hash := PyData.keyHash P (Str.ofString "scriptDataEscapedDashState"), key := Value.str (Str.ofString "scriptDataEscapedDashState") 1085, val := Value.ref 458 }, { hash := PyData.keyHash P (Str.ofString "scriptDataEscapedDashDashState"), key := Value.str (Str.ofString "scriptDataEscapedDashDashState") 1092, val := Value.ref 465 }, { hash := PyData.keyHash P (Str.ofString "scriptDataEscapedLessThanSignState"), key := Value.str (Str.ofString "scriptDataEscapedLessThanSignState") 1099, val := Value.ref 472 }, { hash := PyData.keyHash P (Str.ofString "scriptDataEscapedEndTagOpenState"), key := Value.str (Str.ofString "scriptDataEscapedEndTagOpenState") 1106, val := Value.ref 479 }, { hash := PyData.keyHash P (Str.ofString "scriptDataEscapedEndTagNameState"), key := Value.str (Str.ofString "scriptDataEscapedEndTagNameState") 1113, val := Value.ref 486 }, { hash := PyData.keyHash P (Str.ofString "scriptDataDoubleEscapeStartState"), key := Value.str (Str.ofString "scriptDataDoubleEscapeStartState") 1120, val := Value.ref 493 }, { hash := PyData.keyHash P (Str.ofString "scriptDataDoubleEscapedState"), key := Value.str (Str.ofString "scriptDataDoubleEscapedState") 1127, val := Value.ref 500 }, { hash := PyData.keyHash P (Str.ofString "scriptDataDoubleEscapedDashState"), key := Value.str (Str.ofString "scriptDataDoubleEscapedDashState") 1134, val := Value.ref 507 }, { hash := PyData.keyHash P (Str.ofString "scriptDataDoubleEscapedDashDashState"), key := Value.str (Str.ofString "scriptDataDoubleEscapedDashDashState") 1141, val := Value.ref 514 }, { hash := PyData.keyHash P (Str.ofString "scriptDataDoubleEscapedLessThanSignState"), key := Value.str (Str.ofString "scriptDataDoubleEscapedLessThanSignState") 1148, val := Value.ref 521 }, { hash := PyData.keyHash P (Str.ofString "scriptDataDoubleEscapeEndState"), key := Value.str (Str.ofString "scriptDataDoubleEscapeEndState") 1155, val := Value.ref 528 }, { hash := PyData.keyHash P (Str.ofString "beforeAttributeNameState"), key := Value.str (Str.ofString "beforeAttributeNameState") 1163, val := Value.ref 535 }, { hash := PyData.keyHash P (Str.ofString "attributeNameState"), key := Value.str (Str.ofString "attributeNameState") 1175, val := Value.ref 542 }, { hash := PyData.keyHash P (Str.ofString "afterAttributeNameState"), key := Value.str (Str.ofString "afterAttributeNameState") 1183, val := Value.ref 549 }, { hash := PyData.keyHash P (Str.ofString "beforeAttributeValueState"), key := Value.str (Str.ofString "beforeAttributeValueState") 1191, val := Value.ref 556 }, { hash := PyData.keyHash P (Str.ofString "attributeValueDoubleQuotedState"), key := Value.str (Str.ofString "attributeValueDoubleQuotedState") 1199, val := Value.ref 563 }, { hash := PyData.keyHash P (Str.ofString "attributeValueSingleQuotedState"), key := Value.str (Str.ofString "attributeValueSingleQuotedState") 1207, val := Value.ref 570 }, { hash := PyData.keyHash P (Str.ofString "attributeValueUnQuotedState"), key := Value.str (Str.ofString "attributeValueUnQuotedState") 1215, val := Value.ref 577 }, { hash := PyData.keyHash P (Str.ofString "afterAttributeValueState"), key := Value.str (Str.ofString "afterAttributeValueState") 1223, val := Value.ref 584 }, { hash := PyData.keyHash P (Str.ofString "selfClosingStartTagState"), key := Value.str (Str.ofString "selfClosingStartTagState") 1231, val := Value.ref 591 }, { hash := PyData.keyHash P (Str.ofString "bogusCommentState"), key := Value.str (Str.ofString "bogusCommentState") 1239, val := Value.ref 598 }, { hash := PyData.keyHash P (Str.ofString "markupDeclarationOpenState"), key := Value.str (Str.ofString "markupDeclarationOpenState") 1249, val := Value.ref 605 }, { hash := PyData.keyHash P (Str.ofString "commentStartState"), key := Value.str (Str.ofString "commentStartState") 1257, val := Value.ref 612 }, { hash := PyData.keyHash P (Str.ofString "commentStartDashState"), key := Value.str (Str.ofString "commentStartDashState") 1265, val := Value.ref 619 }, { hash := PyData.keyHash P (Str.ofString "commentState"), key := Value.str (Str.ofString "commentState") 1273, val := Value.ref 626 }, { hash := PyData.keyHash P (Str.ofString "commentEndDashState"), key := Value.str (Str.ofString "commentEndDashState") 1281, val := Value.ref 633 }, { hash := PyData.keyHash P (Str.ofString "commentEndState"), key := Value.str (Str.ofString "commentEndState") 1289, val := Value.ref 640 }, { hash := PyData.keyHash P (Str.ofString "commentEndBangState"), key := Value.str (Str.ofString "commentEndBangState") 1297, val := Value.ref 647 }, { hash := PyData.keyHash P (Str.ofString "doctypeState"), key := Value.str (Str.ofString "doctypeState") 1305, val := Value.ref 654 }, { hash := PyData.keyHash P (Str.ofString "beforeDoctypeNameState"), key := Value.str (Str.ofString "beforeDoctypeNameState") 1313, val := Value.ref 661 }, { hash := PyData.keyHash P (Str.ofString "doctypeNameState"), key := Value.str (Str.ofString "doctypeNameState") 1321, val := Value.ref 668 }, { hash := PyData.keyHash P (Str.ofString "afterDoctypeNameState"), key := Value.str (Str.ofString "afterDoctypeNameState") 1331, val := Value.ref 675 }, { hash := PyData.keyHash P (Str.ofString "afterDoctypePublicKeywordState"), key := Value.str (Str.ofString "afterDoctypePublicKeywordState") 1339, val := Value.ref 682 }, { hash := PyData.keyHash P (Str.ofString "beforeDoctypePublicIdentifierState"), key := Value.str (Str.ofString "beforeDoctypePublicIdentifierState") 1347, val := Value.ref 689 }, { hash := PyData.keyHash P (Str.ofString "doctypePublicIdentifierDoubleQuotedState"), key := Value.str (Str.ofString "doctypePublicIdentifierDoubleQuotedState") 1355, val := Value.ref 696 }, { hash := PyData.keyHash P (Str.ofString "doctypePublicIdentifierSingleQuotedState"), key := Value.str (Str.ofString "doctypePublicIdentifierSingleQuotedState") 1363, val := Value.ref 703 }, { hash := PyData.keyHash P (Str.ofString "afterDoctypePublicIdentifierState"), key := Value.str (Str.ofString "afterDoctypePublicIdentifierState") 1371, val := Value.ref 710 }, { hash := PyData.keyHash P (Str.ofString "betweenDoctypePublicAndSystemIdentifiersState"), key := Value.str (Str.ofString "betweenDoctypePublicAndSystemIdentifiersState") 1379, val := Value.ref 717 }, { hash := PyData.keyHash P (Str.ofString "afterDoctypeSystemKeywordState"), key := Value.str (Str.ofString "afterDoctypeSystemKeywordState") 1387, val := Value.ref 724 }, { hash := PyData.keyHash P (Str.ofString "beforeDoctypeSystemIdentifierState"), key := Value.str (Str.ofString "beforeDoctypeSystemIdentifierState") 1395, val := Value.ref 731 }, { hash := PyData.keyHash P (Str.ofString "doctypeSystemIdentifierDoubleQuotedState"), key := Value.str (Str.ofString "doctypeSystemIdentifierDoubleQuotedState") 1403, val := Value.ref 738 }, { hash := PyData.keyHash P (Str.ofString "doctypeSystemIdentifierSingleQuotedState"), key := Value.str (Str.ofString "doctypeSystemIdentifierSingleQuotedState") 1411, val := Value.ref 745 }, { hash := PyData.keyHash P (Str.ofString "afterDoctypeSystemIdentifierState"), key := Value.str (Str.ofString "afterDoctypeSystemIdentifierState") 1419, val := Value.ref 752 }, { hash := PyData.keyHash P (Str.ofString "bogusDoctypeState"), key := Value.str (Str.ofString "bogusDoctypeState") 1427, val := Value.ref 759 }, { hash := PyData.keyHash P (Str.ofString "__static_attributes__"), key := Value.str (Str.ofString "__static_attributes__") 1436, val := Value.ref 760 }, { hash := PyData.keyHash P (Str.ofString "__dict__"), key := Value.str (Str.ofString "__dict__") 1438, val := Value.ref 763 }, { hash := PyData.keyHash P (Str.ofString "__weakref__"), key := Value.str (Str.ofString "__weakref__") 1440, val := Value.ref 764 }, { hash := PyData.keyHash P (Str.ofString "__doc__"), key := Value.str (Str.ofString "__doc__") 1441, val := Value.none }] 4 }) ::
  (nat_lit 762, { cls := Value.type "type", data := Data.cls { name := Str.ofString "HTMLTokenizer", bases := [Value.type "object"], mro := [Value.ref 762, Value.type "object"], ns := 761, qualname := Str.ofString "HTMLTokenizer" }, slots := #[some (Value.ref 247), none, some (Value.str (Str.ofString "HTMLTokenizer") 844), some (Value.str (Str.ofString "HTMLTokenizer") 852), some (Value.builtin "object.__new__"), some (Value.bool true)] }) ::
  (nat_lit 763, { cls := Value.type "getset_descriptor", data := Data.fields #[Value.str (Str.ofString "__dict__") 1437, Value.ref 762, Value.builtin "function.__dict__", Value.builtin "function.__dict__#set"] }) ::
  (nat_lit 764, { cls := Value.type "getset_descriptor", data := Data.fields #[Value.str (Str.ofString "__weakref__") 1439, Value.ref 762, Value.builtin "ExceptionGroup.__weakref__", Value.none] }) ::
  (nat_lit 767, { cls := Value.type "list", data := Data.seq #[Value.str (Str.ofString "<") 1446, Value.str (Str.ofString "</") 1447, Value.str (Str.ofString "a") 1448, Value.str (Str.ofString ">") 1449, Value.str (Str.ofString "/") 1450, Value.str (Str.ofString "<!") 1451, Value.str (Str.ofString "<?") 1452, Value.str (Str.ofString " ") 1453, Value.str (Str.ofString "\x00") 1454, Value.str (Str.ofString "B") 1455, Value.str (Str.ofString "<Td") 1456, Value.str (Str.ofString "</tD") 1457, Value.str (Str.ofString "\n") 1458, Value.str (Str.ofString "\x0d\n") 1459, Value.str (Str.ofString "\x0d") 1460, Value.str (Str.ofString "K") 1461, Value.str (Str.ofString "&") 1462, Value.str (Str.ofString "1") 1463, Value.str (Str.ofString "\x0c") 1464, Value.str (Str.ofString "x y") 1465, Value.str (Str.ofString "<p>") 1466, Value.str (Str.ofString "</Q>") 1467, Value.str (Str.ofString "\x01") 1468, Value.str (Str.ofString "!") 1469, Value.str (Str.ofString "?") 1470, Value.str (Str.ofString "\t") 1471, Value.str (Str.ofString "É") 1472, Value.str (Str.ofString "<>") 1473, Value.str (Str.ofString "</>") 1474] }) ::
  (nat_lit 768, { cls := Value.type "tuple", data := Data.seq #[] }) ::
  (nat_lit 771, { cls := Value.type "code", data := Data.fields #[Value.str (Str.ofString "_law_small") 1480, Value.str (Str.ofString "_law_small") 1481, Value.str (Str.ofString "/claim/cut.py") 1482, Value.int 1189 0, Value.int 1 0, Value.int 0 0, Value.int 0 0, Value.int 3 0, Value.ref 768, Value.bool true, Value.int 181 0, Value.ref 769, Value.none, Value.none, Value.none, Value.ref 770, Value.int 1483 0, Value.int 1189 0, Value.str (Str.ofString "/claim/cut.py") 1484] }) ::
  (nat_lit 772, fnObj (stAt 26) "_law_small" (Value.none) (Value.str (Str.ofString "law_rb0001_03") 1444) 771) ::
  (nat_lit 773, { cls := Value.type "tuple", data := Data.seq #[] }) ::
  (nat_lit 775, { cls := Value.type "tuple", data := Data.seq #[Value.str (Str.ofString "mended") 1489, Value.str (Str.ofString "place") 1490, Value.str (Str.ofString "row") 1491, Value.str (Str.ofString "inside") 1492] }) ::
  (nat_lit 776, { cls := Value.type "tuple", data := Data.seq #[] }) ::
  (nat_lit 778, { cls := Value.type "code", data := Data.fields #[Value.str (Str.ofString "_law_end") 1486, Value.str (Str.ofString "_law_end") 1487, Value.str (Str.ofString "/claim/cut.py") 1488, Value.int 1191 0, Value.int 4 0, Value.int 0 0, Value.int 0 0, Value.int 3 0, Value.ref 773, Value.bool true, Value.int 181 0, Value.ref 774, Value.none, Value.ref 775, Value.ref 776, Value.ref 777, Value.int 1493 0, Value.int 1191 0, Value.str (Str.ofString "/claim/cut.py") 1494] }) ::
  (nat_lit 779, fnObj (stAt 27) "_law_end" (Value.none) (Value.str (Str.ofString "law_rb0001_03") 1444) 778) ::
  (nat_lit 780, { cls := Value.type "tuple", data := Data.seq #[] }) ::
  (nat_lit 782, { cls := Value.type "tuple", data := Data.seq #[Value.str (Str.ofString "mended") 1499, Value.str (Str.ofString "place") 1500, Value.str (Str.ofString "lines") 1501] }) ::
  (nat_lit 783, { cls := Value.type "tuple", data := Data.seq #[] }) ::
  (nat_lit 785, { cls := Value.type "code", data := Data.fields #[Value.str (Str.ofString "_law_spot") 1496, Value.str (Str.ofString "_law_spot") 1497, Value.str (Str.ofString "/claim/cut.py") 1498, Value.int 1195 0, Value.int 2 0, Value.int 0 0, Value.int 0 0, Value.int 3 0, Value.ref 780, Value.bool true, Value.int 181 0, Value.ref 781, Value.none, Value.ref 782, Value.ref 783, Value.ref 784, Value.int 1502 0, Value.int 1195 0, Value.str (Str.ofString "/claim/cut.py") 1503] }) ::
  (nat_lit 786, fnObj (stAt 28) "_law_spot" (Value.none) (Value.str (Str.ofString "law_rb0001_03") 1444) 785) ::
  (nat_lit 787, { cls := Value.type "tuple", data := Data.seq #[] }) ::
  (nat_lit 789, { cls := Value.type "tuple", data := Data.seq #[Value.str (Str.ofString "token") 1508] }) ::
  (nat_lit 790, { cls := Value.type "tuple", data := Data.seq #[] }) ::
  (nat_lit 792, { cls := Value.type "code", data := Data.fields #[Value.str (Str.ofString "_law_told") 1505, Value.str (Str.ofString "_law_told") 1506, Value.str (Str.ofString "/claim/cut.py") 1507, Value.int 1198 0, Value.int 1 0, Value.int 0 0, Value.int 0 0, Value.int 3 0, Value.ref 787, Value.bool true, Value.int 181 0, Value.ref 788, Value.none, Value.ref 789, Value.ref 790, Value.ref 791, Value.int 1509 0, Value.int 1198 0, Value.str (Str.ofString "/claim/cut.py") 1510] }) ::
  (nat_lit 793, fnObj (stAt 29) "_law_told" (Value.none) (Value.str (Str.ofString "law_rb0001_03") 1444) 792) ::
  (nat_lit 794, { cls := Value.type "tuple", data := Data.seq #[] }) ::
  (nat_lit 796, { cls := Value.type "tuple", data := Data.seq #[Value.str (Str.ofString "head") 1515, Value.str (Str.ofString "name") 1516, Value.str (Str.ofString "given") 1517] }) ::
  (nat_lit 797, { cls := Value.type "tuple", data := Data.seq #[] }) ::
  (nat_lit 799, { cls := Value.type "code", data := Data.fields #[Value.str (Str.ofString "_law_tag") 1512, Value.str (Str.ofString "_law_tag") 1513, Value.str (Str.ofString "/claim/cut.py") 1514, Value.int 1206 0, Value.int 3 0, Value.int 0 0, Value.int 0 0, Value.int 3 0, Value.ref 794, Value.bool true, Value.int 181 0, Value.ref 795, Value.none, Value.ref 796, Value.ref 797, Value.ref 798, Value.int 1518 0, Value.int 1206 0, Value.str (Str.ofString "/claim/cut.py") 1519] }) ::
  (nat_lit 800, fnObj (stAt 30) "_law_tag" (Value.none) (Value.str (Str.ofString "law_rb0001_03") 1444) 799) ::
  (nat_lit 801, { cls := Value.type "tuple", data := Data.seq #[] }) ::
  (nat_lit 803, { cls := Value.type "tuple", data := Data.seq #[Value.str (Str.ofString "head") 1524, Value.str (Str.ofString "first") 1525, Value.str (Str.ofString "sign") 1526, Value.str (Str.ofString "fault") 1527] }) ::
  (nat_lit 804, { cls := Value.type "tuple", data := Data.seq #[] }) ::
  (nat_lit 806, { cls := Value.type "code", data := Data.fields #[Value.str (Str.ofString "_law_bare") 1521, Value.str (Str.ofString "_law_bare") 1522, Value.str (Str.ofString "/claim/cut.py") 1523, Value.int 1210 0, Value.int 2 0, Value.int 0 0, Value.int 0 0, Value.int 3 0, Value.ref 801, Value.bool true, Value.int 181 0, Value.ref 802, Value.none, Value.ref 803, Value.ref 804, Value.ref 805, Value.int 1528 0, Value.int 1210 0, Value.str (Str.ofString "/claim/cut.py") 1529] }) ::
  (nat_lit 807, fnObj (stAt 31) "_law_bare" (Value.none) (Value.str (Str.ofString "law_rb0001_03") 1444) 806) ::
  (nat_lit 808, { cls := Value.type "tuple", data := Data.seq #[] }) ::
  (nat_lit 811, { cls := Value.type "code", data := Data.fields #[Value.str (Str.ofString "_law_due") 1531, Value.str (Str.ofString "_law_due") 1532, Value.str (Str.ofString "/claim/cut.py") 1533, Value.int 1225 0, Value.int 1 0, Value.int 0 0, Value.int 0 0, Value.int 3 0, Value.ref 808, Value.bool true, Value.int 181 0, Value.ref 809, Value.none, Value.none, Value.none, Value.ref 810, Value.int 1534 0, Value.int 1225 0, Value.str (Str.ofString "/claim/cut.py") 1535] }) ::
  (nat_lit 812, fnObj (stAt 32) "_law_due" (Value.none) (Value.str (Str.ofString "law_rb0001_03") 1444) 811) ::
  (nat_lit 813, { cls := Value.type "tuple", data := Data.seq #[] }) ::
  (nat_lit 815, { cls := Value.type "tuple", data := Data.seq #[Value.str (Str.ofString "t") 1540, Value.str (Str.ofString "call") 1541] }) ::
  (nat_lit 816, { cls := Value.type "tuple", data := Data.seq #[] }) ::
  (nat_lit 818, { cls := Value.type "code", data := Data.fields #[Value.str (Str.ofString "_law_call") 1537, Value.str (Str.ofString "_law_call") 1538, Value.str (Str.ofString "/claim/cut.py") 1539, Value.int 1274 0, Value.int 2 0, Value.int 0 0, Value.int 0 0, Value.int 3 0, Value.ref 813, Value.bool true, Value.int 181 0, Value.ref 814, Value.none, Value.ref 815, Value.ref 816, Value.ref 817, Value.int 1542 0, Value.int 1274 0, Value.str (Str.ofString "/claim/cut.py") 1543] }) ::
  (nat_lit 819, fnObj (stAt 33) "_law_call" (Value.none) (Value.str (Str.ofString "law_rb0001_03") 1444) 818) ::
  (nat_lit 820, { cls := Value.type "tuple", data := Data.seq #[] }) ::
  (nat_lit 823, { cls := Value.type "code", data := Data.fields #[Value.str (Str.ofString "law") 1545, Value.str (Str.ofString "law") 1546, Value.str (Str.ofString "/claim/cut.py") 1547, Value.int 1284 0, Value.int 1 0, Value.int 0 0, Value.int 0 0, Value.int 3 0, Value.ref 820, Value.bool true, Value.int 181 0, Value.ref 821, Value.none, Value.none, Value.none, Value.ref 822, Value.int 1548 0, Value.int 1284 0, Value.str (Str.ofString "/claim/cut.py") 1549] }) ::
  (nat_lit 824, fnObj (stAt 34) "law" (Value.none) (Value.str (Str.ofString "law_rb0001_03") 1444) 823) :: []
end Mine

namespace Mine
def Q : Program := view PM [0, 2, 3, 4, 5, 6, 7, 8, 9, 10, 11, 13, 14, 15, 18, 20, 21, 23, 24, 25, 26, 27, 28, 29, 30, 31, 32, 33, 34]
end Mine
end
section
open PySem PySem.W PyProof.Rows PySem.Calls PySem.Spec
set_option Elab.async false
set_option maxRecDepth 100000
set_option maxHeartbeats 0
namespace Mine
/- a lean machine for the top's run -/
noncomputable def bget (t : BT) : Nat → Option Obj :=
  @BT.rec (fun _ => Nat → Option Obj) (fun _ => none) (fun v _ _ l r i => @Bool.rec (fun _ => Option Obj) (@Bool.rec (fun _ => Option Obj) (r (Nat.sub (Nat.div i 2) 1)) (l (Nat.div i 2)) (Nat.beq (Nat.mod i 2) 1)) (some v) (Nat.beq i 0)) t
theorem bget_eq : ∀ (t : BT) (i : Nat), t.get i = bget t i
  | .nil, _ => rfl
  | .node v l r, i => by
    show (match Nat.beq i 0 with | true => some v | false => match Nat.beq (i % 2) 1 with | true => l.get (i / 2) | false => r.get (i / 2 - 1)) = @Bool.rec (fun _ => Option Obj) (@Bool.rec (fun _ => Option Obj) (bget r (i / 2 - 1)) (bget l (i / 2)) (Nat.beq (i % 2) 1)) (some v) (Nat.beq i 0)
    rw [bget_eq l, bget_eq r]
    cases Nat.beq i 0 <;> cases Nat.beq (i % 2) 1 <;> rfl
noncomputable def bset (f : Obj → Obj) (t : BT) : Nat → BT :=
  @BT.rec (fun _ => Nat → BT) (fun _ => .nil) (fun v l r lh rh i => @Bool.rec (fun _ => BT) (@Bool.rec (fun _ => BT) (.node v l (rh (Nat.sub (Nat.div i 2) 1))) (.node v (lh (Nat.div i 2)) r) (Nat.beq (Nat.mod i 2) 1)) (.node (f v) l r) (Nat.beq i 0)) t
theorem bset_eq (f : Obj → Obj) : ∀ (t : BT) (i : Nat), t.set i f = bset f t i
  | .nil, _ => rfl
  | .node v l r, i => by
    show (match Nat.beq i 0 with | true => .node (f v) l r | false => match Nat.beq (i % 2) 1 with | true => .node v (l.set (i / 2) f) r | false => .node v l (r.set (i / 2 - 1) f)) = @Bool.rec (fun _ => BT) (@Bool.rec (fun _ => BT) (.node v l (bset f r (i / 2 - 1))) (.node v (bset f l (i / 2)) r) (Nat.beq (i % 2) 1)) (.node (f v) l r) (Nat.beq i 0)
    rw [bset_eq f l, bset_eq f r]
    cases Nat.beq i 0 <;> cases Nat.beq (i % 2) 1 <;> rfl
noncomputable def bins (o : Obj) (t : BT) : Nat → BT :=
  @BT.rec (fun _ => Nat → BT) (fun _ => .node o .nil .nil) (fun v l r lh rh i => @Bool.rec (fun _ => BT) (@Bool.rec (fun _ => BT) (.node v l (rh (Nat.sub (Nat.div i 2) 1))) (.node v (lh (Nat.div i 2)) r) (Nat.beq (Nat.mod i 2) 1)) (.node o l r) (Nat.beq i 0)) t
theorem bins_eq (o : Obj) : ∀ (t : BT) (i : Nat), t.ins i o = bins o t i
  | .nil, _ => rfl
  | .node v l r, i => by
    show (match Nat.beq i 0 with | true => .node o l r | false => match Nat.beq (i % 2) 1 with | true => .node v (l.ins (i / 2) o) r | false => .node v l (r.ins (i / 2 - 1) o)) = @Bool.rec (fun _ => BT) (@Bool.rec (fun _ => BT) (.node v l (bins o r (i / 2 - 1))) (.node v (bins o l (i / 2)) r) (Nat.beq (i % 2) 1)) (.node o l r) (Nat.beq i 0)
    rw [bins_eq o l, bins_eq o r]
    cases Nat.beq i 0 <;> cases Nat.beq (i % 2) 1 <;> rfl
abbrev Kt := SharedT → Thread → Option SharedT
noncomputable def mSee (ih : Kt) (s : SharedT) (code : Code) (pos : Pos) (stack : List Frame) (k : Obj → Sem Fin) (o : Option Obj) : Option SharedT :=
  @Option.rec Obj (fun _ => Option SharedT) none (fun o => ih s ⟨k o, code, pos, stack⟩) o
noncomputable def mGot (ih : Kt) (s : SharedT) (code : Code) (pos : Pos) (stack : List Frame) (k : Obj → Sem Fin) (o : Option Obj) : Option SharedT :=
  @Option.rec Obj (fun _ => Option SharedT) none (fun o => mSee ih s code pos stack k (alive o)) o
noncomputable def mLoad (ih : Kt) (s : SharedT) (code : Code) (pos : Pos) (stack : List Frame) (a : Addr) (k : Obj → Sem Fin) : Option SharedT :=
  @Bool.rec (fun _ => Option SharedT) none (mGot ih s code pos stack k (bget s.tree a)) (Nat.blt a s.n)
noncomputable def mPut (ih : Kt) (s : SharedT) (code : Code) (pos : Pos) (stack : List Frame) (a : Addr) (f : Obj → Obj) (k : Unit → Sem Fin) : Option SharedT :=
  @SharedT.rec (fun _ => Option SharedT) (fun T n life gens drawn toks os => ih ⟨bset f T a, n, life, gens, drawn, toks, os⟩ ⟨k (), code, pos, stack⟩) s
noncomputable def mIf (b : Bool) (x : Option SharedT) : Option SharedT := @Bool.rec (fun _ => Option SharedT) none x b
noncomputable def mMay (n₀ : Nat) (ann : Option Value) (a : Addr) : Bool := @Bool.rec (fun _ => Bool) (@Bool.rec (fun _ => Bool) (@Bool.rec (fun _ => Bool) (ann == some (.ref a)) true (Nat.beq a 2)) true (Nat.beq a 3)) true (Nat.ble n₀ a)
noncomputable def mThere (t : BT) (a : Addr) : Bool := @Option.rec Obj (fun _ => Bool) false (fun o => @Option.rec Obj (fun _ => Bool) false (fun _ => true) (alive o)) (bget t a)
noncomputable def mUpd (n₀ : Nat) (ann : Option Value) (ih : Kt) (s : SharedT) (code : Code) (pos : Pos) (stack : List Frame) (a : Addr) (f : Obj → Obj) (k : Unit → Sem Fin) : Option SharedT :=
  mIf (mMay n₀ ann a) (mIf (Nat.blt a s.n) (mIf (mThere s.tree a) (mPut ih s code pos stack a f k)))
noncomputable def mNew (ih : Kt) (T : BT) (n : Nat) (life : Life) (gens : Array GenState) (drawn : Drawn) (toks : Nat) (os : OsState) (code : Code) (pos : Pos) (stack : List Frame) (k : Addr → Sem Fin) : Option SharedT :=
  mIf (@Option.rec Obj (fun _ => Bool) false (fun _ => true) (bget T n)) (ih ⟨T, Nat.succ n, life, gens, drawn, toks, os⟩ ⟨k n, code, pos, stack⟩)
noncomputable def mAlloc (ih : Kt) (s : SharedT) (code : Code) (pos : Pos) (stack : List Frame) (o : Obj) (k : Addr → Sem Fin) : Option SharedT :=
  @SharedT.rec (fun _ => Option SharedT) (fun T n life gens drawn toks os => mNew ih (bins o T n) n life gens drawn toks os code pos stack k) s
noncomputable def mFresh (ih : Kt) (s : SharedT) (code : Code) (pos : Pos) (stack : List Frame) (k : Tok → Sem Fin) : Option SharedT :=
  @SharedT.rec (fun _ => Option SharedT) (fun T n life gens drawn toks os => ih ⟨T, n, life, gens, drawn, Nat.succ toks, os⟩ ⟨k toks, code, pos, stack⟩) s
noncomputable def mDone (ih : Kt) (s : SharedT) (stack : List Frame) (gen : Option SharedT) (f : Flow) : Option SharedT :=
  @List.rec Frame (fun _ => Option SharedT) gen (fun fr rest _ => @Frame.rec (fun _ => Option SharedT) (fun k _ _ _ c p _ => ih s ⟨k (.ok f), c, p, rest⟩) (fun _ _ _ _ _ => gen) fr) stack
/-- a step by what stands first -/
noncomputable def mStep (p : Program) (w : World) (n₀ : Nat) (ann : Option Value) (gen : Kt → Kt) (ih : Kt) (s : SharedT) (cur : Sem Fin) (code : Code) (pos : Pos) (stack : List Frame) : Option SharedT :=
  @Sem.casesOn PySem.Fin (fun _ => Option SharedT) cur
    (fun x => @PySem.Fin.rec (fun _ => Option SharedT) (fun f => mDone ih s stack (gen ih s ⟨.pure (.done f), code, pos, stack⟩) f) (fun c => gen ih s ⟨.pure (.again c), code, pos, stack⟩) x)
    (fun e => gen ih s ⟨.raise e, code, pos, stack⟩)
    (fun e => gen ih s ⟨.unsupported e, code, pos, stack⟩)
    (fun e => gen ih s ⟨.finish e, code, pos, stack⟩)
    (fun _ k => ih s ⟨k (), code, pos, stack⟩)
    (fun q k => ih s ⟨k (), code, q, stack⟩)
    (fun a _ k => mLoad ih s code pos stack a k)
    (fun a _ f k => mUpd n₀ ann ih s code pos stack a f k)
    (fun o k => mAlloc ih s code pos stack o k)
    (fun a k => gen ih s ⟨.loadIfAlive a k, code, pos, stack⟩)
    (fun _ k => ih s ⟨k (), code, pos, stack⟩)
    (fun a k => gen ih s ⟨.register a k, code, pos, stack⟩)
    (fun k => mFresh ih s code pos stack k)
    (fun k => ih s ⟨k ⟨p, w.params⟩, code, pos, stack⟩)
    (fun a b k => gen ih s ⟨.choose a b k, code, pos, stack⟩)
    (fun a b k => gen ih s ⟨.os a b k, code, pos, stack⟩)
    (fun c h g l k => gen ih s ⟨.call c h g l k, code, pos, stack⟩)
    (fun o k => gen ih s ⟨.handled o k, code, pos, stack⟩)
    (fun a k => gen ih s ⟨.newGen a k, code, pos, stack⟩)
    (fun a k => gen ih s ⟨.genState a k, code, pos, stack⟩)
    (fun a b c k => gen ih s ⟨.resume a b c k, code, pos, stack⟩)
    (fun a b c k => gen ih s ⟨.yield a b c k, code, pos, stack⟩)
    (fun k => gen ih s ⟨.stack k, code, pos, stack⟩)
    (fun a k => gen ih s ⟨.fork a k, code, pos, stack⟩)
    (fun k => gen ih s ⟨.thread k, code, pos, stack⟩)
    (fun a b c d k => gen ih s ⟨.await a b c d k, code, pos, stack⟩)
noncomputable def genT (tb : String → Option Builtin) (p : Program) (w : World) (n₀ : Nat) (ann : Option Value) (ih : Kt) (s : SharedT) (t : Thread) : Option SharedT := match through t with
    | true => some s
    | false => match stepOk n₀ ann t with
      | false => none
      | true => match stepT (denote tb) p w s t with
        | some r => ih r.1 r.2
        | none => none
theorem mStep_eq (tb : String → Option Builtin) (p : Program) (w : World) (n₀ : Nat) (ann : Option Value) (ih : Kt) (s : SharedT) (cur : Sem Fin) (code : Code) (pos : Pos) (stack : List Frame) :
    mStep p w n₀ ann (genT tb p w n₀ ann) ih s cur code pos stack = genT tb p w n₀ ann ih s ⟨cur, code, pos, stack⟩ := by
  obtain ⟨T, n, life, gens, drawn, toks, os⟩ := s
  have ht : ∀ {cur : Sem Fin}, (∀ x, cur ≠ .pure x) → through ⟨cur, code, pos, stack⟩ = false := fun {cur} h => by
    unfold through
    cases cur <;> first | exact (h _ rfl).elim | exact Bool.and_false _
  cases cur with
  | pure x =>
    cases x with
    | again c => rfl
    | done f =>
      cases stack with
      | nil => rfl
      | cons fr rest =>
        cases fr with
        | gen g k l c p => rfl
        | ret k h g l c p kp => rfl
  | load a q k =>
    unfold genT
    rw [ht (by intro x e; cases e)]
    show mLoad ih ⟨T, n, life, gens, drawn, toks, os⟩ code pos stack a k = match stepT (denote tb) p w ⟨T, n, life, gens, drawn, toks, os⟩ ⟨.load a q k, code, pos, stack⟩ with | some r => ih r.1 r.2 | none => none
    unfold mLoad stepT mGot mSee
    dsimp only
    rw [bget_eq]
    cases Nat.blt a n with
    | false => rfl
    | true =>
      cases bget T a with
      | none => rfl
      | some o => dsimp only; cases alive o <;> rfl
  | update a q f k =>
    unfold genT
    rw [ht (by intro x e; cases e)]
    have e : stepOk n₀ ann ⟨.update a q f k, code, pos, stack⟩ = mMay n₀ ann a := by
      unfold stepOk mMay
      show ((true && (Nat.ble n₀ a || a == 3 || a == 2 || ann == some (.ref a))) : Bool) = _
      rw [Bool.true_and, show (a == 3) = Nat.beq a 3 from by (rw [BT.beq_eq]; rfl), show (a == 2) = Nat.beq a 2 from by (rw [BT.beq_eq]; rfl)]
      cases Nat.ble n₀ a <;> cases Nat.beq a 3 <;> cases Nat.beq a 2 <;> rfl
    rw [e]
    show mUpd n₀ ann ih ⟨T, n, life, gens, drawn, toks, os⟩ code pos stack a f k = _
    unfold mUpd mIf stepT mPut mThere
    dsimp only
    rw [bget_eq, bset_eq]
    cases mMay n₀ ann a with
    | false => rfl
    | true =>
      cases Nat.blt a n with
      | false => rfl
      | true =>
        cases bget T a with
        | none => rfl
        | some o => dsimp only; cases alive o <;> rfl
  | alloc o k =>
    unfold genT
    rw [ht (by intro x e; cases e)]
    show mAlloc ih ⟨T, n, life, gens, drawn, toks, os⟩ code pos stack o k = match stepT (denote tb) p w ⟨T, n, life, gens, drawn, toks, os⟩ ⟨.alloc o k, code, pos, stack⟩ with | some r => ih r.1 r.2 | none => none
    unfold mAlloc stepT mNew mIf
    dsimp only
    rw [bins_eq, bget_eq]
    cases bget (bins o T n) n <;> rfl
  | rule => unfold genT; rw [ht (by intro x e; cases e)]; rfl
  | «at» => unfold genT; rw [ht (by intro x e; cases e)]; rfl
  | point => unfold genT; rw [ht (by intro x e; cases e)]; rfl
  | fresh => unfold genT; rw [ht (by intro x e; cases e)]; rfl
  | ask => unfold genT; rw [ht (by intro x e; cases e)]; rfl
  | _ => rfl
noncomputable def runM (gen : Kt → Kt) (p : Program) (w : World) (n₀ : Nat) (ann : Option Value) (n : Nat) : Kt :=
  @Nat.rec (fun _ => Kt) (fun _ _ => none) (fun _ ih s t => @Thread.rec (fun _ => Option SharedT) (fun cur code pos stack => mStep p w n₀ ann gen ih s cur code pos stack) t) n
theorem runM_eq (tb : String → Option Builtin) (p : Program) (w : World) (n₀ : Nat) (ann : Option Value) : ∀ n : Nat, runM (genT tb p w n₀ ann) p w n₀ ann n = runT tb p w n₀ ann n
  | 0 => rfl
  | n + 1 => by
    funext s t
    obtain ⟨cur, code, pos, stack⟩ := t
    show mStep p w n₀ ann (genT tb p w n₀ ann) (runM (genT tb p w n₀ ann) p w n₀ ann n) s cur code pos stack = genT tb p w n₀ ann (runT tb p w n₀ ann n) s ⟨cur, code, pos, stack⟩
    rw [mStep_eq, runM_eq]
noncomputable def genQ (p : Program) (w : World) (n₀ : Nat) (ann : Option Value) (ih : Kt) (s : SharedT) (t : Thread) : Option SharedT := match through t with
    | true => some s
    | false => match PySem.W.Fast.tw6613529449190102663 n₀ ann t with
      | false => none
      | true => match PySem.W.Fast.tw10156331382660048174 (PySem.W.Fast.tw11892475500146522536 PySem.W.Fast.tw14364793385576792824) p w s t with
        | some r => ih r.1 r.2
        | none => none
noncomputable def runF (p : Program) (w : World) (n₀ : Nat) (ann : Option Value) (n : Nat) : Kt := runM (genQ p w n₀ ann) p w n₀ ann n
theorem genQ_eq : @genQ = genT treeTable := by
  unfold genQ genT
  rw [PySem.W.Fast.te6613529449190102663, PySem.W.Fast.te10156331382660048174, PySem.W.Fast.te11892475500146522536, PySem.W.Fast.te14364793385576792824]
theorem runF_eq : @runF = runT treeTable := by
  funext p w n₀ ann n
  unfold runF
  rw [genQ_eq]
  exact runM_eq treeTable p w n₀ ann n
end Mine
end
section
open PySem PySem.W PyProof.Rows PySem.Calls PySem.Spec
set_option Elab.async false
set_option maxRecDepth 100000
set_option maxHeartbeats 0
namespace Mine
noncomputable def hdAs : List Addr := [2,3,22,27,32,37,38,41,42,43,46,48,49,50,57,59,60,62,63,64,66,67,69,70,71,72,73,74,75,78,80,81,83,84,85,92,94,95,97,98,99,101,102,104,105,106,108,109,111,112,113,115,116,118,119,120,122,123,125,126,127,129,130,132,133,134,135,137,138,140,141,142,144,145,147,148,149,150,152,153,155,156,157,159,160,162,163,165,166,167,168,171,179,228,229,230,231,232,235,236,243,246,247,254,255,257,258,260,261,276,291,293,294,296,297,298,300,301,303,304,305,307,308,310,311,347,349,350,352,353,354,356,357,359,360,361,363,364,366,367,529,531,532,534,535,585,587,588,590,591,592,594,595,597,598,599,601,602,604,605,760,761,762,763,764,767,768,771,772,773,775,776,778,779,780,782,783,785,786,787,789,790,792,793,794,796,797,799,800,801,803,804,806,807,808,811,812,813,815,816,818,819,820,823,824]
theorem hdAs_eq (P : Params) : hdAs = (K P).map (·.1) := by kernel_rfl
theorem sz_ok (w : World) : ((boot_heap w.params).isNs mainGlobals, (boot_heap w.params).objs.size, (boot_heap w.params).nsMap mainGlobals (Str.ofString "__annotations__")) = (true, 11, some (.ref 6)) := by kernel_rfl
theorem op_ok : ∀ w : World, (fencedOpening treeTable PM w 16922).map (fun s => (s.heap, s.gens, s.drawn, s.toks)) = some (boot_heap w.params, Array.mk [], boot_drawn, boot_toks) := boot_open (by kernel_rfl) (by decide +kernel) (fun _ => by rfl)
noncomputable abbrev hdX (s : Shared) : Bool := xlAt Q hdLv s && recOk [] s
noncomputable abbrev lookT (w : World) (s : SharedT) := (seeOk PM w.params s.abs, openSeen Q hdLoose (importedModules PM.main.body) hdX true s.abs, seeT hdAs s)
noncomputable abbrev lookQ (w : World) (s : SharedT) := (seeOk PM w.params s.abs, PySem.W.Fast.tw4187177175401517315 Q hdLoose (PySem.W.Fast.tw5923862056798008813 PM.main.body) (fun s => xlAt Q hdLv s && recOk [] s) true s.abs, seeT hdAs s)
def runSays (w : World) : Prop := (fun os => (runF PM w 11 (some (.ref 6)) 16922 (S0 w os) (topStub PM)).map (lookQ w)) = fun _ => some (true, openGood Q hdLoose, (K w.params).map fun p => some p.2)
theorem lookQ_eq : lookQ = lookT := by
  unfold lookQ lookT
  rw [PySem.W.Fast.te4187177175401517315, PySem.W.Fast.te5923862056798008813]
theorem left_ok (h : ∀ w, runSays w) : LeftO PM Q hdLoose hdX (kHook K hdAs hdAs_eq).obs (kHook K hdAs hdAs_eq).val 16922 :=
  left_of op_ok sz_ok fun w => by
    have z := h w
    unfold runSays at z
    rw [runF_eq, lookQ_eq] at z
    exact z
end Mine
end
section
open PySem PySem.W PyProof.Rows PySem.Calls PySem.Spec
set_option Elab.async false
set_option maxRecDepth 100000
set_option maxHeartbeats 0
namespace Mine
theorem hF (w : World) : runSays (w.withFollow "special-get-raises" false) := by
  unfold runSays
  kernel_rfl
end Mine
end
section
open PySem PySem.W PyProof.Rows PySem.Calls PySem.Spec
set_option Elab.async false
set_option maxRecDepth 100000
set_option maxHeartbeats 0
namespace Mine
theorem hT (w : World) : runSays (w.withFollow "special-get-raises" true) := by
  unfold runSays
  kernel_rfl
end Mine
end
section
open PySem PySem.W PyProof.Rows PySem.Calls PySem.Spec
set_option Elab.async false
set_option linter.unusedVariables false
set_option maxRecDepth 100000
set_option maxHeartbeats 0
namespace Mine
/-- what a look over the text asks, as a tree -/
inductive Tr where
  | ask (sc : Scope) (n : Str) (p : Option Pos)
  | chk (w : String) (sc : Scope) (n : Str) (ok : Bool)
  | enter (sc : Scope)
  | unit
  | bad
  | both (a b : Tr)
def free : TablesWhole.Alg Tr := ⟨.ask, .chk, .enter, .unit, .bad, .both⟩
noncomputable def Tr.ev (A : TablesWhole.Alg Bool) (t : Tr) : Bool := @Tr.rec (fun _ => Bool) A.ask A.check A.enter A.unit A.bad (fun _ _ x y => A.both x y) t
theorem Tr.imp {A B : TablesWhole.Alg Bool} (hask : ∀ sc n p, A.ask sc n p = true → B.ask sc n p = true) (hchk : ∀ w sc n ok, A.check w sc n ok = true → B.check w sc n ok = true) (hen : ∀ sc, A.enter sc = true → B.enter sc = true)
    (hu : B.unit = true) (hbad : A.bad = false) (hA : ∀ x y, A.both x y = (x && y)) (hB : ∀ x y, B.both x y = (x && y)) : ∀ t : Tr, t.ev A = true → t.ev B = true := fun t => by
  induction t with
  | ask sc n p => exact hask sc n p
  | chk w sc n ok => exact hchk w sc n ok
  | enter sc => exact hen sc
  | unit => exact fun _ => hu
  | bad => intro h; have h' : A.bad = true := h; rw [hbad] at h'; cases h'
  | both a b iha ihb =>
    intro h
    have h' : A.both (a.ev A) (b.ev A) = true := h
    show B.both (a.ev B) (b.ev B) = true
    rw [hA, Bool.and_eq_true] at h'
    rw [hB, iha h'.1, ihb h'.2]
    rfl
noncomputable def trM : Tr := PySem.W.Fast.tw6116379765354995101 free PM.main
/- the looks' leaves, by the library's quick test of two texts -/
noncomputable def lookS (n : Str) (l : List (Str × NameKind)) : Option NameKind :=
  @List.rec (Str × NameKind) (fun _ => Option NameKind) none (fun x _ ih => @Bool.rec (fun _ => Option NameKind) ih (some x.2) (PySem.W.Fast.sEq n x.1)) l
noncomputable def inS (n : Str) (l : List Str) : Bool := @List.rec Str (fun _ => Bool) false (fun x _ ih => @Bool.rec (fun _ => Bool) ih true (PySem.W.Fast.sEq n x)) l
theorem sEq_beq (a b : Str) : PySem.W.Fast.sEq a b = (a == b) := by
  cases h : PySem.W.Fast.sEq a b with
  | true => rw [PySem.W.Fast.sEq_iff.mp h, beq_self_eq_true]
  | false => exact (beq_eq_false_iff_ne.mpr fun e => by rw [PySem.W.Fast.sEq_iff.mpr e] at h; cases h).symm
theorem lookS_eq (n : Str) : ∀ l : List (Str × NameKind), l.lookup n = lookS n l
  | [] => rfl
  | (k, v) :: l => by
    rw [List.lookup_cons, lookS_eq n l]
    show _ = @Bool.rec (fun _ => Option NameKind) (lookS n l) (some v) (PySem.W.Fast.sEq n k)
    rw [sEq_beq]
    cases n == k <;> rfl
theorem inS_eq (n : Str) : ∀ l : List Str, l.contains n = inS n l
  | [] => rfl
  | x :: l => by
    rw [List.contains_cons, inS_eq n l]
    show _ = @Bool.rec (fun _ => Bool) (inS n l) true (PySem.W.Fast.sEq n x)
    rw [sEq_beq]
    cases n == x <;> rfl
noncomputable def bound9 (n : Str) : Bool := inS n PM.boundNames
noncomputable def gone (n : Str) : Bool := bound9 n || (n == ("__name__" : Str) || n == ("__debug__" : Str) || (builtinNamed n && !worldNames.contains n && !n.opensWith "__"))
noncomputable def leafK (n : Str) (k : Option NameKind) : Bool := match k with
  | some .globalImplicit | some .globalExplicit => gone n
  | some _ => true
  | none => false
noncomputable def leafN (n : Str) : Bool := PySem.W.Fast.tw17868728402115742887 n && !PySem.W.Fast.sEq n "vars" && !PySem.W.Fast.sEq n "dir" && !PySem.W.Fast.sEq n "locals"
noncomputable def leaf (sc : Scope) (n : Str) : Bool := leafK n (lookS n sc.names) && leafN n
noncomputable def comb : TablesWhole.Alg Bool := ⟨fun sc n _ => leaf sc n, fun _ _ _ ok => ok, fun _ => true, true, false, fun a b => @Bool.rec (fun _ => Bool) false b a⟩
theorem tr_all : (∀ A : TablesWhole.Alg Bool, PySem.W.Fast.tw6116379765354995101 A PM.main = trM.ev A) ∧ trM.ev comb = true := ⟨fun A => by kernel_rfl, by kernel_rfl⟩
theorem comb_and (x y : Bool) : comb.both x y = (x && y) := by cases x <;> rfl
theorem tr_of {B : TablesWhole.Alg Bool} (hask : ∀ sc n p, leaf sc n = true → B.ask sc n p = true) (hchk : ∀ w sc n ok, ok = true → B.check w sc n ok = true) (hen : ∀ sc, B.enter sc = true) (hu : B.unit = true) (hB : ∀ x y, B.both x y = (x && y)) : TablesWhole.wModule B PM.main = true := by
  rw [PySem.W.Fast.te6116379765354995101, tr_all.1]
  exact Tr.imp hask hchk (fun sc _ => hen sc) hu rfl comb_and hB trM tr_all.2
theorem leafK_of {sc : Scope} {n : Str} (h : leaf sc n = true) : leafK n (sc.names.lookup n) = true := by rw [lookS_eq]; exact (Bool.and_eq_true_iff.mp h).1
theorem leafN_of {sc : Scope} {n : Str} (h : leaf sc n = true) : attrL n = true ∧ n ≠ "vars" ∧ n ≠ "dir" ∧ n ≠ "locals" := by
  have h := (Bool.and_eq_true_iff.mp h).2
  unfold leafN at h
  rw [← PySem.W.Fast.te17868728402115742887] at h
  simp only [Bool.and_eq_true, Bool.not_eq_true', sEq_beq, beq_eq_false_iff_ne] at h
  exact ⟨h.1.1.1, h.1.1.2, h.1.2, h.2⟩
theorem tables1 : TablesWhole.wModule TablesWhole.holds PM.main = true := tr_of (fun sc n p h => by
  have := leafK_of h
  show (sc.names.lookup n).isSome = true
  cases e : sc.names.lookup n with
  | none => rw [e] at this; cases this
  | some k => rfl) (fun _ _ _ _ h => h) (fun _ => rfl) rfl (fun _ _ => rfl)
theorem tables2 : PM.tablesWhole = true := by
  unfold Program.tablesWhole TablesWhole.wProgram
  rw [tables1]
  kernel_rfl
theorem meet_of {ok : Scope → Str → Bool} (h : ∀ sc n, leaf sc n = true → ok sc n = true) : namesMeet PM PM.main.body ok = true := by
  exact tr_of (fun sc n _ => h sc n) (fun _ _ _ _ _ => rfl) (fun _ => rfl) rfl (fun _ _ => rfl)
theorem look6 : (namesMeet PM PM.main.body fun _ n => attrL n) = true := meet_of fun _ _ h => (leafN_of h).1
theorem reads_no {x : Str} (hx : ∀ sc n, leaf sc n = true → n ≠ x) : readsOut PM PM.main.body x = false := by
  unfold readsOut
  rw [meet_of fun sc n h => by rw [bne_iff_ne.mpr (hx sc n h)]; rfl]
  rfl
theorem bare_none : (["vars", "dir", "locals"] : List Str).filter (readsOut PM PM.main.body) = [] := by
  rw [List.filter_eq_nil_iff]
  intro x hx
  rcases List.mem_cons.mp hx with rfl | hx
  · rw [reads_no fun _ _ h => (leafN_of h).2.1]; exact Bool.false_ne_true
  rcases List.mem_cons.mp hx with rfl | hx
  · rw [reads_no fun _ _ h => (leafN_of h).2.2.1]; exact Bool.false_ne_true
  rcases List.mem_cons.mp hx with rfl | hx
  · rw [reads_no fun _ _ h => (leafN_of h).2.2.2]; exact Bool.false_ne_true
  cases hx
theorem look3 : namesResolve PM = true := by
  unfold namesResolve
  refine tr_of (fun sc n _ h => ?_) (fun _ _ _ _ _ => rfl) (fun _ => rfl) rfl (fun _ _ => rfl)
  have h := leafK_of h
  dsimp only
  cases e : sc.names.lookup n with
  | none => rfl
  | some k =>
    rw [e] at h
    have g : gone n = true → (PM.boundNames.contains n || n == ("__name__" : Str) || n == ("__debug__" : Str) || (builtinNamed n && !worldNames.contains n && !n.opensWith "__")) = true := fun h => by
      rw [inS_eq]
      unfold gone bound9 at h
      rw [Bool.or_assoc, Bool.or_assoc]
      rw [Bool.or_assoc] at h
      exact h
    cases k <;> first | exact g h | rfl
end Mine
end
section
open PySem PySem.W PyProof.Rows PySem.Calls PySem.Spec
set_option Elab.async false
set_option maxRecDepth 100000
set_option maxHeartbeats 0
namespace Mine
theorem look5 : noRoadLSs { strict := !(importedModules PM.main.body).all cThrough.contains, foot := none, bare := (["vars", "dir", "locals"] : List Str).filter (readsOut PM PM.main.body) } PM.main.body = true := by
  rw [bare_none, PySem.W.Fast.te8326940854005059898]
  kernel_rfl
theorem open_said : looksOpen PM = true := by
  unfold looksOpen
  refine look_both (look_both (look_both (look_both (look_both ?_ ?_) look3) ?_) look5) look6
  · kernel_rfl
  · kernel_rfl
  · rw [PySem.W.Fast.te18344453789297297638]; kernel_rfl
abbrev lW : OpenLaw := PySem.Challenge.rw_rb0001_03
abbrev rW : OpenRow := PySem.Challenge.rw_rb0001_03.row
theorem row_ok : rW.wellSaid = true := by
  unfold OpenRow.wellSaid OpenRow.partSaid
  repeat' (with_reducible refine look_both ?_ ?_)
  · exact open_said
  all_goals kernel_rfl
theorem law_said : lW.wellSaid = true := by
  unfold OpenLaw.wellSaid
  repeat' (with_reducible refine look_both ?_ ?_)
  · exact row_ok
  all_goals first
    | (rw [PySem.W.Fast.te8179353310426384613]; kernel_rfl)
    | (rw [PySem.W.Fast.te8326940854005059898]; kernel_rfl)
    | (rw [PySem.W.Fast.te17119622794617984870]; kernel_rfl)
    | (rw [PySem.W.Fast.te16286561074155671207]; kernel_rfl)
    | kernel_rfl
end Mine
end
section
open PySem PySem.W PyProof.Rows PySem.Calls PySem.Spec
set_option Elab.async false
set_option maxRecDepth 100000
set_option maxHeartbeats 0
namespace Mine
theorem ok_ok : (chainsOk Q && opensWell rW.prog && (frees rW.toRowW && rW.within.isEmpty)) = true := by kernel_rfl
theorem bare_ok9 : rW.prog.bare := ⟨rfl, rfl, rfl, rfl, rfl, tables2⟩
theorem hwr_ok : (!rW.writes || rW.records.isEmpty) = true := by kernel_rfl
theorem promised_ok : rW.toRowW.promised := by w_witness2
theorem hd (h : ∀ w, runSays w) {d : DefRec} {kwd : List (Str × Expr)} (hdef : defOf Q rW.name = some (d, kwd)) (hp : rW.prog.theDef rW.name = some (d.params, d.body, d.scope)) (hk : kwWritten? d.params.kwonlyargs d.params.kw_defaults = some kwd)
    (hc : WalkO Q hdLoose (XL Q hdLv) (kHook K hdAs hdAs_eq).says rW.toRowW d kwd fun f vs => PySem.call f vs) : PySem.Challenge.rw_rb0001_03.Holds :=
  holds_law law_said fun said => holds_open (q := Q) (loose := hdLoose) (Xt := fun s => xlAt Q hdLv s && recOk [] s) (XP := XL Q hdLv) (Yf := (kHook K hdAs hdAs_eq).obs) (Ya := (kHook K hdAs hdAs_eq).val) (YP := (kHook K hdAs hdAs_eq).says) (N := 16922) (left_ok h) (kHook K hdAs hdAs_eq).of (kHook K hdAs hdAs_eq).keeps (fun s e => xl_of s (Bool.and_eq_true_iff.mp e).1) XL.keeps hdef hp hk (fun s e => recFacts_of (Bool.and_eq_true_iff.mp e).2) hwr_ok said ok_ok bare_ok9 promised_ok hc
end Mine
end
section
open PySem PySem.Builtin PySem.Builtin.Str
set_option Elab.async false
set_option linter.unusedVariables false
namespace Mine
/-- a text by its signs' numbers -/
abbrev S (l : List Nat) : Str := ⟨l.toArray⟩
theorem S_len (l : List Nat) : (S l).length = l.length := by simp [Str.length]
theorem S_cps (l : List Nat) : (S l).cps.toList = l := by simp
theorem S_of (x : Str) : x = S x.cps.toList := by cases x; simp [S]
theorem S_app (a b : List Nat) : S a ++ S b = S (a ++ b) := Str.ext' (by simp [Str.cps_append])
theorem S_inj {a b : List Nat} : S a = S b ↔ a = b := ⟨fun h => by have := congrArg (fun x : Str => x.cps.toList) h; simpa using this, fun h => by rw [h]⟩
theorem S_beq (a b : List Nat) : (S a == S b) = decide (a = b) := by
  rw [Bool.eq_iff_iff, beq_iff_eq, decide_eq_true_eq, S_inj]

/- one sign sought -/
def occF (s sub : Str) (hi limit : Nat) (st : Array Nat × Nat) (i : Nat) : Array Nat × Nat :=
  if ((st.fst.size < limit ∧ st.snd ≤ i) ∧ i + sub.length ≤ hi) ∧ subAt s sub i = true then (st.fst.push i, i + sub.length) else st
theorem occ_foldl (s sub : Str) (lo hi limit : Nat) : occurrences s sub lo hi limit = ((List.range' lo (hi + 1 - lo)).foldl (occF s sub hi limit) (#[], lo)).fst.toList := by
  rw [StrLaws.occ_eq]
  have e : (StrLaws.occBody s sub hi limit) = fun i st => pure (ForInStep.yield (occF s sub hi limit st i)) := by
    funext i st
    unfold StrLaws.occBody occF
    split <;> rfl
  rw [e, List.forIn_pure_yield_eq_foldl]
  rfl
theorem subAt_one' (l : List Nat) (c i : Nat) : subAt (S l) (S [c]) i = true ↔ l[i]? = some c := by
  rw [StrLaws.subAt_eq]
  have : (S [c]).length = 1 := rfl
  rw [this, S_cps, S_cps]
  exact StrLaws.take1_drop
theorem count_take_succ (l : List Nat) (c m : Nat) : (l.take (m + 1)).count c = (l.take m).count c + (if l[m]? = some c then 1 else 0) := by
  rw [List.take_add_one, List.count_append]
  congr 1
  cases h : l[m]? with
  | none => simp
  | some x => by_cases e : x = c <;> simp [e]
theorem occ_run (l : List Nat) (c n : Nat) (hn : n ≤ l.length) : ∀ m, m ≤ n →
    ((List.range' 0 m).foldl (occF (S l) (S [c]) n (l.length + 1)) (#[], 0)).1.size = (l.take m).count c ∧ ((List.range' 0 m).foldl (occF (S l) (S [c]) n (l.length + 1)) (#[], 0)).2 ≤ m
  | 0, _ => by simp
  | m + 1, h => by
    obtain ⟨a, b⟩ := occ_run l c n hn m (by omega)
    rw [List.range'_1_concat, List.foldl_append]
    generalize (List.range' 0 m).foldl (occF (S l) (S [c]) n (l.length + 1)) (#[], 0) = st at a b
    have hc : (l.take m).count c ≤ m := Nat.le_trans List.count_le_length (by rw [List.length_take]; omega)
    simp only [List.foldl_cons, List.foldl_nil, Nat.zero_add]
    rw [count_take_succ]
    unfold occF
    have e1 : (S [c]).length = 1 := rfl
    by_cases q : l[m]? = some c
    · rw [if_pos ⟨⟨⟨by rw [a]; omega, b⟩, by rw [e1]; omega⟩, (subAt_one' l c m).mpr q⟩, if_pos q]
      simp only [Array.size_push, a, e1]
      exact ⟨trivial, Nat.le_refl _⟩
    · rw [if_neg (fun z => q ((subAt_one' l c m).mp z.2)), if_neg q]
      exact ⟨by rw [a]; rfl, by omega⟩
theorem occ_count (l : List Nat) (c n : Nat) (hn : n ≤ l.length) : (occurrences (S l) (S [c]) 0 n ((S l).length + 1)).length = (l.take n).count c := by
  rw [S_len, occ_foldl]
  obtain ⟨a, b⟩ := occ_run l c n hn n (Nat.le_refl _)
  rw [show n + 1 - 0 = n + 1 from rfl, List.range'_1_concat, List.foldl_append]
  generalize (List.range' 0 n).foldl (occF (S l) (S [c]) n (l.length + 1)) (#[], 0) = st at a b
  simp only [List.foldl_cons, List.foldl_nil, Nat.zero_add]
  unfold occF
  rw [if_neg (fun z => by have := z.1.2; have e1 : (S [c]).length = 1 := rfl; rw [e1] at this; omega)]
  rw [Array.length_toList]; exact a
def lastF (s sub : Str) (hi : Nat) (st : Option Nat) (i : Nat) : Option Nat := if i + sub.length ≤ hi ∧ subAt s sub i = true then some i else st
theorem last_foldl (s sub : Str) (lo hi : Nat) : lastOccurrence s sub lo hi = (List.range' lo (hi + 1 - lo)).foldl (lastF s sub hi) none := by
  rw [StrLaws.last_eq]
  have e : (StrLaws.lastBody s sub hi) = fun i st => pure (ForInStep.yield (lastF s sub hi st i)) := by
    funext i st
    unfold StrLaws.lastBody lastF
    split <;> rfl
  rw [e, List.forIn_pure_yield_eq_foldl]
  rfl
/-- what stands behind the last line end -/
def col (l : List Nat) : Nat := (l.reverse.takeWhile (· != 10)).length
theorem col_snoc (l : List Nat) (c : Nat) : col (l ++ [c]) = if c = 10 then 0 else col l + 1 := by
  unfold col
  rw [List.reverse_append, List.reverse_singleton, List.singleton_append, List.takeWhile_cons]
  by_cases h : c = 10 <;> simp [h]
/-- the last place of a line end ahead of m, as rfind tells it -/
def lastNl (l : List Nat) : Int := if 10 ∈ l then (l.length : Int) - col l - 1 else -1
theorem lastNl_snoc (l : List Nat) (c : Nat) : lastNl (l ++ [c]) = if c = 10 then (l.length : Int) else lastNl l := by
  unfold lastNl
  rw [col_snoc]
  by_cases h : c = 10
  · subst h; simp
  · simp only [List.mem_append, List.mem_singleton, if_neg h, List.length_append, List.length_singleton]
    have : ¬ 10 = c := fun e => h e.symm
    simp only [this, or_false]
    split <;> omega
def asInt (o : Option Nat) : Int := match o with | some i => (i : Int) | none => -1
theorem last_run (l : List Nat) (n : Nat) (hn : n ≤ l.length) : ∀ m, m ≤ n → asInt ((List.range' 0 m).foldl (lastF (S l) (S [10]) n) none) = lastNl (l.take m)
  | 0, _ => by simp [asInt, lastNl]
  | m + 1, h => by
    have a := last_run l n hn m (by omega)
    rw [List.range'_1_concat, List.foldl_append]
    generalize (List.range' 0 m).foldl (lastF (S l) (S [10]) n) none = st at a
    simp only [List.foldl_cons, List.foldl_nil, Nat.zero_add]
    have hm : m < l.length := by omega
    have et : l.take (m + 1) = l.take m ++ [l[m]] := by rw [List.take_add_one]; simp [hm]
    rw [et, lastNl_snoc]
    unfold lastF
    have e1 : (S [10]).length = 1 := rfl
    by_cases q : l[m] = 10
    · have q' : l[m]? = some 10 := by simp [hm, q]
      rw [if_pos ⟨by rw [e1]; omega, (subAt_one' l 10 m).mpr q'⟩, if_pos q]
      show (m : Int) = _
      rw [List.length_take]; omega
    · have q' : ¬ l[m]? = some 10 := by simp [hm, q]
      rw [if_neg (fun z => q' ((subAt_one' l 10 m).mp z.2)), if_neg q]
      exact a
theorem last_nl (l : List Nat) (n : Nat) (hn : n ≤ l.length) : asInt (lastOccurrence (S l) (S [10]) 0 n) = lastNl (l.take n) := by
  rw [last_foldl]
  have a := last_run l n hn n (Nat.le_refl _)
  rw [show n + 1 - 0 = n + 1 from rfl, List.range'_1_concat, List.foldl_append]
  generalize (List.range' 0 n).foldl (lastF (S l) (S [10]) n) none = st at a
  simp only [List.foldl_cons, List.foldl_nil, Nat.zero_add]
  unfold lastF
  rw [if_neg (fun z => by have := z.1; have e1 : (S [10]).length = 1 := rfl; rw [e1] at this; omega)]
  exact a
/- items and slices -/
theorem item_S (l : List Nat) (i : Nat) (h : i < l.length) : Txt.item (S l) (i : Int) = S [l[i]] := by
  unfold Txt.item Txt.charAt
  rw [StrLaws.at_nonneg (n := l[i]) (by omega) (by simp [h])]
  rfl
theorem item_last (l : List Nat) (h : l ≠ []) : Txt.item (S l) (-1) = S [l.getLast h] := by
  have hp : 0 < l.length := List.length_pos_iff.mpr h
  unfold Txt.item Txt.charAt
  rw [StrLaws.at_neg (n := l.getLast h) (by omega) (by rw [S_len]; omega) (by
    rw [S_len, show ((-1 : Int) + (l.length : Int)).toNat = l.length - 1 by omega]
    simp [List.getLast_eq_getElem])]
  rfl
end Mine
end
section
open PySem PySem.Builtin PySem.Builtin.Str
set_option Elab.async false
set_option linter.unusedVariables false
namespace Mine
theorem slice_is (x : Str) (l u : Option Int) : Txt.slice x l u = StrLaws.sliceText x l u := rfl
theorem idx_clip (a b len : Nat) : strSliceIndices (some (a : Int)) (some (b : Int)) 1 len = strSliceIndices (some ((min a len : Nat) : Int)) (some ((min b len : Nat) : Int)) 1 len := by
  have h1 : ¬ (a : Int) < 0 := by omega
  have h2 : ¬ (b : Int) < 0 := by omega
  have h3 : ¬ ((min a len : Nat) : Int) < 0 := by omega
  have h4 : ¬ ((min b len : Nat) : Int) < 0 := by omega
  unfold strSliceIndices
  simp only [if_neg h1, if_neg h2, if_neg h3, if_neg h4]
  congr 1 <;> simp <;> omega
theorem sliceRange_none {a b : Int} (h : b ≤ a) : sliceRange a b 1 = [] := by
  unfold sliceRange
  simp only [show (1 : Int) > 0 by decide, if_true]
  split
  · omega
  · rfl
/-- a slice with both ends, whatever they are -/
theorem slice_S (l : List Nat) (a b : Nat) : Txt.slice (S l) (some (a : Int)) (some (b : Int)) = S ((l.take b).drop a) := by
  have hl : (S l).length = l.length := S_len l
  rw [slice_is]
  by_cases hab : min a l.length ≤ min b l.length
  · have e : StrLaws.sliceText (S l) (some (a : Int)) (some (b : Int)) = StrLaws.sliceText (S l) (some ((min a l.length : Nat) : Int)) (some ((min b l.length : Nat) : Int)) := by
      unfold StrLaws.sliceText
      rw [hl, idx_clip]
    rw [e, StrLaws.sliceText_nat (S l) hab (by rw [hl]; omega), S_cps]
    show S _ = S _
    rw [S_inj, List.drop_take]
    rcases Nat.le_total a l.length with h | h <;> rcases Nat.le_total b l.length with h' | h'
    · rw [Nat.min_eq_left h, Nat.min_eq_left h']
    · rw [Nat.min_eq_left h, Nat.min_eq_right h',
        List.take_of_length_le (by rw [List.length_drop]; omega), List.take_of_length_le (by rw [List.length_drop]; omega)]
    · rw [Nat.min_eq_right h, Nat.min_eq_left h', List.drop_length, List.drop_of_length_le h]
      simp
    · rw [Nat.min_eq_right h, Nat.min_eq_right h', List.drop_length, List.drop_of_length_le h]
      simp
  · have hb : b < a := by omega
    have e : StrLaws.sliceText (S l) (some (a : Int)) (some (b : Int)) = S [] := by
      unfold StrLaws.sliceText
      rw [hl, idx_clip]
      have z : strSliceIndices (some ((min a l.length : Nat) : Int)) (some ((min b l.length : Nat) : Int)) 1 l.length = [] := by
        unfold strSliceIndices
        simp only [if_neg (show ¬ ((min a l.length : Nat) : Int) < 0 by omega), if_neg (show ¬ ((min b l.length : Nat) : Int) < 0 by omega), show (1 : Int) > 0 by decide, if_true]
        exact sliceRange_none (by omega)
      rw [z]
      by_cases q : l.length = 0
      · omega
      · simp [show ¬ (0 = l.length) from fun e => q e.symm]
    rw [e, S_inj, List.drop_of_length_le (by rw [List.length_take]; omega)]
theorem slice_from (l : List Nat) (a : Nat) (h : a ≤ l.length) : Txt.slice (S l) (some (a : Int)) none = S (l.drop a) := by
  rw [slice_is, StrLaws.sliceText_from ⟨by omega, by rw [S_cps]; omega⟩, S_cps]
  show S _ = S _
  rw [S_inj, Int.toNat_natCast, List.take_of_length_le (by rw [List.length_drop]; omega)]
theorem slice_to (l : List Nat) (b : Nat) (h : b ≤ l.length) : Txt.slice (S l) none (some (b : Int)) = S (l.take b) := by
  rw [slice_is, StrLaws.sliceText_to ⟨by omega, by rw [S_cps]; omega⟩, S_cps]
  show S _ = S _
  rw [S_inj, List.drop_zero, Int.sub_zero, Int.toNat_natCast]
theorem slice_to_neg1 (l : List Nat) (h : l ≠ []) : Txt.slice (S l) none (some (-1)) = S l.dropLast := by
  have hp : 0 < l.length := List.length_pos_iff.mpr h
  rw [slice_is, StrLaws.sliceText_to_neg (by omega) (by rw [S_len]; omega), S_cps, S_len]
  show S _ = S _
  rw [S_inj, List.drop_zero, List.dropLast_eq_take]
  congr 1
  omega
/- a sign in a text -/
theorem in_one (l : List Nat) (c : Nat) : (!(occurrences (S l) (S [c]) 0 (S l).length 1).isEmpty) = decide (c ∈ l) := by
  rw [StrLaws.found_one]
/- joined parts -/
theorem join_S (z : List Nat) : ∀ ps : List (List Nat), Str.join (S z) (ps.map S) = S (ps.intersperse z).flatten
  | [] => rfl
  | [p] => by simp [Str.join]
  | p :: q :: r => by
    have ih := join_S z (q :: r)
    simp only [List.map_cons] at ih ⊢
    have e : Str.join (S z) (S p :: S q :: r.map S) = S p ++ S z ++ Str.join (S z) (S q :: r.map S) := rfl
    rw [e, ih, S_app, S_app, S_inj]
    simp [List.intersperse]
theorem parts_S (ps : List Str) : ps = (ps.map (·.cps.toList)).map S := by
  rw [List.map_map]
  conv => lhs; rw [← List.map_id ps]
  exact List.map_congr_left fun x _ => S_of x
theorem inter_map {c d : Nat} : ∀ ps : List (List Nat), (∀ p ∈ ps, c ∉ p) → (ps.intersperse [c]).flatten.map (fun x => if x = c then d else x) = (ps.intersperse [d]).flatten
  | [], _ => rfl
  | [p], h => by
    simp only [List.intersperse_singleton, List.flatten_cons, List.flatten_nil, List.append_nil]
    conv => rhs; rw [← List.map_id p]
    exact List.map_congr_left fun x hx => if_neg fun (e : x = c) => h p (.head _) (e ▸ hx)
  | p :: q :: r, h => by
    have ih := inter_map (d := d) (q :: r) fun x hx => h x (.tail _ hx)
    have e : ∀ z : Nat, (List.intersperse [z] (p :: q :: r)).flatten = p ++ z :: (List.intersperse [z] (q :: r)).flatten := fun z => by simp [List.intersperse]
    rw [e, e, List.map_append, List.map_cons, ih, if_pos rfl]
    congr 1
    conv => rhs; rw [← List.map_id p]
    exact List.map_congr_left fun x hx => if_neg fun (e : x = c) => h p (.head _) (e ▸ hx)
/-- one sign for another -/
theorem replace_S (l : List Nat) (c d : Nat) : Txt.replace (S l) (S [c]) (S [d]) = S (l.map fun x => if x = c then d else x) := by
  rw [StrLaws.replace_one]
  have hf := StrLaws.split_free (S l) c
  have hj := StrLaws.join_split (S l) (S [c])
  generalize Txt.split (S l) (S [c]) = ps at hf hj
  rw [parts_S ps] at hj ⊢
  rw [join_S] at hj ⊢
  have hj' := S_inj.mp hj
  rw [S_inj, ← hj', inter_map]
  intro p hp
  obtain ⟨x, hx, rfl⟩ := List.mem_map.mp hp
  exact hf x hx
/- lines -/
theorem inter_count {c : Nat} : ∀ ps : List (List Nat), ps ≠ [] → (∀ p ∈ ps, c ∉ p) → (ps.intersperse [c]).flatten.count c + 1 = ps.length
  | [p], _, h => by simp [List.count_eq_zero.mpr (h p (.head _))]
  | p :: q :: r, _, h => by
    have ih := inter_count (q :: r) (by simp) fun x hx => h x (.tail _ hx)
    have e : (List.intersperse [c] (p :: q :: r)).flatten = p ++ c :: (List.intersperse [c] (q :: r)).flatten := by simp [List.intersperse]
    rw [e, List.count_append, List.count_cons_self, List.count_eq_zero.mpr (h p (.head _)), List.length_cons]
    omega
theorem takeWhile_self {p : Nat → Bool} {l : List Nat} (h : ∀ x ∈ l, p x = true) : l.takeWhile p = l := by
  have := List.takeWhile_append_of_pos (l₂ := []) h
  simpa using this
theorem col_free {l : List Nat} (h : 10 ∉ l) : col l = l.length := by
  unfold col
  rw [takeWhile_self, List.length_reverse]
  intro x hx
  simp only [bne_iff_ne, ne_eq]
  intro e
  exact h (e ▸ List.mem_reverse.mp hx)
theorem col_app (a b : List Nat) : col (a ++ b) = if 10 ∈ b then col b else col a + b.length := by
  unfold col
  rw [List.reverse_append]
  by_cases h : 10 ∈ b
  · rw [if_pos h, List.takeWhile_append, if_neg]
    intro z
    have e : b.reverse.takeWhile (· != 10) = b.reverse := (List.takeWhile_prefix _).eq_of_length z
    have := List.all_takeWhile (p := (· != 10)) (l := b.reverse)
    rw [e, List.all_eq_true] at this
    have q := this 10 (List.mem_reverse.mpr h)
    simp at q
  · rw [if_neg h]
    have e : ∀ x ∈ b.reverse, (x != 10) = true := fun x hx => by
      simp only [bne_iff_ne, ne_eq]; intro e; exact h (e ▸ List.mem_reverse.mp hx)
    rw [List.takeWhile_append_of_pos e, List.length_append, List.length_reverse]
    omega
theorem inter_col : ∀ (ps : List (List Nat)) (hne : ps ≠ []), (∀ p ∈ ps, 10 ∉ p) → col (ps.intersperse [10]).flatten = (ps.getLast hne).length
  | [p], _, h => by simp [col_free (h p (.head _))]
  | p :: q :: r, _, h => by
    have ih := inter_col (q :: r) (by simp) fun x hx => h x (.tail _ hx)
    have e : (List.intersperse [10] (p :: q :: r)).flatten = (p ++ [10]) ++ (List.intersperse [10] (q :: r)).flatten := by simp [List.intersperse]
    rw [e, col_app, List.getLast_cons (by simp)]
    split
    · exact ih
    · rename_i h'
      rw [col_snoc, if_pos rfl, Nat.zero_add, ← ih, col_free h']
theorem split_S (l : List Nat) : ∃ ps : List (List Nat), ∃ hne : ps ≠ [], Txt.split (S l) (S [10]) = ps.map S ∧ ps.length = l.count 10 + 1 ∧ (ps.getLast hne).length = col l := by
  have hf := StrLaws.split_free (S l) 10
  have hj := StrLaws.join_split (S l) (S [10])
  have h0 : Txt.split (S l) (S [10]) ≠ [] := by
    unfold Txt.split
    split
    · simp
    · split
      · simp
      · rw [StrLaws.partsBetween_eq]
        obtain ⟨p, r, e⟩ := StrLaws.partsFrom_ne (S l) (S [10]).length 0 (occurrences (S l) (S [10]) 0 (S l).length ((S l).length + 1))
        rw [e]; simp
  generalize Txt.split (S l) (S [10]) = xs at hf hj h0
  have hne : (xs.map (·.cps.toList)) ≠ [] := by simpa using h0
  refine ⟨xs.map (·.cps.toList), hne, parts_S xs, ?_⟩
  rw [parts_S xs] at hj
  rw [join_S] at hj
  have hj' := S_inj.mp hj
  have hp : ∀ p ∈ xs.map (·.cps.toList), 10 ∉ p := fun p hp => by obtain ⟨x, hx, rfl⟩ := List.mem_map.mp hp; exact hf x hx
  exact ⟨by rw [← hj', inter_count _ hne hp], by rw [← hj', inter_col _ hne hp]⟩
end Mine
end
section
open PySem PySem.Builtin PySem.Builtin.Str
set_option Elab.async false
set_option linter.unusedVariables false
namespace Mine
/-- line ends of two signs become one -/
def crlf : List Nat → List Nat
  | 13 :: 10 :: r => 10 :: crlf r
  | c :: r => c :: crlf r
  | [] => []
/-- no pair of them anywhere -/
def NoPair (l : List Nat) : Prop := ∀ i, ¬ (l[i]? = some 13 ∧ l[i + 1]? = some 10)
theorem NoPair.tail {c : Nat} {l : List Nat} (h : NoPair (c :: l)) : NoPair l := fun i => h (i + 1)
theorem crlf_cons {c : Nat} {r : List Nat} (h : ¬ (c = 13 ∧ r[0]? = some 10)) : crlf (c :: r) = c :: crlf r := by
  match c, r, h with
  | 13, 10 :: r, h => exact absurd ⟨rfl, rfl⟩ h
  | c, r, h =>
    rw [crlf]
    intro r' e1 e2
    subst e1 e2
    exact h ⟨rfl, rfl⟩
theorem crlf_pair (r : List Nat) : crlf (13 :: 10 :: r) = 10 :: crlf r := rfl
theorem crlf_id : ∀ {l : List Nat}, NoPair l → crlf l = l
  | [], _ => rfl
  | c :: r, h => by
    rw [crlf_cons (fun z => h 0 ⟨by simp [z.1], by simpa using z.2⟩), crlf_id h.tail]
theorem crlf_app : ∀ {p : List Nat} {r : List Nat}, NoPair (p ++ [13]) → crlf (p ++ 13 :: 10 :: r) = p ++ 10 :: crlf r
  | [], r, _ => rfl
  | c :: p, r, h => by
    have h' : NoPair (p ++ [13]) := NoPair.tail h
    rw [List.cons_append, crlf_cons (fun z => h 0 ⟨by simp [z.1], ?_⟩), crlf_app h', List.cons_append]
    have := z.2
    cases p with
    | nil => simp at this
    | cons a p => simpa using this
theorem at_pair (l : List Nat) (i : Nat) : StrLaws.At (S l) (S [13, 10]) (S l).length i ↔ (l[i]? = some 13 ∧ l[i + 1]? = some 10) := by
  unfold StrLaws.At
  have e2 : (S [13, 10]).length = 2 := rfl
  rw [StrLaws.subAt_eq, e2, S_cps, S_cps, S_len]
  constructor
  · rintro ⟨h1, h2⟩
    have h3 : (l.drop i).take 2 = [13, 10] := eq_of_beq h2
    have a0 : ((l.drop i).take 2)[0]? = some 13 := by rw [h3]; rfl
    have a1 : ((l.drop i).take 2)[1]? = some 10 := by rw [h3]; rfl
    rw [List.getElem?_take_of_lt (by omega), List.getElem?_drop] at a0 a1
    exact ⟨by simpa using a0, a1⟩
  · rintro ⟨h1, h2⟩
    have hl : i + 1 < l.length := by
      rcases Nat.lt_or_ge (i + 1) l.length with h | h
      · exact h
      · rw [List.getElem?_eq_none h] at h2; cases h2
    refine ⟨by omega, ?_⟩
    have e : l.drop i = 13 :: 10 :: l.drop (i + 2) := by
      rw [List.drop_eq_getElem_cons (by omega), List.drop_eq_getElem_cons (by omega)]
      have b0 : l[i] = 13 := by have := h1; rw [List.getElem?_eq_getElem (by omega)] at this; exact Option.some.inj this
      have b1 : l[i + 1] = 10 := by have := h2; rw [List.getElem?_eq_getElem hl] at this; exact Option.some.inj this
      rw [b0, b1]
    rw [e]; rfl
theorem sub_S (l : List Nat) (a b : Nat) : strSub (S l) a b = S ((l.drop a).take (b - a)) := by
  have := StrLaws.strSub_toList (S l) a b
  rw [S_cps] at this
  rw [S_of (strSub (S l) a b), this]
theorem join_parts (l : List Nat) : ∀ (cuts : List Nat) (a f : Nat), a ≤ l.length → StrLaws.ChainG (S l) (S [13, 10]) (S l).length a cuts f → (∀ k, f ≤ k → ¬ StrLaws.At (S l) (S [13, 10]) (S l).length k) →
    Str.join (S [10]) (StrLaws.partsFrom (S l) 2 a cuts) = S (crlf (l.drop a))
  | [], a, f, ha, h, hf => by
    have : f = a := h
    subst this
    have e : StrLaws.partsFrom (S l) 2 f [] = [strSub (S l) f (S l).length] := rfl
    rw [e]
    have e2 : Str.join (S [10]) [strSub (S l) f (S l).length] = strSub (S l) f (S l).length := rfl
    rw [e2, sub_S, S_inj, S_len, List.take_of_length_le (by rw [List.length_drop]; omega)]
    refine (crlf_id fun i z => hf (f + i) (by omega) ((at_pair l _).mpr ?_)).symm
    rw [List.getElem?_drop, List.getElem?_drop] at z
    exact ⟨z.1, by rw [Nat.add_assoc]; exact z.2⟩
  | c :: r, a, f, ha, h, hf => by
    obtain ⟨h1, h2, h3, h4⟩ := h
    have hc := (at_pair l c).mp h2
    have hl : c + 1 < l.length := by
      rcases Nat.lt_or_ge (c + 1) l.length with h | h
      · exact h
      · rw [List.getElem?_eq_none h] at hc; cases hc.2
    have e2 : (S [13, 10]).length = 2 := rfl
    rw [e2] at h4
    have ih := join_parts l r (c + 2) f (by omega) h4 hf
    obtain ⟨p, ps, ep⟩ := StrLaws.partsFrom_ne (S l) 2 (c + 2) r
    have e : StrLaws.partsFrom (S l) 2 a (c :: r) = strSub (S l) a c :: StrLaws.partsFrom (S l) 2 (c + 2) r := rfl
    rw [e, ep]
    rw [ep] at ih
    have ej : Str.join (S [10]) (strSub (S l) a c :: p :: ps) = strSub (S l) a c ++ S [10] ++ Str.join (S [10]) (p :: ps) := rfl
    rw [ej, ih, sub_S, S_app, S_app, S_inj]
    have ed : l.drop a = (l.drop a).take (c - a) ++ 13 :: 10 :: l.drop (c + 2) := by
      conv => lhs; rw [← List.take_append_drop (c - a) (l.drop a)]
      congr 1
      rw [List.drop_drop, show a + (c - a) = c by omega, List.drop_eq_getElem_cons (by omega), List.drop_eq_getElem_cons (by omega)]
      have b0 : l[c] = 13 := by have := hc.1; rw [List.getElem?_eq_getElem (by omega)] at this; exact Option.some.inj this
      have b1 : l[c + 1] = 10 := by have := hc.2; rw [List.getElem?_eq_getElem hl] at this; exact Option.some.inj this
      rw [b0, b1]
    have np : NoPair ((l.drop a).take (c - a) ++ [13]) := by
      intro i z
      have lp : ((l.drop a).take (c - a)).length = c - a := by rw [List.length_take, List.length_drop]; omega
      by_cases hi : i < c - a
      · refine h3 (a + i) (by omega) (by omega) ((at_pair l _).mpr ?_)
        have z1 := z.1
        rw [List.getElem?_append_left (by omega), List.getElem?_take_of_lt hi, List.getElem?_drop] at z1
        refine ⟨z1, ?_⟩
        have z2 := z.2
        by_cases hj : i + 1 < c - a
        · rw [List.getElem?_append_left (by omega), List.getElem?_take_of_lt hj, List.getElem?_drop] at z2
          rw [Nat.add_assoc]; exact z2
        · rw [List.getElem?_append_right (by omega), lp, show i + 1 - (c - a) = 0 by omega] at z2
          simp at z2
      · have z2 := z.2
        rw [List.getElem?_append_right (by omega), lp, List.getElem?_eq_none (by rw [List.length_singleton]; omega)] at z2
        cases z2
    conv => rhs; rw [ed, crlf_app np]
    rw [List.append_assoc, List.singleton_append]
theorem replace_pair (l : List Nat) : Txt.replace (S l) (S [13, 10]) (S [10]) = S (crlf l) := by
  obtain ⟨f, hc, hf⟩ := StrLaws.occ_tight (S l) (S [13, 10]) (by decide)
  have hj := join_parts l _ 0 f (Nat.zero_le _) hc hf
  rw [List.drop_zero] at hj
  unfold Txt.replace
  split
  · rename_i h
    have e2 : ((S [13, 10]).length == 0) = false := rfl
    rw [e2, Bool.false_and, Bool.or_false] at h
    have h0 : occurrences (S l) (S [13, 10]) 0 (S l).length ((S l).length + 1) = [] := by simpa using h
    rw [h0] at hj
    rw [← hj]
    show S l = strSub (S l) 0 (S l).length
    rw [sub_S, S_len]; simp
  · rw [StrLaws.partsBetween_eq, StrLaws.glued_eq_join]
    exact hj
/-- the text as the stream gives it: every line end one sign -/
def mend (l : List Nat) : List Nat := (crlf l).map fun x => if x = 13 then 10 else x
theorem mend_pair (r : List Nat) : mend (13 :: 10 :: r) = 10 :: mend r := rfl
theorem mend_cons {c : Nat} {r : List Nat} (h : ¬ (c = 13 ∧ r[0]? = some 10)) : mend (c :: r) = (if c = 13 then 10 else c) :: mend r := by
  unfold mend; rw [crlf_cons h]; rfl
theorem mend_nil : mend [] = [] := rfl
theorem mend_app : ∀ (n : Nat) (a b : List Nat), a.length ≤ n → (a.getLast? ≠ some 13 ∨ b[0]? ≠ some 10) → mend (a ++ b) = mend a ++ mend b
  | _, [], b, _, _ => rfl
  | n + 1, [c], b, hn, h => by
    have e : ¬ (c = 13 ∧ b[0]? = some 10) := fun z => by
      rcases h with h | h
      · exact h (by simp [z.1])
      · exact h z.2
    rw [List.singleton_append, mend_cons e, mend_cons (fun z => by simp at z)]
    rfl
  | n + 1, c :: c' :: r, b, hn, h => by
    have hl : (c :: c' :: r).getLast? = (c' :: r).getLast? := by simp
    by_cases hc : c = 13 ∧ c' = 10
    · obtain ⟨rfl, rfl⟩ := hc
      have h' : r.getLast? ≠ some 13 ∨ b[0]? ≠ some 10 := by
        rcases h with h | h
        · left
          intro z
          apply h
          cases r with
          | nil => simp at z
          | cons x y => simpa using z
        · exact .inr h
      show mend (13 :: 10 :: (r ++ b)) = _
      rw [mend_pair, mend_pair, mend_app n r b (by simp at hn; omega) h']
      rfl
    · have e1 : ¬ (c = 13 ∧ ((c' :: r) ++ b)[0]? = some 10) := fun z => hc ⟨z.1, by simpa using z.2⟩
      have e2 : ¬ (c = 13 ∧ (c' :: r)[0]? = some 10) := fun z => hc ⟨z.1, by simpa using z.2⟩
      rw [List.cons_append, mend_cons e1, mend_cons e2, mend_app n (c' :: r) b (by simp at hn ⊢; omega) (by rw [← hl]; exact h)]
      rfl
end Mine
end
section
open PySem PySem.Builtin PySem.Builtin.Str
set_option Elab.async false
set_option linter.unusedVariables false
namespace Mine
/- the law's table, as plain data -/
inductive Call where | data | tag | close | name | bogus
structure Tag where
  close : Bool
  name : List Nat
  given : Bool
inductive Told where
  | two (ty : Int) (s : Str)
  | three (ty : Int) (s x : Str)
  | tag (g : Tag)
structure Row where
  call : Call
  leaves : Bool
  held : Option Tag
  place : Nat
  told : List Told
def blanks : List Nat := [32, 9, 10, 12]
def letters : List Nat := List.range' 97 26 ++ List.range' 65 26
def ender : List Nat := blanks ++ [47, 62]
/-- e is where the run of signs from p ends -/
def UpTo (g : Nat → Bool) (M : List Nat) (p e : Nat) : Prop := p ≤ e ∧ e ≤ M.length ∧ (∀ i, p ≤ i → i < e → ∃ c, M[i]? = some c ∧ g c = true) ∧ (e = M.length ∨ ∃ c, M[e]? = some c ∧ g c = false)
theorem UpTo.uniq {g : Nat → Bool} {M : List Nat} {p e e' : Nat} (h : UpTo g M p e) (h' : UpTo g M p e') : e = e' := by
  obtain ⟨a1, a2, a3, a4⟩ := h
  obtain ⟨b1, b2, b3, b4⟩ := h'
  rcases Nat.lt_trichotomy e e' with z | z | z
  · rcases a4 with a4 | ⟨c, a4, a5⟩
    · omega
    · obtain ⟨c', h1, h2⟩ := b3 e a1 z
      rw [a4] at h1; cases h1; rw [a5] at h2; cases h2
  · exact z
  · rcases b4 with b4 | ⟨c, b4, b5⟩
    · omega
    · obtain ⟨c', h1, h2⟩ := a3 e' b1 z
      rw [b4] at h1; cases h1; rw [b5] at h2; cases h2
theorem UpTo.step {g : Nat → Bool} {M : List Nat} {p e c : Nat} (h : UpTo g M p e) (hc : M[p]? = some c) (hg : g c = true) : UpTo g M (p + 1) e := by
  obtain ⟨a1, a2, a3, a4⟩ := h
  refine ⟨?_, a2, fun i h1 h2 => a3 i (by omega) h2, a4⟩
  rcases Nat.lt_or_ge p e with z | z
  · exact z
  · have : e = p := by omega
    subst this
    rcases a4 with a4 | ⟨c', a4, a5⟩
    · rw [a4, List.getElem?_eq_none (Nat.le_refl _)] at hc; cases hc
    · rw [a4] at hc; cases hc; rw [a5] at hg; cases hg
theorem UpTo.congr {g g' : Nat → Bool} {M : List Nat} {p e : Nat} (h : UpTo g M p e) (hg : ∀ c ∈ M, g c = g' c) : UpTo g' M p e := by
  obtain ⟨a1, a2, a3, a4⟩ := h
  refine ⟨a1, a2, fun i h1 h2 => ?_, ?_⟩
  · obtain ⟨c, x, y⟩ := a3 i h1 h2
    exact ⟨c, x, by rw [← hg c (List.mem_of_getElem? x)]; exact y⟩
  · rcases a4 with a4 | ⟨c, x, y⟩
    · exact .inl a4
    · exact .inr ⟨c, x, by rw [← hg c (List.mem_of_getElem? x)]; exact y⟩
theorem UpTo.back {g : Nat → Bool} {M : List Nat} {p e c : Nat} (h : UpTo g M (p + 1) e) (hc : M[p]? = some c) (hg : g c = true) : UpTo g M p e := by
  obtain ⟨a1, a2, a3, a4⟩ := h
  refine ⟨by omega, a2, fun i h1 h2 => ?_, a4⟩
  rcases Nat.eq_or_lt_of_le h1 with z | z
  · subst z; exact ⟨c, hc, hg⟩
  · exact a3 i z h2
/-- nought is told otherwise -/
def noNul (l : List Nat) : List Nat := l.map fun x => if x = 0 then 65533 else x
def smallC (c : Nat) : Nat := if 65 ≤ c ∧ c ≤ 90 then c + 32 else c
abbrev bad (s : String) : Told := .two 7 (Str.ofString s)
inductive SData (M : List Nat) (p : Nat) (h : Option Tag) : Bool → Option Tag → Nat → List Told → Prop where
  | amp : M[p]? = some 38 → SData M p h true h (p + 1) []
  | lt : M[p]? = some 60 → SData M p h true h (p + 1) []
  | nul : M[p]? = some 0 → SData M p h false h (p + 1) [bad "invalid-codepoint", .two 1 (S [0])]
  | blank {c e : Nat} : M[p]? = some c → c ∈ blanks → UpTo (fun c => decide (c ∈ blanks)) M p e → SData M p h false h e [.two 2 (S ((M.take e).drop p))]
  | text {c e : Nat} : M[p]? = some c → c ∉ blanks → c ≠ 38 → c ≠ 60 → c ≠ 0 → UpTo (fun c => !decide (c ∈ [38, 60, 0])) M p e → SData M p h false h e [.two 1 (S ((M.take e).drop p))]
inductive STag (M : List Nat) (p : Nat) (h : Option Tag) : Bool → Option Tag → Nat → List Told → Prop where
  | slash : M[p]? = some 47 → STag M p h true h (p + 1) []
  | letter {c : Nat} : M[p]? = some c → c ∈ letters → STag M p h true (some ⟨false, [c], false⟩) (p + 1) []
  | bang : M[p]? = some 33 → STag M p h true h (p + 1) []
  | gt : M[p]? = some 62 → STag M p h true h (p + 1) [bad "expected-tag-name-but-got-right-bracket", .two 1 (S [60, 62])]
  | ask : M[p]? = some 63 → STag M p h true h p [bad "expected-tag-name-but-got-question-mark"]
  | end : p = M.length → STag M p h true h p [bad "expected-tag-name", .two 1 (S [60])]
  | other {c : Nat} : M[p]? = some c → c ≠ 47 → c ∉ letters → c ≠ 33 → c ≠ 62 → c ≠ 63 → STag M p h true h p [bad "expected-tag-name", .two 1 (S [60])]
inductive SClose (M : List Nat) (p : Nat) (h : Option Tag) : Bool → Option Tag → Nat → List Told → Prop where
  | letter {c : Nat} : M[p]? = some c → c ∈ letters → SClose M p h true (some ⟨true, [c], false⟩) (p + 1) []
  | gt : M[p]? = some 62 → SClose M p h true h (p + 1) [bad "expected-closing-tag-but-got-right-bracket"]
  | end : p = M.length → SClose M p h true h p [bad "expected-closing-tag-but-got-eof", .two 1 (S [60, 47])]
  | other {c : Nat} : M[p]? = some c → c ∉ letters → c ≠ 62 → SClose M p h true h p [.three 7 (Str.ofString "expected-closing-tag-but-got-char") (S [c])]
inductive SName (M : List Nat) (p : Nat) (b : Bool) (n : List Nat) : Bool → Option Tag → Nat → List Told → Prop where
  | nul : M[p]? = some 0 → SName M p b n false (some ⟨b, n ++ [65533], false⟩) (p + 1) [bad "invalid-codepoint"]
  | char {c : Nat} : M[p]? = some c → c ∉ ender → c ≠ 0 → SName M p b n false (some ⟨b, n ++ [c], false⟩) (p + 1) []
  | stop {c : Nat} : M[p]? = some c → c ∈ ender → c ≠ 62 → SName M p b n true (some ⟨b, n, false⟩) (p + 1) []
  | gt : M[p]? = some 62 → SName M p b n true (some ⟨b, n.map smallC, true⟩) (p + 1) [.tag ⟨b, n.map smallC, true⟩]
  | end : p = M.length → SName M p b n true (some ⟨b, n, false⟩) p [bad "eof-in-tag-name"]
inductive SBogus (M : List Nat) (p : Nat) (h : Option Tag) : Bool → Option Tag → Nat → List Told → Prop where
  | mk {q : Nat} : UpTo (fun c => !decide (c ∈ [62])) M p q → SBogus M p h true h (min (q + 1) M.length) [.two 6 (S (noNul ((M.take q).drop p)))]
inductive Step (M : List Nat) (p : Nat) (h : Option Tag) : Row → Prop where
  | data {l h' p' t} : SData M p h l h' p' t → Step M p h ⟨.data, l, h', p', t⟩
  | tag {l h' p' t} : STag M p h l h' p' t → Step M p h ⟨.tag, l, h', p', t⟩
  | close {l h' p' t} : SClose M p h l h' p' t → Step M p h ⟨.close, l, h', p', t⟩
  | name {b n l h' p' t} : h = some ⟨b, n, false⟩ → n.length ≤ M.length → (∀ c ∈ n, c ∈ M ∨ c = 65533) → SName M p b n l h' p' t → Step M p h ⟨.name, l, h', p', t⟩
  | bogus {l h' p' t} : SBogus M p h l h' p' t → Step M p h ⟨.bogus, l, h', p', t⟩
inductive Chain (M : List Nat) : Nat → Option Tag → List Row → Nat → Option Tag → Prop where
  | nil {p h} : Chain M p h [] p h
  | cons {p h} {row : Row} {rows : List Row} {p' : Nat} {h'} : Step M p h row → Chain M row.place row.held rows p' h' → Chain M p h (row :: rows) p' h'
theorem Chain.snoc {M : List Nat} {p h rows p' h'} (c : Chain M p h rows p' h') {row : Row} (s : Step M p' h' row) : Chain M p h (rows ++ [row]) row.place row.held := by
  induction c with
  | nil => exact .cons s .nil
  | cons a _ ih => exact .cons a (ih s)
theorem any_S (l : List Nat) (c : Nat) : (l.map fun c => S [c]).any (· == S [c]) = decide (c ∈ l) := by
  induction l with
  | nil => rfl
  | cons a r ih =>
    rw [List.map_cons, List.any_cons, ih, S_beq]
    by_cases h : a = c
    · subst h; simp
    · have : ¬ c = a := fun e => h e.symm
      simp [h, this]
theorem mend_no13 (l : List Nat) : 13 ∉ mend l := by
  rw [mend, List.mem_map]
  rintro ⟨x, _, h⟩
  split at h <;> simp_all
end Mine
end
section
open PySem PySem.Builtin PySem.Builtin.Str
set_option Elab.async false
set_option linter.unusedVariables false
namespace Mine
theorem no_end {M : List Nat} {p c : Nat} (h : M[p]? = some c) (e : p = M.length) : False := by rw [e, List.getElem?_eq_none (Nat.le_refl _)] at h; cases h
theorem same_at {M : List Nat} {p c d : Nat} (h : M[p]? = some c) (k : M[p]? = some d) : c = d := by rw [h] at k; exact Option.some.inj k
/-- what a call answers -/
abbrev Out := Bool × Option Tag × Nat × List Told
theorem not_some {c d : Nat} (h : c ≠ d) : ¬ (some c = some d) := fun z => h (Option.some.inj z)
theorem not_in {c d : Nat} {l : List Nat} (k : c ∈ l) (h : d ∉ l) : ¬ (some c = some d) := fun z => h (Option.some.inj z ▸ k)
theorem not_out {c d : Nat} {l : List Nat} (k : c ∉ l) (h : d ∈ l) : ¬ (some c = some d) := fun z => k (Option.some.inj z ▸ h)
theorem out_inj {o : Out} {l1 h1 p1 t1 l2 h2 p2 t2} (a : o = (l1, h1, p1, t1)) (b : o = (l2, h2, p2, t2)) : l1 = l2 ∧ h1 = h2 ∧ p1 = p2 ∧ t1 = t2 := by
  subst a; cases b; exact ⟨rfl, rfl, rfl, rfl⟩
def dataF (M : List Nat) (h : Option Tag) (p e c : Nat) : Out :=
  if c = 38 then (true, h, p + 1, []) else if c = 60 then (true, h, p + 1, []) else if c = 0 then (false, h, p + 1, [bad "invalid-codepoint", .two 1 (S [0])]) else
  if c ∈ blanks then (false, h, e, [.two 2 (S ((M.take e).drop p))]) else (false, h, e, [.two 1 (S ((M.take e).drop p))])
def DataE (M : List Nat) (p e c : Nat) : Prop :=
  (c ∈ blanks → UpTo (fun c => decide (c ∈ blanks)) M p e) ∧ (c ∉ blanks → c ≠ 38 → c ≠ 60 → c ≠ 0 → UpTo (fun c => !decide (c ∈ [38, 60, 0])) M p e)
theorem ne_in {c d : Nat} {l : List Nat} (k : c ∈ l) (h : d ∉ l) : ¬ c = d := fun z => h (z ▸ k)
theorem SData.out {M : List Nat} {p : Nat} {h l h' p' t} (a : SData M p h l h' p' t) : ∃ c e, M[p]? = some c ∧ DataE M p e c ∧ dataF M h p e c = (l, h', p', t) := by
  cases a with
  | amp m => exact ⟨38, p, m, ⟨fun k => absurd k (by decide), fun _ k => absurd rfl k⟩, rfl⟩
  | lt m => exact ⟨60, p, m, ⟨fun k => absurd k (by decide), fun _ _ k => absurd rfl k⟩, rfl⟩
  | nul m => exact ⟨0, p, m, ⟨fun k => absurd k (by decide), fun _ _ _ k => absurd rfl k⟩, rfl⟩
  | blank m k u => exact ⟨_, _, m, ⟨fun _ => u, fun n => absurd k n⟩, by rw [dataF, if_neg (ne_in k (by decide)), if_neg (ne_in k (by decide)), if_neg (ne_in k (by decide))]; exact if_pos k⟩
  | text m n a b d u => exact ⟨_, _, m, ⟨fun k => absurd k n, fun _ _ _ _ => u⟩, by rw [dataF, if_neg a, if_neg b, if_neg d]; exact if_neg n⟩
theorem SData.det {M : List Nat} {p : Nat} {h l1 h1 p1 t1 l2 h2 p2 t2} (a : SData M p h l1 h1 p1 t1) (b : SData M p h l2 h2 p2 t2) : l1 = l2 ∧ h1 = h2 ∧ p1 = p2 ∧ t1 = t2 := by
  obtain ⟨c, e, m, E, o⟩ := a.out
  obtain ⟨c', e', m', E', o'⟩ := b.out
  obtain rfl := same_at m m'
  have z : dataF M h p e c = dataF M h p e' c := by
    unfold dataF
    by_cases k0 : c = 38
    · rw [if_pos k0, if_pos k0]
    · by_cases k1 : c = 60
      · rw [if_pos k1, if_pos k1]
      · by_cases k2 : c = 0
        · rw [if_pos k2, if_pos k2]
        · by_cases kb : c ∈ blanks
          · rw [UpTo.uniq (E.1 kb) (E'.1 kb)]
          · rw [UpTo.uniq (E.2 kb k0 k1 k2) (E'.2 kb k0 k1 k2)]
  exact out_inj (z ▸ o) o'
def tagF (h : Option Tag) (p : Nat) (c : Option Nat) : Out :=
  if c = some 47 then (true, h, p + 1, []) else if c = some 33 then (true, h, p + 1, []) else
  if c = some 62 then (true, h, p + 1, [bad "expected-tag-name-but-got-right-bracket", .two 1 (S [60, 62])]) else
  if c = some 63 then (true, h, p, [bad "expected-tag-name-but-got-question-mark"]) else match c with
  | none => (true, h, p, [bad "expected-tag-name", .two 1 (S [60])])
  | some c => if c ∈ letters then (true, some ⟨false, [c], false⟩, p + 1, []) else (true, h, p, [bad "expected-tag-name", .two 1 (S [60])])
def closeF (h : Option Tag) (p : Nat) (c : Option Nat) : Out :=
  if c = some 62 then (true, h, p + 1, [bad "expected-closing-tag-but-got-right-bracket"]) else match c with
  | none => (true, h, p, [bad "expected-closing-tag-but-got-eof", .two 1 (S [60, 47])])
  | some c => if c ∈ letters then (true, some ⟨true, [c], false⟩, p + 1, []) else (true, h, p, [.three 7 (Str.ofString "expected-closing-tag-but-got-char") (S [c])])
def nameF (b : Bool) (n : List Nat) (p : Nat) (c : Option Nat) : Out :=
  if c = some 0 then (false, some ⟨b, n ++ [65533], false⟩, p + 1, [bad "invalid-codepoint"]) else
  if c = some 62 then (true, some ⟨b, n.map smallC, true⟩, p + 1, [.tag ⟨b, n.map smallC, true⟩]) else match c with
  | none => (true, some ⟨b, n, false⟩, p, [bad "eof-in-tag-name"])
  | some c => if c ∈ ender then (true, some ⟨b, n, false⟩, p + 1, []) else (false, some ⟨b, n ++ [c], false⟩, p + 1, [])
theorem none_at {M : List Nat} {p : Nat} (e : p = M.length) : M[p]? = none := List.getElem?_eq_none (Nat.le_of_eq e.symm)
theorem STag.out {M : List Nat} {p : Nat} {h l h' p' t} (a : STag M p h l h' p' t) : tagF h p M[p]? = (l, h', p', t) := by
  cases a with
  | slash e => rw [e]; rfl
  | bang e => rw [e]; rfl
  | gt e => rw [e]; rfl
  | ask e => rw [e]; rfl
  | «end» e => rw [none_at e]; rfl
  | letter e k => rw [e, tagF, if_neg (not_in k (by decide)), if_neg (not_in k (by decide)), if_neg (not_in k (by decide)), if_neg (not_in k (by decide))]; exact if_pos k
  | other e k1 k k2 k3 k4 => rw [e, tagF, if_neg (not_some k1), if_neg (not_some k2), if_neg (not_some k3), if_neg (not_some k4)]; exact if_neg k
theorem SClose.out {M : List Nat} {p : Nat} {h l h' p' t} (a : SClose M p h l h' p' t) : closeF h p M[p]? = (l, h', p', t) := by
  cases a with
  | gt e => rw [e]; rfl
  | «end» e => rw [none_at e]; rfl
  | letter e k => rw [e, closeF, if_neg (not_in k (by decide))]; exact if_pos k
  | other e k k1 => rw [e, closeF, if_neg (not_some k1)]; exact if_neg k
theorem SName.out {M : List Nat} {p : Nat} {b : Bool} {n : List Nat} {l h' p' t} (a : SName M p b n l h' p' t) : nameF b n p M[p]? = (l, h', p', t) := by
  cases a with
  | nul e => rw [e]; rfl
  | gt e => rw [e]; rfl
  | «end» e => rw [none_at e]; rfl
  | stop e k k1 => rw [e, nameF, if_neg (not_in k (by decide)), if_neg (not_some k1)]; exact if_pos k
  | char e k k1 => rw [e, nameF, if_neg (not_some k1), if_neg (not_out k (by decide))]; exact if_neg k
theorem STag.det {M : List Nat} {p : Nat} {h l1 h1 p1 t1 l2 h2 p2 t2} (a : STag M p h l1 h1 p1 t1) (b : STag M p h l2 h2 p2 t2) : l1 = l2 ∧ h1 = h2 ∧ p1 = p2 ∧ t1 = t2 := out_inj a.out b.out
theorem SClose.det {M : List Nat} {p : Nat} {h l1 h1 p1 t1 l2 h2 p2 t2} (a : SClose M p h l1 h1 p1 t1) (b : SClose M p h l2 h2 p2 t2) : l1 = l2 ∧ h1 = h2 ∧ p1 = p2 ∧ t1 = t2 := out_inj a.out b.out
theorem SName.det {M : List Nat} {p : Nat} {b : Bool} {n : List Nat} {l1 h1 p1 t1 l2 h2 p2 t2} (x : SName M p b n l1 h1 p1 t1) (y : SName M p b n l2 h2 p2 t2) : l1 = l2 ∧ h1 = h2 ∧ p1 = p2 ∧ t1 = t2 := out_inj x.out y.out
theorem SBogus.det {M : List Nat} {p : Nat} {h l1 h1 p1 t1 l2 h2 p2 t2} (a : SBogus M p h l1 h1 p1 t1) (b : SBogus M p h l2 h2 p2 t2) : l1 = l2 ∧ h1 = h2 ∧ p1 = p2 ∧ t1 = t2 := by
  cases a with
  | mk a => cases b with
    | mk b => have z := UpTo.uniq a b; subst z; exact ⟨rfl, rfl, rfl, rfl⟩
theorem SData.some {M : List Nat} {p : Nat} {h l1 h1 p1 t1} (a : SData M p h l1 h1 p1 t1) : p ≠ M.length := by
  cases a <;> exact fun e => no_end ‹_› e
end Mine
end
section
open PySem PySem.W PyProof.Rows PySem.Spec PySem.Calls
set_option Elab.async false
set_option linter.unusedVariables false
set_option maxRecDepth 100000
namespace Mine
theorem list_nokeys : typeLookup (.type "list") (Str.ofString "keys") = pure none := by rw [typeLookup_type, builtinLookup_eq_fast]; kernel_rfl
theorem list_nohook : typeLookup (.type "list") "__getattr__" = pure none := by rw [typeLookup_type, builtinLookup_eq_fast]; kernel_rfl
theorem meets_list_miss (a : Addr) (vs : Array Value) (n : Nat) (u : Tok) :
    PySem.Meets (Builtin.«object.__getattribute__» ⟨[.ref a, .str (Str.ofString "keys") u], []⟩) (fun A R s => s.heap.get? a = some { cls := .type "list", data := .seq vs n } ∧ raisesAttr (.ref a) (Str.ofString "keys") A R s) :=
  PySem.Meets.of_wp fun prog w A R s hs => by
    obtain ⟨hp, g, d, tk, os⟩ := s
    obtain ⟨hx, hs⟩ := hs
    have hT : ∀ g d t os, (⟨hp, g, d, t, os⟩ : Shared).TypeIs (.ref a) "list" := fun _ _ _ _ => ⟨_, hx, rfl⟩
    have hT1 := hT g d tk os
    have f1 := list_nokeys
    unfold Builtin.«object.__getattribute__»
    repeat (any_goals (first | assumption | wp_step | rw [if_neg (by decide +kernel)]))
    exact wpAny_raiseAttrError hs.1 hs.2 (attrMsg_fits (by decide +kernel) (by decide +kernel))
theorem getAttr_keys_list {prog : Program} {w : World} {A : Around} {E : Value → Shared → Prop} {s : Shared} {a : Addr} {vs : Array Value} {n : Nat} {Q : Option Value → Shared → Prop} (hx : s.heap.get? a = some { cls := .type "list", data := .seq vs n }) (hA : A.handled = none)
    (h : ∀ h' tk, (∀ b ob, s.heap.get? b = some ob → h'.get? b = some ob) → Q none { s with heap := h', toks := tk }) :
    wpAny (model prog w) A (getAttr? (.ref a) "keys") Q E s := by
  obtain ⟨hp, g, d, tk, os⟩ := s
  have hT : ∀ g d t os, (⟨hp, g, d, t, os⟩ : Shared).TypeIs (.ref a) "list" := fun _ _ _ _ => ⟨_, hx, rfl⟩
  have hT1 := hT g d tk os
  have hT2 := hT g d (tk + 1) os
  have f1 := sub_AttributeError
  have f3 := F.slot_list_getattribute.lookup
  have f4 := F.slot_list_getattribute.bind (.ref a)
  have f5 := list_nohook
  unfold getAttr? getAttrBy? getAttrBy
  repeat (any_goals (first | assumption | ((with_reducible show wpAny _ _ (call (Value.builtin "list.__getattribute__") _ _) _ _ _); refine call_meets F.slot_list_getattribute (hT _ _ _ _) F.entry_list_ga (F.args_list_getattribute_2 _ _) (meets_list_miss a vs n _) ⟨hx, hA, fun h' tk' e hx' => ?_⟩) | wp_step))
  obtain ⟨t', u', he⟩ := hx'.there
  show wpAny _ _ (getattributeRaised _ _ _ _ _ _ _) _ _ _
  unfold getattributeRaised
  repeat (any_goals (first | assumption | wp_step))
  exact h _ _ hx'.keeps
end Mine
end
section
open PySem PySem.W PyProof.Rows PySem.Spec PySem.Calls
set_option Elab.async false
set_option linter.unusedVariables false
set_option maxRecDepth 100000
namespace Mine
theorem entry_upd_loop : entryFor table "dict.update.loop" = some Builtin.«dict.update.loop» := entryFor_of_tree (by kernel_rfl)
theorem plain_upd_loop : plainId "dict.update.loop" = true := by decide +kernel
theorem dict_of_nil {prog : Program} {w : World} {A : Around} {E : Value → Shared → Prop} {s : Shared} {a : Addr} {n : Nat} {Q : Value → Shared → Prop} (hx : s.heap.get? a = some { cls := .type "list", data := .seq #[] n }) (hA : A.handled = none)
    (h : ∀ h' tk, (∀ b ob, s.heap.get? b = some ob → h'.get? b = some ob) → h'.get? s.heap.objs.size = some { cls := .type "dict", data := .dict #[] } → Q (.ref s.heap.objs.size) { s with heap := h', toks := tk }) :
    wpAny (model prog w) A (call (.type "dict") [.ref a]) Q E s := by
  refine callType_codes (Q₁ := fun obj s₁ => obj = .ref s.heap.objs.size ∧ s₁ = { s with heap := s.heap.push { cls := .type "dict", data := .dict #[] } }) F.kt_called_dict (F.kt_typeCall_dict_1 _) F.entry_dict_init (kt_code_dict_new _ ⟨rfl, rfl⟩) ?_
  rintro obj s₁ ⟨rfl, rfl⟩
  have hnew : (s.heap.push { cls := .type "dict", data := .dict #[] }).get? s.heap.objs.size = some { cls := .type "dict", data := .dict #[] } := Heap.get?_push_size _ rfl
  have hx1 : (s.heap.push { cls := .type "dict", data := .dict #[] }).get? a = some { cls := .type "list", data := .seq #[] n } := Heap.get?_push_of_some _ hx
  have hTd : ({ s with heap := s.heap.push { cls := .type "dict", data := .dict #[] } } : Shared).TypeIs (.ref s.heap.objs.size) "dict" := ⟨_, hnew, rfl⟩
  have hTl : ({ s with heap := s.heap.push { cls := .type "dict", data := .dict #[] } } : Shared).TypeIs (.ref a) "list" := ⟨_, hx1, rfl⟩
  refine ⟨hTd, F.args_dict_init_2 _ _, ?_⟩
  unfold Builtin.«dict.__init__»
  refine wpAny_bind ?_
  unfold Builtin.Dict.selfAndRest
  refine wpAny_bind (wpAny_notOrdered_dict hTd ?_)
  show wpAny _ _ (pure (s.heap.objs.size, [Value.ref a])) _ _ _
  refine wpAny_pure ?_
  show wpAny _ _ (Builtin.Dict.updateFrom "dict.__init__" s.heap.objs.size (.ref a) [] .none) _ _ _
  unfold Builtin.Dict.updateFrom
  refine wpAny_bind (wpAny_typeOf hTl ?_)
  rw [if_pos (by decide)]
  refine wpAny_bind ?_
  refine getAttr_keys_list hx1 hA fun h' tk hk => ?_
  rw [if_pos (show (none : Option Value).isNone = true from rfl)]
  refine wpAny_bind (wpAny_rule ?_)
  have hx2 : h'.get? a = some { cls := .type "list", data := .seq #[] n } := hk _ _ hx1
  have hlt : a < h'.objs.size := Heap.lt_size hx2
  refine wpAny_bind (wpAny_pyIter_list (items := #[]) ⟨_, hx2, rfl, n, rfl⟩ ?_)
  refine wpAny_pure ⟨plainId_quiet plain_upd_loop _, codeAny_builtin entry_upd_loop ?_⟩
  rw [Around.under_plainId plain_upd_loop _]
  unfold Builtin.«dict.update.loop»
  refine wpAny_bind ((Walks.list (A := A.in1.in1) hA h'.objs.size a (Nat.ne_of_lt hlt) #[]).done _ _ _ ⟨⟨_, Heap.get?_push_size _ rfl, rfl, rfl⟩, ⟨_, Heap.get?_push_of_some _ hx2, rfl, n, rfl⟩⟩ fun h2 tk2 hk2 => ?_)
  have up : ∀ b ob, h'.get? b = some ob → h2.get? b = some ob := fun b ob e => hk2 b ob (by simpa using Nat.ne_of_lt (Heap.lt_size e)) (Heap.get?_push_of_some _ e)
  refine wpAny_bind (wpAny_pure (wpAny_pure ⟨rfl, h h2 tk2 (fun b ob e => up _ _ (hk _ _ (Heap.get?_push_of_some _ e))) (up _ _ (hk _ _ hnew))⟩))
end Mine
end
section
open PySem PySem.W PyProof.Rows PySem.Spec PySem.Calls
set_option Elab.async false
set_option genInjectivity false
set_option genSizeOf false
set_option linter.unusedVariables false
set_option maxRecDepth 100000
namespace Mine

abbrev PG : Program := PySem.Challenge.rw_rb0001_03.row.prog
abbrev Lo := List (Str × Value)
abbrev Led := List (Addr × Obj)

/-- what is fixed of a def: its long name, its scope, its address, its code -/
structure Fn where
  qual : Str
  scope : Scope
  addr : Addr
  code : Value

/-- what is fixed during one call of a def -/
structure Cx (fn : Fn) where
  w : World
  A : Around
  L : Addr
  h₀ : Heap
  A₀ : Around
  base : Heap
  outer : List Env
  loose : List Str
  mean : ExcName → Option Value
  mg : Str → Option Value
  mb : Str → Option Value
  g : Array GenState
  dr : Drawn
  os : OsState

def Cx.env {fn : Fn} (C : Cx fn) : Env := envOf fn.qual fn.scope C.L fn.addr fn.code

structure Cx.Ok {fn : Fn} (C : Cx fn) (k : Nat) : Prop where
  B : Below C.A₀ C.base C.outer C.h₀
  X : (Mine.K C.w.params).In C.h₀
  T : Top Mine.Q C.loose C.mean C.mg C.mb C.h₀
  fr : C.A.frames = some (C.env :: C.outer)
  kd : fn.scope.kind = .function
  hd : C.A.handled = none
  dp : C.A.depth + k < recursionLimit
  un : C.A.units + 16 * k < cLine

theorem Cx.Ok.le {fn : Fn} {C : Cx fn} {k j : Nat} (h : C.Ok k) (hj : j ≤ k) : C.Ok j :=
  ⟨h.B, h.X, h.T, h.fr, h.kd, h.hd, by have := h.dp; omega, by have := h.un; omega⟩

/-- the map knows what the list says -/
def Knows (m : Str → Option Value) (lo : Lo) : Prop := ∀ x v, lo.lookup x = some v → m x = some v

structure St {fn : Fn} (C : Cx fn) (lo : Lo) (led : Led) (s : Shared) : Prop where
  F : ∃ m, Fr C.h₀ C.L s.heap m ∧ Knows m lo
  N : News C.h₀ C.L s.heap led
  nd : (led.map (·.1)).Nodup
  g : s.gens = C.g
  dr : s.drawn = C.dr
  os : s.os = C.os
  tk : 0 < s.toks

def No : Value → Shared → Prop := fun _ _ => False

def WP {α : Type} {fn : Fn} (C : Cx fn) (lo : Lo) (led : Led) (t : Sem α) (Q : α → Lo → Led → Prop) : Prop :=
  ∀ s, St C lo led s → wpAny (model PG C.w) C.A t (fun v s' => ∃ lo' led', St C lo' led' s' ∧ Q v lo' led') No s

section
variable {α β : Type} {fn : Fn} {C : Cx fn} {lo : Lo} {led : Led}

theorem WP.go {t : Sem α} {Q : α → Lo → Led → Prop} {R : α → Shared → Prop} {s : Shared} (h : WP C lo led t Q) (hs : St C lo led s)
    (k : ∀ v lo' led' s', St C lo' led' s' → Q v lo' led' → R v s') : wpAny (model PG C.w) C.A t R No s :=
  wpAny_mono (h s hs) (fun v s' ⟨lo', led', a, b⟩ => k v lo' led' s' a b) (fun _ _ x => x)
theorem WP.mono {t : Sem α} {Q Q' : α → Lo → Led → Prop} (h : WP C lo led t Q) (k : ∀ v lo' led', Q v lo' led' → Q' v lo' led') : WP C lo led t Q' :=
  fun _ hs => h.go hs fun v lo' led' _ a b => ⟨lo', led', a, k v lo' led' b⟩
theorem WP.pure {a : α} {Q : α → Lo → Led → Prop} (h : Q a lo led) : WP C lo led (pure a) Q := fun _ hs => wpAny_pure ⟨lo, led, hs, h⟩
theorem WP.bind {t : Sem α} {f : α → Sem β} {Q : β → Lo → Led → Prop} (h : WP C lo led t (fun a lo' led' => WP C lo' led' (f a) Q)) : WP C lo led (t >>= f) Q :=
  fun _ hs => wpAny_bind (h.go hs fun _ _ _ _ a b => b _ a)

theorem St.toks {s : Shared} (h : St C lo led s) (k : Nat) (hk : 0 < k := by first | exact Nat.succ_pos _ | omega) : St C lo led { s with toks := k } := ⟨h.F, h.N, h.nd, h.g, h.dr, h.os, hk⟩
theorem St.heap {s : Shared} {lo' : Lo} {led' : Led} {m : Str → Option Value} (h : St C lo led s) {h' : Heap} {k : Nat} (F : Fr C.h₀ C.L h' m) (hm : Knows m lo') (N : News C.h₀ C.L h' led') (nd : (led'.map (·.1)).Nodup) (hk : 0 < k := by first | exact Nat.succ_pos _ | assumption | omega) :
    St C lo' led' { s with heap := h', toks := k } := ⟨⟨m, F, hm⟩, N, nd, h.g, h.dr, h.os, hk⟩
theorem nodup_new {a : Addr} {o : Obj} (nd : (led.map (·.1)).Nodup) (lt : ∀ p ∈ led, p.1 < a) : (((a, o) :: led).map (·.1)).Nodup :=
  List.nodup_cons.mpr ⟨fun hm => by obtain ⟨p, hp, e⟩ := List.mem_map.mp hm; exact absurd (lt p hp) (by rw [e]; exact Nat.lt_irrefl _), nd⟩
theorem St.alloc {s : Shared} {a : Addr} {o : Obj} {m : Str → Option Value} (h : St C lo led s) {h' : Heap} {k : Nat} (F : Fr C.h₀ C.L h' m) (hm : Knows m lo) (N : News C.h₀ C.L h' ((a, o) :: led)) (lt : ∀ p ∈ led, p.1 < a) (hk : 0 < k := by first | exact Nat.succ_pos _ | assumption | omega) :
    St C lo ((a, o) :: led) { s with heap := h', toks := k } := h.heap F hm N (nodup_new h.nd lt) hk
theorem St.lt {s : Shared} (h : St C lo led s) : ∀ p ∈ led, p.1 < s.heap.objs.size := fun p hp => Heap.lt_size (h.N p hp).1

/- forgetting -/
def Fewer (lo' lo : Lo) : Prop := ∀ p ∈ lo', lo.lookup p.1 = some p.2
theorem mem_of_lookup : ∀ {l : Lo} {x : Str} {v : Value}, l.lookup x = some v → (x, v) ∈ l
  | (y, u) :: r, x, v, h => by
    rw [List.lookup_cons] at h
    split at h
    · rename_i e; cases h; rw [eq_of_beq e]; exact .head _
    · exact .tail _ (mem_of_lookup h)
theorem Fewer.knows {lo' : Lo} {m : Str → Option Value} (h : Fewer lo' lo) (k : Knows m lo) : Knows m lo' := fun x v hv => k x v (h (x, v) (mem_of_lookup hv))
/-- the ledger's part: some list whose members, rearranged, stand in the other -/
def Part (l led : Led) : Prop := ∃ junk, led.Perm (l ++ junk)
theorem Part.mem {l : Led} (h : Part l led) : ∀ p ∈ l, p ∈ led := fun p hp => let ⟨_, q⟩ := h; q.mem_iff.mpr (List.mem_append_left _ hp)
theorem Part.nodup {l : Led} (h : Part l led) (nd : (led.map (·.1)).Nodup) : (l.map (·.1)).Nodup := by
  obtain ⟨j, q⟩ := h
  have := (q.map (·.1)).nodup nd
  rw [List.map_append] at this
  exact (List.nodup_append.mp this).1
theorem Part.refl (l : Led) : Part l l := ⟨[], by rw [List.append_nil]⟩
theorem Part.trans {a b c : Led} (h : Part a b) (k : Part b c) : Part a c := by
  obtain ⟨j, p⟩ := h; obtain ⟨i, q⟩ := k
  exact ⟨j ++ i, q.trans (by rw [← List.append_assoc]; exact p.append_right i)⟩
theorem St.less {s : Shared} {lo' : Lo} {led' : Led} (h : St C lo led s) (hl : Fewer lo' lo) (hp : Part led' led) : St C lo' led' s :=
  let ⟨m, F, k⟩ := h.F
  ⟨⟨m, F, hl.knows k⟩, fun p hq => h.N p (hp.mem p hq), hp.nodup h.nd, h.g, h.dr, h.os, h.tk⟩
theorem WP.less {t : Sem α} {Q : α → Lo → Led → Prop} {lo' : Lo} {led' : Led} (h : WP C lo' led' t Q) (hl : Fewer lo' lo) (hp : Part led' led) : WP C lo led t Q :=
  fun s hs => h s (hs.less hl hp)
theorem Fewer.refl_nil : Fewer [] lo := fun _ h => nomatch h
theorem Fewer.cons {x : Str} {v : Value} {lo' : Lo} (h : lo.lookup x = some v) (r : Fewer lo' lo) : Fewer ((x, v) :: lo') lo := fun p hp => by
  rcases List.mem_cons.mp hp with rfl | hp
  · exact h
  · exact r p hp

/- picking out of a ledger -/
inductive Pick (l : Led) : Led → Led → Prop where
  | here {r : Led} : Pick l (l ++ r) r
  | all : Pick l l []
  | skip {p : Addr × Obj} {a r : Led} : Pick l a r → Pick l (p :: a) (p :: r)
  | skipB {b a r : Led} : Pick l a r → Pick l (b ++ a) (b ++ r)
theorem Pick.perm {l a r : Led} (h : Pick l a r) : a.Perm (l ++ r) := by
  induction h with
  | here => exact .refl _
  | all => rw [List.append_nil]
  | skip _ ih => exact (ih.cons _).trans List.perm_middle.symm
  | skipB _ ih => exact (ih.append_left _).trans (by rw [← List.append_assoc, ← List.append_assoc]; exact List.perm_append_comm.append_right _)
inductive Pick1 (p : Addr × Obj) : Led → Led → Prop where
  | here {r : Led} : Pick1 p (p :: r) r
  | skip {q : Addr × Obj} {a r : Led} : Pick1 p a r → Pick1 p (q :: a) (q :: r)
  | skipB {b a r : Led} : Pick1 p a r → Pick1 p (b ++ a) (b ++ r)
theorem Pick1.perm {p : Addr × Obj} {a r : Led} (h : Pick1 p a r) : a.Perm (p :: r) := by
  induction h with
  | here => exact .refl _
  | skip _ ih => exact (ih.cons _).trans (.swap ..)
  | skipB _ ih => exact (ih.append_left _).trans List.perm_middle
theorem Part.nil : Part [] led := ⟨led, .refl _⟩
theorem Part.cons {p : Addr × Obj} {l r : Led} (h : Pick1 p led r) (k : Part l r) : Part (p :: l) led := by
  obtain ⟨j, q⟩ := k
  exact ⟨j, h.perm.trans (q.cons p)⟩
theorem Part.app {b l r : Led} (h : Pick b led r) (k : Part l r) : Part (b ++ l) led := by
  obtain ⟨j, q⟩ := k
  exact ⟨j, h.perm.trans (by rw [List.append_assoc]; exact q.append_left b)⟩
theorem Part.one {b r : Led} (h : Pick b led r) : Part b led := ⟨r, h.perm⟩

/- a change of one object -/
inductive Chg (d : Addr) (o o' : Obj) : Led → Led → Prop where
  | here {r : Led} : Chg d o o' ((d, o) :: r) ((d, o') :: r)
  | skip {p : Addr × Obj} {a b : Led} : Chg d o o' a b → Chg d o o' (p :: a) (p :: b)
  | skipB {q a b : Led} : Chg d o o' a b → Chg d o o' (q ++ a) (q ++ b)
  | inB {q q' a : Led} : Chg d o o' q q' → Chg d o o' (q ++ a) (q' ++ a)
theorem Chg.split {d : Addr} {o o' : Obj} {a b : Led} (h : Chg d o o' a b) : ∃ pre post, a = pre ++ (d, o) :: post ∧ b = pre ++ (d, o') :: post := by
  induction h with
  | here => exact ⟨[], _, rfl, rfl⟩
  | skip _ ih => obtain ⟨pre, post, e, f⟩ := ih; exact ⟨_ :: pre, post, by rw [e]; rfl, by rw [f]; rfl⟩
  | skipB _ ih => obtain ⟨pre, post, e, f⟩ := ih; exact ⟨_ ++ pre, post, by rw [e, List.append_assoc], by rw [f, List.append_assoc]⟩
  | inB _ ih => obtain ⟨pre, post, e, f⟩ := ih; exact ⟨pre, post ++ _, by rw [e, List.append_assoc]; rfl, by rw [f, List.append_assoc]; rfl⟩
theorem Chg.keys {d : Addr} {o o' : Obj} {a b : Led} (h : Chg d o o' a b) : b.map (·.1) = a.map (·.1) := by
  obtain ⟨pre, post, rfl, rfl⟩ := h.split
  simp
theorem Chg.upd {d : Addr} {o o' : Obj} {a b : Led} (h : Chg d o o' a b) (nd : (a.map (·.1)).Nodup) : Upd d o o' a b := by
  obtain ⟨pre, post, rfl, rfl⟩ := h.split
  induction pre with
  | nil => exact .head fun p hp e => (List.nodup_cons.mp nd).1 (List.mem_map.mpr ⟨p, hp, e⟩)
  | cons q pre ih =>
    have nd' := List.nodup_cons.mp nd
    exact .tail (fun e => nd'.1 (List.mem_map.mpr ⟨(d, o), by simp, e.symm⟩)) (ih nd'.2 (.skipB .here))
theorem Chg.mem {d : Addr} {o o' : Obj} {a b : Led} (h : Chg d o o' a b) : (d, o) ∈ a := by
  obtain ⟨pre, post, rfl, rfl⟩ := h.split; simp
/- membership -/
inductive Has (p : Addr × Obj) : Led → Prop where
  | here {r : Led} : Has p (p :: r)
  | skip {q : Addr × Obj} {a : Led} : Has p a → Has p (q :: a)
  | skipB {b a : Led} : Has p a → Has p (b ++ a)
  | inB {b a : Led} : Has p b → Has p (b ++ a)
theorem Has.mem {p : Addr × Obj} {a : Led} (h : Has p a) : p ∈ a := by
  induction h with
  | here => exact .head _
  | skip _ ih => exact .tail _ ih
  | skipB _ ih => exact List.mem_append_right _ ih
  | inB _ ih => exact List.mem_append_left _ ih

/- local names -/
theorem lk_here {x : Str} {v : Value} {r : Lo} : List.lookup x ((x, v) :: r) = some v := by rw [List.lookup_cons, beq_self_eq_true]
theorem lk_there {x y : Str} {u v : Value} {r : Lo} (h : (x == y) = false) (k : List.lookup x r = some v) : List.lookup x ((y, u) :: r) = some v := by rw [List.lookup_cons, h]; exact k

/- expressions -/
theorem e_int {i k pos} {Q : Value → Lo → Led → Prop} (h : ∀ t, Q (.int i t) lo led) : WP C lo led (eval (.Constant (.int i) k pos) C.env) Q :=
  fun _ hs => wpAny_Constant_int ⟨lo, led, hs.toks _, h _⟩
theorem e_str {x k pos} {Q : Value → Lo → Led → Prop} (h : ∀ t, Q (.str x t) lo led) : WP C lo led (eval (.Constant (.str x) k pos) C.env) Q :=
  fun _ hs => Calls.Constant_str ⟨lo, led, hs.toks _, h _⟩
theorem e_none {k pos} {Q : Value → Lo → Led → Prop} (h : Q .none lo led) : WP C lo led (eval (.Constant .none k pos) C.env) Q :=
  fun _ hs => wpAny_pure (a := Value.none) ⟨lo, led, hs, h⟩
theorem e_bool {b k pos} {Q : Value → Lo → Led → Prop} (h : Q (.bool b) lo led) : WP C lo led (eval (.Constant (.bool b) k pos) C.env) Q :=
  fun _ hs => wpAny_pure (a := Value.bool b) ⟨lo, led, hs, h⟩
theorem e_binop {l op r pos} {Q : Value → Lo → Led → Prop}
    (h : WP C lo led (eval l C.env) (fun a lo led => WP C lo led (eval r C.env) (fun b lo led => WP C lo led (binaryOp op a b) Q))) : WP C lo led (eval (.BinOp l op r pos) C.env) Q :=
  fun _ hs => wpAny_BinOp (h.go hs fun _ _ _ _ a h => h.go a fun _ _ _ _ a h => h _ a)
theorem e_cmp {l op r pos} {Q : Value → Lo → Led → Prop} (hm : behindInMarks op r = false)
    (h : WP C lo led (eval l C.env) (fun a lo led => WP C lo led (eval r C.env) (fun b lo led => WP C lo led (compareOp op a b) Q))) :
    WP C lo led (eval (.Compare l [op] [r] pos) C.env) Q :=
  fun _ hs => wpAny_Compare1 (h.go hs fun _ _ _ _ a h => h.go a fun _ _ _ _ a h => h _ a) hm

def locB (fn : Fn) (x : Str) : Bool := decide (fn.scope.kind = .function) && decide (fn.scope.names.lookup x = some .local) && !(x == ("__debug__" : Str))
def gloB (fn : Fn) (x : Str) : Bool := decide (fn.scope.kind = .function) && decide (fn.scope.names.lookup x = some .globalImplicit) && !(x == ("__debug__" : Str))
theorem locB_of {x : Str} (h : locB fn x = true) : fn.scope.kind = .function ∧ fn.scope.names.lookup x = some .local ∧ (x == ("__debug__" : Str)) = false := by
  simpa [locB, and_assoc] using h
theorem gloB_of {x : Str} (h : gloB fn x = true) : fn.scope.kind = .function ∧ fn.scope.names.lookup x = some .globalImplicit ∧ (x == ("__debug__" : Str)) = false := by
  simpa [gloB, and_assoc] using h
theorem e_local {x pos v} {Q : Value → Lo → Led → Prop} (hb : locB fn x = true) (hv : lo.lookup x = some v) (h : Q v lo led) :
    WP C lo led (eval (.Name x pos) C.env) Q := fun _ hs => let ⟨a, b, c⟩ := locB_of hb; let ⟨_, F, k⟩ := hs.F; ld F (k _ _ hv) ⟨lo, led, hs, h⟩ a b c
theorem n_local {x v} {Q : Value → Lo → Led → Prop} (hb : locB fn x = true) (hv : lo.lookup x = some v) (h : Q v lo led) :
    WP C lo led (loadName C.env x) Q := fun _ hs => let ⟨a, b, _⟩ := locB_of hb; let ⟨_, F, k⟩ := hs.F; ldn F (k _ _ hv) ⟨lo, led, hs, h⟩ a b
theorem e_global {k : Nat} (hC : C.Ok k) {x pos v} {Q : Value → Lo → Led → Prop} (hb : gloB fn x = true) (e : nsIn (Mine.K C.w.params) mainGlobals x = some (some v)) (h : Q v lo led) :
    WP C lo led (eval (.Name x pos) C.env) Q := fun _ hs => let ⟨a, b, c⟩ := gloB_of hb; let ⟨_, F, _⟩ := hs.F; name_K F hC.X (topRead_of hC.T) e ⟨lo, led, hs, h⟩ a b c
theorem e_builtin {k : Nat} (hC : C.Ok k) {x pos v} {Q : Value → Lo → Led → Prop} (hb : gloB fn x = true) (e : nsIn (Mine.K C.w.params) mainGlobals x = some none) (hv : bootBuiltins x = some v) (hn : x ≠ "__name__") (h : Q v lo led) :
    WP C lo led (eval (.Name x pos) C.env) Q := fun _ hs => let ⟨a, b, c⟩ := gloB_of hb; let ⟨_, F, _⟩ := hs.F; name_B F hC.X (topRead_of hC.T) e hv hn ⟨lo, led, hs, h⟩ a b c

theorem knows_put {m : Str → Option Value} {x : Str} {v : Value} (k : Knows m lo) : Knows (fun y => if y = x then some v else m y) ((x, v) :: lo) := fun y u h => by
  rw [List.lookup_cons] at h
  by_cases e : y = x
  · subst e; simp only [beq_self_eq_true] at h; simp only [if_true]; exact h
  · have : (y == x) = false := beq_eq_false_iff_ne.mpr e
    rw [this] at h; simp only [if_neg e]; exact k y u h
theorem n_store {x v} {Q : Unit → Lo → Led → Prop} (hb : locB fn x = true) (h : Q () ((x, v) :: lo) led) : WP C lo led (storeName C.env x v) Q := fun _ hs =>
  let ⟨a, b, _⟩ := locB_of hb; let ⟨_, F, k⟩ := hs.F
  stN F hs.N (fun h' F' N' => ⟨(x, v) :: lo, led, hs.heap F' (knows_put k) N' hs.nd, h⟩) a b

/- truth -/
def Br (b : Bool) (P Q : Prop) : Prop := (b = true → P) ∧ (b = false → Q)
theorem Br.ite {b : Bool} {P Q : Prop} (h : Br b P Q) : if b = true then P else Q := by cases b <;> simp [h.1, h.2] <;> first | exact h.1 rfl | exact h.2 rfl
theorem Br.T {b : Bool} {P Q : Prop} (hb : b = true) (h : P) : Br b P Q := ⟨fun _ => h, fun e => by rw [hb] at e; cases e⟩
theorem Br.F {b : Bool} {P Q : Prop} (hb : b = false) (h : Q) : Br b P Q := ⟨(fun e => by rw [hb] at e; cases e), fun _ => h⟩

theorem t_cmp {l op r pos whole} {Q : Bool → Lo → Led → Prop} (hm : behindInMarks op r = false)
    (h : WP C lo led (eval l C.env) (fun a lo led => WP C lo led (eval r C.env) (fun b lo led => WP C lo led (compareOp op a b) (fun c lo led => WP C lo led (truthy c) Q)))) :
    WP C lo led (isTrue (.Compare l [op] [r] pos) C.env whole) Q :=
  fun _ hs => wpAny_isTrue_Compare1 (h.go hs fun _ _ _ _ a h => h.go a fun _ _ _ _ a h => h.go a fun _ _ _ _ a h => h _ a) hm
theorem t_not {x pos whole} {Q : Bool → Lo → Led → Prop} (h : WP C lo led (isTrue x C.env (eval x C.env)) (fun c => Q (!c))) : WP C lo led (isTrue (.UnaryOp .Not x pos) C.env whole) Q :=
  fun _ hs => isTrue_not (h.go hs fun _ lo' led' _ a b => ⟨lo', led', a, b⟩)
theorem t_and_nil {pos whole} {Q : Bool → Lo → Led → Prop} (h : Q true lo led) : WP C lo led (isTrue (.BoolOp .And [] pos) C.env whole) Q := fun _ hs => isTrue_and_nil ⟨lo, led, hs, h⟩
theorem t_or_nil {pos whole} {Q : Bool → Lo → Led → Prop} (h : Q false lo led) : WP C lo led (isTrue (.BoolOp .Or [] pos) C.env whole) Q := fun _ hs => isTrue_or_nil ⟨lo, led, hs, h⟩
theorem t_and {x rest pos whole} {Q : Bool → Lo → Led → Prop} (h : WP C lo led (isTrue x C.env (eval x C.env)) (fun c lo led => Br c (WP C lo led (isTrue (.BoolOp .And rest pos) C.env whole) Q) (Q false lo led))) :
    WP C lo led (isTrue (.BoolOp .And (x :: rest) pos) C.env whole) Q :=
  fun _ hs => isTrue_and (h.go hs fun c lo' led' s' a b => by cases c with | true => exact b.1 rfl _ a | false => exact ⟨lo', led', a, b.2 rfl⟩)
theorem t_or {x rest pos whole} {Q : Bool → Lo → Led → Prop} (h : WP C lo led (isTrue x C.env (eval x C.env)) (fun c lo led => Br c (Q true lo led) (WP C lo led (isTrue (.BoolOp .Or rest pos) C.env whole) Q))) :
    WP C lo led (isTrue (.BoolOp .Or (x :: rest) pos) C.env whole) Q :=
  fun _ hs => isTrue_or (h.go hs fun c lo' led' s' a b => by cases c with | false => exact b.2 rfl _ a | true => exact ⟨lo', led', a, b.1 rfl⟩)
def plainT : Expr → Bool
  | .UnaryOp .Not _ _ | .BoolOp .. | .IfExp .. | .Compare .. => false
  | _ => true
theorem isTrue_eq {e : Expr} {env : Env} {whole : Sem Value} (h : plainT e = true) : isTrue e env whole = (do let v ← whole; standAt e.pos; holding [v] (truthy v)) := by
  cases e <;> first | rfl | cases h | (rename_i op _ _; cases op <;> first | rfl | cases h)
theorem t_plain {e : Expr} {whole : Sem Value} {Q : Bool → Lo → Led → Prop} (he : plainT e = true) (h : WP C lo led whole (fun v lo led => WP C lo led (truthy v) Q)) : WP C lo led (isTrue e C.env whole) Q :=
  fun _ hs => isTrue_plain (h.go hs fun _ _ _ _ a b => b _ a) (isTrue_eq he)
theorem e_ifexp {test body orelse pos} {Q : Value → Lo → Led → Prop}
    (h : WP C lo led (isTrue test C.env (eval test C.env)) (fun c lo led => Br c (WP C lo led (eval body C.env) Q) (WP C lo led (eval orelse C.env) Q))) : WP C lo led (eval (.IfExp test body orelse pos) C.env) Q :=
  fun _ hs => IfExp_ (h.go hs fun c _ _ _ a b => by cases c with | true => exact b.1 rfl _ a | false => exact b.2 rfl _ a)
theorem tr_bool {b : Bool} {Q : Bool → Lo → Led → Prop} (h : Q b lo led) : WP C lo led (truthy (.bool b)) Q := fun _ hs => wpAny_truthy_bool ⟨lo, led, hs, h⟩
theorem tr_none {Q : Bool → Lo → Led → Prop} (h : Q false lo led) : WP C lo led (truthy .none) Q := fun _ hs => truthy_none ⟨lo, led, hs, h⟩

/- statements -/
theorem x_nil {Q : Flow → Lo → Led → Prop} (h : Q .next lo led) : WP C lo led (execs [] C.env) Q := fun _ hs => wpAny_execs_nil ⟨lo, led, hs, h⟩
def Seqd (C : Cx fn) (rest : List Stmt) (Q : Flow → Lo → Led → Prop) : Flow → Lo → Led → Prop
  | .next, lo, led => WP C lo led (execs rest C.env) Q
  | f, lo, led => Q f lo led
theorem x_cons {st rest} {Q : Flow → Lo → Led → Prop} (h : WP C lo led (exec st C.env) (Seqd C rest Q)) : WP C lo led (execs (st :: rest) C.env) Q :=
  fun _ hs => wpAny_execs_cons (h.go hs fun f lo' led' s' a b => by cases f <;> first | exact b _ a | exact ⟨lo', led', a, b⟩)
theorem seq_next {rest} {Q : Flow → Lo → Led → Prop} (h : WP C lo led (execs rest C.env) Q) : Seqd C rest Q .next lo led := h
theorem seq_ret {rest v} {Q : Flow → Lo → Led → Prop} (h : Q (.ret v) lo led) : Seqd C rest Q (.ret v) lo led := h
theorem seq_brk {rest} {Q : Flow → Lo → Led → Prop} (h : Q .brk lo led) : Seqd C rest Q .brk lo led := h
def notComp : Expr → Bool
  | .ListComp .. | .SetComp .. | .DictComp .. => false
  | _ => true
theorem swaps_no {v : Expr} {t : Option Expr} {l : Nat} {env : Env} (h : notComp v = true) : swapsWith v t l env = pure false := by
  cases v <;> first | rfl | cases h
theorem x_assign {x pos' value pos} {Q : Flow → Lo → Led → Prop} (hc : notComp value = true) (hb : locB fn x = true)
    (h : WP C lo led (eval value C.env) (fun v lo led => Q .next ((x, v) :: lo) led)) : WP C lo led (exec (.Assign [.Name x pos'] value pos) C.env) Q :=
  fun _ hs => wpAny_Assign_Name (h.go hs fun _ _ _ _ a b => (n_store hb b : WP C _ _ _ (fun _ => Q .next)) _ a) (swaps_no hc)
theorem x_ret {e pos} {Q : Flow → Lo → Led → Prop} (h : WP C lo led (eval e C.env) (fun v => Q (.ret v))) : WP C lo led (exec (.Return (some e) pos) C.env) Q :=
  fun _ hs => wpAny_Return_some (h.go hs fun _ lo' led' _ a b => ⟨lo', led', a, b⟩)
theorem x_pass {pos} {Q : Flow → Lo → Led → Prop} (h : Q .next lo led) : WP C lo led (exec (.Pass pos) C.env) Q := fun _ hs => wpAny_Pass ⟨lo, led, hs, h⟩
theorem x_break {pos} {Q : Flow → Lo → Led → Prop} (h : Q .brk lo led) : WP C lo led (exec (.Break pos) C.env) Q := fun _ hs _ _ _ => ⟨lo, led, hs, h⟩
theorem x_if {test body orelse pos} {Q : Flow → Lo → Led → Prop} (h : WP C lo led (isTrue test C.env (eval test C.env)) (fun c lo led => Br c (WP C lo led (execs body C.env) Q) (WP C lo led (execs orelse C.env) Q))) :
    WP C lo led (exec (.If test body orelse pos) C.env) Q :=
  fun _ hs => wpAny_If (h.go hs fun c _ _ _ a b => by cases c with | true => exact b.1 rfl _ a | false => exact b.2 rfl _ a)
theorem x_aug {x pos' op value pos} {Q : Flow → Lo → Led → Prop} (hb : locB fn x = true)
    (h : WP C lo led (loadName C.env x) (fun old lo led => WP C lo led (eval value C.env) (fun v lo led => WP C lo led (inplaceOp op old v) (fun r lo led => Q .next ((x, r) :: lo) led)))) :
    WP C lo led (exec (.AugAssign (.Name x pos') op value pos) C.env) Q :=
  fun _ hs => wpAny_AugAssign_Name (h.go hs fun _ _ _ _ a h => h.go a fun _ _ _ _ a h => h.go a fun _ _ _ _ a b => (n_store hb b : WP C _ _ _ (fun _ => Q .next)) _ a)
theorem x_expr {k : Nat} (hC : C.Ok k) {e pos} {Q : Flow → Lo → Led → Prop} (hc : notComp e = true) (h : WP C lo led (eval e C.env) (fun _ => Q .next)) : WP C lo led (exec (.Expr e pos) C.env) Q :=
  fun _ hs => wpAny_Expr_any (h.go hs fun _ lo' led' _ a b => ⟨lo', led', a, b⟩) (by show (fn.scope.kind == .module && _) = false; rw [hC.kd]; rfl) (swaps_no hc)
end
end Mine
end
section
open PySem PySem.W PyProof.Rows PySem.Spec PySem.Calls
set_option Elab.async false
set_option linter.unusedVariables false
set_option maxRecDepth 100000
namespace Mine
section
variable {α β : Type} {fn : Fn} {C : Cx fn} {lo : Lo} {led led' : Led} {k : Nat}

/- attributes of own instances -/
def ownB (K : Frag) (Cl : Addr) (name : Str) : Bool := plainGet K Cl name && hasDictIn K Cl && (match findIn K (.ref Cl) name with | some attr => noGet K attr | none => false)
theorem inst_of {s : Shared} {x Cl d : Addr} {o : Obj} (hs : St C lo led s) (hx : Has (x, instObj Cl d) led) (hd : Has (d, o) led) : InstAt s.heap x (instObj Cl d) Cl (some o) := InstAt.of_news hs.N hx.mem hd.mem
theorem a_get (hC : C.Ok k) {x Cl d : Addr} {es : List DictEntry} {n : Nat} {name : Str} {v : Value} {expr : Bool} {Q : Value → Lo → Led → Prop} (hx : Has (x, instObj Cl d) led) (hd : Has (d, dictOf es n) led)
    (hc : ownB (Mine.K C.w.params) Cl name = true) (hl : getL name es = some (some v)) (hv : handedIn v = true) (h : Q v lo led) : WP C lo led (getAttr (.ref x) name expr) Q := fun s hs => by
  obtain ⟨m, F, kn⟩ := hs.F
  unfold ownB at hc
  rw [Bool.and_eq_true, Bool.and_eq_true] at hc
  obtain ⟨⟨c1, c2⟩, c3⟩ := hc
  split at c3
  · rename_i attr e
    exact get_own F hC.X (inst_of hs hx hd) c1 c2 e c3 hl hv ⟨lo, led, hs.toks _, h⟩
  · cases c3
def clsB (K : Frag) (Cl : Addr) (name : Str) (v : Value) : Bool := plainGet K Cl name && hasDictIn K Cl && decide (findIn K (.ref Cl) name = some (some v)) && decide (specialIn K v "__get__" = some none) && handedIn v && !copiedNames.contains name
def boundB (K : Frag) (Cl : Addr) (name : Str) (f : Addr) : Bool := plainGet K Cl name && hasDictIn K Cl && decide (findIn K (.ref Cl) name = some (some (.ref f))) && isFn K (.ref f) &&
  decide (specialIn K (.ref f) "__get__" = some (some (.builtin "function.__get__"))) && decide (takesIn K (.ref f) = some false) && !copiedNames.contains name
theorem a_bound (hC : C.Ok k) {x Cl d f : Addr} {es : List DictEntry} {n : Nat} {name : Str} {expr : Bool} {Q : Value → Lo → Led → Prop} (hx : Has (x, instObj Cl d) led) (hd : Has (d, dictOf es n) led)
    (hc : boundB (Mine.K C.w.params) Cl name f = true) (hl : getL name es = some none) (h : ∀ q, Q (.ref q) lo ((q, methodObj (.ref f) (.ref x)) :: led)) : WP C lo led (getAttr (.ref x) name expr) Q := fun s hs => by
  obtain ⟨m, F, kn⟩ := hs.F
  simp only [boundB, Bool.and_eq_true, decide_eq_true_eq, Bool.not_eq_true'] at hc
  obtain ⟨⟨⟨⟨⟨⟨c1, c2⟩, c3⟩, c4⟩, c5⟩, c6⟩, c7⟩ := hc
  exact kbm_bound F hC.X hs.N (inst_of hs hx hd) c1 c2 c3 c4 c5 c6 c7 hl fun q h' F' N' lt => ⟨lo, _, hs.alloc F' kn N' lt, h q⟩
def setB (K : Frag) (Cl : Addr) (name : Str) : Bool := decide (findIn K (.ref Cl) "__setattr__" = some (some (.builtin "object.__setattr__"))) && plainOver K Cl && decide (takerIn K Cl name = some none) && hasDictIn K Cl
theorem a_set (hC : C.Ok k) {x Cl d : Addr} {es : List DictEntry} {es' : Tok → List DictEntry} {n n' : Nat} {name : Str} {v : Value} {led' : Tok → Led} {Q : Unit → Lo → Led → Prop} (hx : Has (x, instObj Cl d) led)
    (hc : setB (Mine.K C.w.params) Cl name = true) (hl : (getL name es).isSome = true) (e : ∀ t, (putL name (PyData.keyHash C.w.params name) (.str name t) v es, putN name es n) = (es' t, n'))
    (U : ∀ t, Chg d (dictOf es n) (dictOf (es' t) n') led (led' t)) (hz : ∀ t, (es' t).length ≤ 1000) (h : ∀ t, Q () lo (led' t)) : WP C lo led (setAttr (.ref x) name v) Q := fun s hs => by
  obtain ⟨m, F, kn⟩ := hs.F
  simp only [setB, Bool.and_eq_true, decide_eq_true_eq] at hc
  obtain ⟨⟨⟨c1, c2⟩, c3⟩, c4⟩ := hc
  refine set_dict F hC.X hs.N (InstAt.of_news hs.N hx.mem (U (s.toks + 1)).mem) rfl c1 c2 c3 c4 hl (e _) ((U _).upd hs.nd) (hz _) fun h' F' N' => ⟨lo, _, hs.heap F' kn N' (by rw [(U _).keys]; exact hs.nd), h _⟩

theorem a_set0 (hC : C.Ok k) {x Cl d : Addr} {es es' : List DictEntry} {n n' : Nat} {name : Str} {v : Value} {led' : Led} {Q : Unit → Lo → Led → Prop} (hx : Has (x, instObj Cl d) led)
    (U : Chg d (dictOf es n) (dictOf es' n') led led') (e : ∀ t, (putL name (PyData.keyHash C.w.params name) (.str name t) v es, putN name es n) = (es', n')) (hl : (getL name es).isSome = true)
    (hc : setB (Mine.K C.w.params) Cl name = true) (hz : es'.length ≤ 1000) (h : Q () lo led') : WP C lo led (setAttr (.ref x) name v) Q :=
  a_set hC hx hc hl (es' := fun _ => es') (led' := fun _ => led') e (fun _ => U) (fun _ => hz) (fun _ => h)
/- methods -/
def uc (g : Value → List Value → Lo → Led → Prop) : Value × List Value → Lo → Led → Prop := fun fx => g fx.1 fx.2
def methB (K : Frag) (Cl : Addr) (name : Str) (f : Addr) : Bool := plainGet K Cl name && decide (findIn K (.ref Cl) name = some (some (.ref f))) && isFn K (.ref f)
theorem m_inst (hC : C.Ok k) {x Cl d f : Addr} {es : List DictEntry} {n : Nat} {name : Str} {pl : Sem Bool} {Q : Value → List Value → Lo → Led → Prop} (hx : Has (x, instObj Cl d) led) (hd : Has (d, dictOf es n) led)
    (hc : methB (Mine.K C.w.params) Cl name f = true) (hl : getL name es = some none) (h : Q (.ref f) [.ref x] lo led) : WP C lo led (getMethod (.ref x) name pl) (uc Q) := fun s hs => by
  obtain ⟨m, F, kn⟩ := hs.F
  simp only [methB, Bool.and_eq_true, decide_eq_true_eq] at hc
  obtain ⟨⟨c1, c2⟩, c3⟩ := hc
  exact method_inst F hC.X (inst_of hs hx hd) c1 c2 c3 hl ⟨lo, led, hs, h⟩
def baseB : Expr → Bool
  | .Call (.Name ..) [] [] _ => false
  | _ => true
theorem base_eq {o : Expr} {attr : Str} {env : Env} {whole : Sem Value} (h : baseB o = true) : attributeBase o attr env whole = whole := by
  unfold attributeBase
  split
  · cases h
  · rfl
def plainE : Expr → Bool
  | .Starred .. => false
  | _ => true
theorem starEach_plain {e : Expr} {rest : List Expr} {env : Env} (h : plainE e = true) : starEach (e :: rest) env = (false, eval e env) :: starEach rest env := by
  cases e <;> first | rfl | cases h
theorem starEach_all {env : Env} : ∀ {args : List Expr}, args.all plainE = true → (starEach args env).all (fun x => !x.1) = true
  | [], _ => rfl
  | e :: r, h => by
    rw [List.all_cons, Bool.and_eq_true] at h
    rw [starEach_plain h.1, List.all_cons, starEach_all h.2]; rfl
theorem backTo_all {pos : Pos} {l : List (Bool × Sem Value)} : (backTo pos l).all (fun x => !x.1) = l.all (fun x => !x.1) := by
  unfold backTo; rw [List.all_map]; rfl
theorem backTo_any {pos : Pos} {env : Env} {args : List Expr} (h : args.all plainE = true) : (backTo pos (starEach args env)).any (·.1) = false := by
  have q := starEach_all (env := env) h
  rw [← backTo_all (pos := pos)] at q
  rw [List.any_eq_false]
  intro x hx
  have := List.all_eq_true.mp q x hx
  simpa using this
def argsB (args : List Expr) : Bool := args.all plainE && decide (args.length < 29)
theorem mcall_eq {o : Expr} {name : Str} {apos pos : Pos} {args : List Expr} {env : Env} (hb : baseB o = true) (ha : argsB args = true) (hl : (apos.endLine == pos.line) = true) :
    ∃ pl, eval (.Call (.Attribute o name apos) args [] pos) env = (do
      let ov ← eval o env
      standAt apos.atName
      let (f, first) ← holding [ov] (getMethod ov name pl)
      callWith pos f first (backTo pos (starEach args env)) []) := by
  refine ⟨do return (← importBound o env).getD true, ?_⟩
  have e1 : eval (.Call (.Attribute o name apos) args [] pos) env = (do
      let ov ← attributeBase o name env (eval o env)
      standAt apos.atName
      methodCall o name apos pos env ov (args.length + 0) (backTo pos (starEach args env)) []) := rfl
  simp only [argsB, Bool.and_eq_true, decide_eq_true_eq] at ha
  have f : methodCallForm (args.length + 0) (backTo pos (starEach args env)) [] = true := by
    unfold methodCallForm
    rw [backTo_all, starEach_all ha.1]
    simp only [List.all_nil, Bool.and_true, Bool.true_and, List.isEmpty_nil, if_true, decide_eq_true_eq]
    omega
  rw [e1, base_eq hb]
  unfold methodCall calleeOf methodCallPos
  rw [f, hl]
  rfl
theorem e_mcall {o : Expr} {name : Str} {apos pos : Pos} {args : List Expr} {Q : Value → Lo → Led → Prop} (hb : baseB o = true) (ha : argsB args = true) (hl : (apos.endLine == pos.line) = true)
    (h : WP C lo led (eval o C.env) (fun ov lo led => ∀ pl, WP C lo led (getMethod ov name pl) (uc fun f first lo led => WP C lo led (callWith pos f first (backTo pos (starEach args C.env)) []) Q))) :
    WP C lo led (eval (.Call (.Attribute o name apos) args [] pos) C.env) Q := fun s hs => by
  obtain ⟨pl, e⟩ := mcall_eq (name := name) (env := C.env) hb ha hl
  exact MethodCall_ (h.go hs fun _ _ _ _ a h => (h pl).go a fun _ _ _ _ a h => h _ a) e
def callB : Expr → Bool
  | .Attribute .. => false
  | _ => true
theorem e_call {func : Expr} {args : List Expr} {pos : Pos} {Q : Value → Lo → Led → Prop} (hf : callB func = true)
    (h : WP C lo led (eval func C.env) (fun f lo led => WP C lo led (callWith pos f [] (backTo pos (starEach args C.env)) []) Q)) : WP C lo led (eval (.Call func args [] pos) C.env) Q :=
  fun s hs => Call_ (h.go hs fun _ _ _ _ a h => h _ a) (by cases func <;> first | rfl | cases hf)
theorem s_none {pos : Pos} {Q : List Value → Lo → Led → Prop} (h : Q [] lo led) : WP C lo led (spliced (backTo pos (starEach [] C.env))) Q := fun s hs => spliced_none ⟨lo, led, hs, h⟩
theorem s_more {e : Expr} {rest : List Expr} {pos : Pos} {Q : List Value → Lo → Led → Prop} (he : plainE e = true)
    (h : WP C lo led (eval e C.env) (fun v lo led => WP C lo led (spliced (backTo pos (starEach rest C.env))) (fun vs => Q (v :: vs)))) : WP C lo led (spliced (backTo pos (starEach (e :: rest) C.env))) Q :=
  fun s hs => spliced_more (h.go hs fun _ _ _ _ a h => h.go a fun _ lo' led' _ a h => ⟨lo', led', a, h⟩) (starEach_plain he)
theorem c_fn (hC : C.Ok k) {f : Addr} {first : List Value} {args : List Expr} {pos : Pos} {Q : Value → Lo → Led → Prop} (hk : keepIn (Mine.K C.w.params) (.ref f) = true) (ha : argsB args = true)
    (h : WP C lo led (spliced (backTo pos (starEach args C.env))) (fun vs lo led => WP C lo led (call (.ref f) (first ++ vs)) Q)) : WP C lo led (callWith pos (.ref f) first (backTo pos (starEach args C.env)) []) Q := fun s hs => by
  simp only [argsB, Bool.and_eq_true, decide_eq_true_eq] at ha
  have fin : ∀ {lo' led' s'}, St C lo' led' s' → (Mine.K C.w.params).In s'.heap := fun a => let ⟨_, F, _⟩ := a.F; hC.X.keeps F.keep
  cases args with
  | nil =>
    refine callWith_K0 (fin hs) hk ?_
    intro Γ p hΓ
    obtain ⟨lo', led', a, b⟩ := (h s hs) Γ p hΓ
    exact b _ a Γ p hΓ
  | cons e rest =>
    rw [List.all_cons, Bool.and_eq_true] at ha
    exact callWith_K hC.X hk (h.go hs fun vs lo' led' s' a b => ⟨fin a, b _ a⟩) (starEach_plain ha.1.1) (backTo_any ha.1.2)
theorem c_bi {id : String} {first : List Value} {args : List Expr} {pos : Pos} {Q : Value → Lo → Led → Prop} (ha : argsB args = true)
    (h : WP C lo led (spliced (backTo pos (starEach args C.env))) (fun vs lo led => WP C lo led (call (.builtin id) (first ++ vs)) Q)) : WP C lo led (callWith pos (.builtin id) first (backTo pos (starEach args C.env)) []) Q := fun s hs => by
  simp only [argsB, Bool.and_eq_true, decide_eq_true_eq] at ha
  cases args with
  | nil =>
    refine callWith_method0 ?_
    intro Γ p hΓ
    obtain ⟨lo', led', a, b⟩ := (h s hs) Γ p hΓ
    rw [List.append_nil] at b
    exact b _ a Γ p hΓ
  | cons e rest =>
    rw [List.all_cons, Bool.and_eq_true] at ha
    exact callWith_method1 (h.go hs fun vs lo' led' s' a b => b _ a) (starEach_plain ha.1.1) (backTo_any ha.1.2)
theorem c_fn0 (hC : C.Ok k) {f : Addr} {args : List Expr} {pos : Pos} {Q : Value → Lo → Led → Prop} (hk : keepIn (Mine.K C.w.params) (.ref f) = true) (ha : argsB args = true)
    (h : WP C lo led (spliced (backTo pos (starEach args C.env))) (fun vs lo led => WP C lo led (call (.ref f) vs) Q)) : WP C lo led (callWith pos (.ref f) [] (backTo pos (starEach args C.env)) []) Q := c_fn hC hk ha h
theorem c_fn1 (hC : C.Ok k) {f : Addr} {a : Value} {args : List Expr} {pos : Pos} {Q : Value → Lo → Led → Prop} (hk : keepIn (Mine.K C.w.params) (.ref f) = true) (ha : argsB args = true)
    (h : WP C lo led (spliced (backTo pos (starEach args C.env))) (fun vs lo led => WP C lo led (call (.ref f) (a :: vs)) Q)) : WP C lo led (callWith pos (.ref f) [a] (backTo pos (starEach args C.env)) []) Q := c_fn hC hk ha h
theorem c_bi0 {id : String} {args : List Expr} {pos : Pos} {Q : Value → Lo → Led → Prop} (ha : argsB args = true)
    (h : WP C lo led (spliced (backTo pos (starEach args C.env))) (fun vs lo led => WP C lo led (call (.builtin id) vs) Q)) : WP C lo led (callWith pos (.builtin id) [] (backTo pos (starEach args C.env)) []) Q := c_bi ha h
theorem c_bi1 {id : String} {a : Value} {args : List Expr} {pos : Pos} {Q : Value → Lo → Led → Prop} (ha : argsB args = true)
    (h : WP C lo led (spliced (backTo pos (starEach args C.env))) (fun vs lo led => WP C lo led (call (.builtin id) (a :: vs)) Q)) : WP C lo led (callWith pos (.builtin id) [a] (backTo pos (starEach args C.env)) []) Q := c_bi ha h
end

/- contracts -/
def Back {fn : Fn} (C : Cx fn) (lo : Lo) (Q : Value → Led → Prop) (r : Result) (s' : Shared) : Prop := match r with
  | .ok (.ret v) => ∃ led', St C lo led' s' ∧ Q v led'
  | _ => False
def Meets (k : Nat) (w : World) (f : Addr) (args : List Value) (led : Led) (Q : Value → Led → Prop) : Prop :=
  ∀ (fn : Fn) (C : Cx fn) (lo : Lo), C.w = w → C.Ok k → ∀ s, St C lo led s → codeAny (model PG C.w) C.A (.call (.ref f) ⟨args, []⟩) (Back C lo Q) s
def retv : Flow → Value
  | .ret v => v
  | _ => .none
@[reducible] def revd : Lo → Lo → Lo
  | [], a => a
  | p :: r, a => revd r (p :: a)
theorem revd_eq : ∀ b a : Lo, revd b a = b.reverse ++ a
  | [], _ => rfl
  | p :: r, a => by show revd r (p :: a) = _; rw [revd_eq r]; simp
theorem meets_of {k : Nat} {w : World} {f : Addr} {args : List Value} {led : Led} {Q : Value → Led → Prop} {name qual : Str} {params : Arguments} {body : List Stmt} {scope : Scope} {dV kV doc pm cdv ct oc : Value} {an od : Option Addr} {osl : Array (Option Value)} (binds : List (Str × Value))
    (ho : (Mine.K w.params).lookup f = some ⟨oc, od, .func (fnOf name qual params body scope dV kV doc pm an cdv ct), osl⟩) (hcd : codeIn (Mine.K w.params) cdv qual = true)
    (hbind : ∀ s : Shared, (Mine.K w.params).In s.heap → BindsTo s (fnOf name qual params body scope dV kV doc pm an cdv ct) ⟨args, []⟩ binds) (hloc : (binds.all fun x => decide (scope.names.lookup x.1 = some .local)) = true)
    (hfl : (!scope.isCoroutine && !scope.isGenerator && decide (scope.kind = .function) && scope.names.all (fun x => decide (x.2 ≠ .cell))) = true)
    (h : ∀ C : Cx ⟨qual, scope, f, cdv⟩, C.w = w → C.Ok k → WP C (revd binds []) led (execs body C.env) (fun fl _ led' => ∃ l, Part l led' ∧ Q (retv fl) l)) : Meets (k + 1) w f args led Q := by
  intro fn C lo hw hC s hs
  subst hw
  obtain ⟨m, F, kn⟩ := hs.F
  simp only [Bool.and_eq_true, Bool.not_eq_true', decide_eq_true_eq, List.all_eq_true] at hfl
  obtain ⟨⟨⟨f1, f2⟩, f3⟩, f4⟩ := hfl
  refine code_def (env := C.env) hC.B F hC.X hs.N hC.T hC.fr rfl (by exact hC.kd) ho hcd (by have := hC.dp; omega) (hbind s (hC.X.keeps F.keep)) (locs hloc) ?_ f1 f2 f3 (fun x hx => f4 x hx)
  intro g L' h₁ FG F' N' B' X' T'
  let C' : Cx ⟨qual, scope, f, cdv⟩ := { w := C.w, A := C.A.deeper (envOf qual scope L' f cdv), L := L', h₀ := g, A₀ := C.A, base := C.base, outer := C.env :: C.outer, loose := C.loose, mean := C.mean, mg := C.mg, mb := C.mb, g := C.g, dr := C.dr, os := C.os }
  have ok : C'.Ok k := ⟨B', X', T', by show (C.A.frames.map _) = _; rw [hC.fr]; rfl, f3, hC.hd, by show C.A.depth + 1 + k < _; have := hC.dp; omega, by show C.A.units + 3 + 16 * k < _; have := hC.un; omega⟩
  have st : St C' (revd binds []) led { s with heap := h₁, toks := s.toks + binds.length } := ⟨⟨_, F', fun _ _ e => by rw [revd_eq, List.append_nil] at e; exact e⟩, N', hs.nd, hs.g, hs.dr, hs.os, Nat.lt_of_lt_of_le hs.tk (Nat.le_add_right _ _)⟩
  refine wpAny_mono (h C' rfl ok _ st) (fun fl s' z => ?_) fun _ _ z => z.elim
  obtain ⟨lo', led', a, l, pl, q⟩ := z
  obtain ⟨m', Fm, km⟩ := a.F
  refine leaveK_ Fm (fun p hp => a.N p (pl.mem p hp)) fun F2 N2 => ?_
  cases fl <;> exact ⟨l, ⟨⟨m, F2, kn⟩, N2, pl.nodup a.nd, a.g, a.dr, a.os, a.tk⟩, q⟩
theorem St.part {fn : Fn} {C : Cx fn} {lo : Lo} {led led' : Led} {s : Shared} (h : St C lo led s) (hp : Part led' led) : St C lo led' s :=
  ⟨h.F, fun p hq => h.N p (hp.mem p hq), hp.nodup h.nd, h.g, h.dr, h.os, h.tk⟩
theorem WP.part {α : Type} {fn : Fn} {C : Cx fn} {lo : Lo} {led led' : Led} {t : Sem α} {Q : α → Lo → Led → Prop} (h : WP C lo led' t Q) (hp : Part led' led) : WP C lo led t Q := fun s hs => h s (hs.part hp)
end Mine
end
section
open PySem PySem.W PyProof.Rows PySem.Spec PySem.Calls
set_option Elab.async false
set_option linter.unusedVariables false
set_option maxRecDepth 100000
namespace Mine
section
variable {α β : Type} {fn : Fn} {C : Cx fn} {lo : Lo} {led : Led} {k : Nat} {Q : Value → Lo → Led → Prop}
/- ints -/
section
variable {a b : Int} {t u : Tok}
theorem b_add (h : ∀ t, Q (.int (a + b) t) lo led) : WP C lo led (binaryOp .Add (.int a t) (.int b u)) Q := fun s hs => by (with_reducible refine PyProof.Rows.add_int ?_); exact ⟨lo, led, hs.toks _, h _⟩
theorem b_sub (h : ∀ t, Q (.int (a - b) t) lo led) : WP C lo led (binaryOp .Sub (.int a t) (.int b u)) Q := fun s hs => by (with_reducible refine PyProof.Rows.sub_int ?_); exact ⟨lo, led, hs.toks _, h _⟩
theorem b_mod (hb : b ≠ 0) (h : ∀ t, Q (.int (a.fmod b) t) lo led) : WP C lo led (binaryOp .Mod (.int a t) (.int b u)) Q := fun s hs => by (with_reducible refine PyProof.Rows.mod_int hb ?_); exact ⟨lo, led, hs.toks _, h _⟩
theorem i_add (h : ∀ t, Q (.int (a + b) t) lo led) : WP C lo led (inplaceOp .Add (.int a t) (.int b u)) Q := fun s hs => by (with_reducible refine PyProof.Rows.iadd_int ?_); exact ⟨lo, led, hs.toks _, h _⟩
theorem i_sub (h : ∀ t, Q (.int (a - b) t) lo led) : WP C lo led (inplaceOp .Sub (.int a t) (.int b u)) Q := fun s hs => by (with_reducible refine PySem.P.isub_int ?_); exact ⟨lo, led, hs.toks _, h _⟩
theorem c_lt (h : Q (.bool (decide (a < b))) lo led) : WP C lo led (compareOp .Lt (.int a t) (.int b u)) Q := fun s hs => by (with_reducible refine PyProof.Rows.lt_int ?_); exact ⟨lo, led, hs, h⟩
theorem c_le (h : Q (.bool (decide (a ≤ b))) lo led) : WP C lo led (compareOp .LtE (.int a t) (.int b u)) Q := fun s hs => by (with_reducible refine PyProof.Rows.le_int ?_); exact ⟨lo, led, hs, h⟩
theorem c_gt (h : Q (.bool (decide (b < a))) lo led) : WP C lo led (compareOp .Gt (.int a t) (.int b u)) Q := fun s hs => by (with_reducible refine PyProof.Rows.gt_int ?_); exact ⟨lo, led, hs, h⟩
theorem c_ge (h : Q (.bool (decide (b ≤ a))) lo led) : WP C lo led (compareOp .GtE (.int a t) (.int b u)) Q := fun s hs => by (with_reducible refine PyProof.Rows.ge_int ?_); exact ⟨lo, led, hs, h⟩
theorem c_eq (h : Q (.bool (a == b)) lo led) : WP C lo led (compareOp .Eq (.int a t) (.int b u)) Q := fun s hs => by (with_reducible refine PyProof.Rows.eq_int ?_); exact ⟨lo, led, hs, h⟩
theorem c_ne (h : Q (.bool (a != b)) lo led) : WP C lo led (compareOp .NotEq (.int a t) (.int b u)) Q := fun s hs => by (with_reducible refine PyProof.Rows.ne_int ?_); exact ⟨lo, led, hs, h⟩
end
/- bools -/
theorem c_neb {a b : Bool} (h : Q (.bool (a != b)) lo led) : WP C lo led (compareOp .NotEq (.bool a) (.bool b)) Q := fun s hs => by (with_reducible refine PyProof.Rows.ne_bool ?_); exact ⟨lo, led, hs, h⟩
theorem c_eqb {a b : Bool} (h : Q (.bool (a == b)) lo led) : WP C lo led (compareOp .Eq (.bool a) (.bool b)) Q := fun s hs => by (with_reducible refine PyProof.Rows.eq_bool ?_); exact ⟨lo, led, hs, h⟩
/- texts -/
section
variable {x y : Str} {a b : List Nat} {t u : Tok}
theorem c_eqs (h : Q (.bool (x == y)) lo led) : WP C lo led (compareOp .Eq (.str x t) (.str y u)) Q := fun s hs => by (with_reducible refine PyProof.Rows.eq_str ?_); exact ⟨lo, led, hs, h⟩
theorem c_eq_ns (h : Q (.bool false) lo led) : WP C lo led (compareOp .Eq .none (.str y u)) Q := fun s hs => by (with_reducible refine PySem.EqNone.eq_none_str ?_); exact ⟨lo, led, hs, h⟩
theorem c_ins {c : Nat} (h : Q (.bool (decide (c ∈ a))) lo led) : WP C lo led (compareOp .In (.str (S [c]) u) (.str (S a) t)) Q := fun s hs => by (with_reducible refine PyProof.Rows.in_str ?_); exact ⟨lo, led, hs, by rw [in_one]; exact h⟩
theorem c_notins {c : Nat} (h : Q (.bool (!decide (c ∈ a))) lo led) : WP C lo led (compareOp .NotIn (.str (S [c]) u) (.str (S a) t)) Q := fun s hs => by (with_reducible refine PyProof.Rows.notIn_str ?_); exact ⟨lo, led, hs, by rw [in_one]; exact h⟩
theorem b_adds (hz : a.length + b.length ≤ 1000) (h : ∀ t, Q (.str (S (a ++ b)) t) lo led) : WP C lo led (binaryOp .Add (.str (S a) t) (.str (S b) u)) Q := fun s hs => by
  refine wpAny_with_toks (n := 1) hs.tk ?_
  refine wpAny_mono (PyProof.Rows.add_str (E := No) (Q := fun v s' => 1 ≤ s'.toks → ∃ lo' led', St C lo' led' s' ∧ Q v lo' led') (fun t' tk htk => ⟨lo, led, hs.toks tk htk, by rw [S_app]; exact h t'⟩) (by rw [S_len, S_len, sizeLine_eq]; omega)) (fun _ _ x => x) fun _ _ x => x.elim
theorem i_adds (hz : a.length + b.length ≤ 1000) (h : ∀ t, Q (.str (S (a ++ b)) t) lo led) : WP C lo led (inplaceOp .Add (.str (S a) t) (.str (S b) u)) Q := fun s hs => by
  refine wpAny_with_toks (n := 1) hs.tk ?_
  refine wpAny_mono (PyProof.Rows.iadd_str (E := No) (Q := fun v s' => 1 ≤ s'.toks → ∃ lo' led', St C lo' led' s' ∧ Q v lo' led') (fun t' tk htk => ⟨lo, led, hs.toks tk htk, by rw [S_app]; exact h t'⟩) (by rw [S_len, S_len, sizeLine_eq]; omega)) (fun _ _ x => x) fun _ _ x => x.elim
theorem f_lens (hz : a.length ≤ 1000) (h : ∀ t, Q (.int (a.length : Int) t) lo led) : WP C lo led (call (.builtin "len") [.str (S a) t]) Q := fun s hs => by
  with_reducible refine PySem.P.len_str (by rw [S_len]; omega) ?_
  exact ⟨lo, led, hs.toks _, by rw [S_len]; exact h _⟩
theorem tr_str {Q : Bool → Lo → Led → Prop} (hz : a.length ≤ 1000) (h : Q ((a.length : Int) != 0) lo led) : WP C lo led (truthy (.str (S a) t)) Q := fun s hs => by
  with_reducible refine PySem.P.truthy_str (by rw [S_len]; omega) ?_
  exact ⟨lo, led, hs.toks _, by rw [S_len]; exact h⟩
theorem f_ord {c : Nat} (h : ∀ t, Q (.int (c : Int) t) lo led) : WP C lo led (call (.builtin "ord") [.str (S [c]) t]) Q := fun s hs => by (with_reducible refine PySem.P.ord_of_char ?_); exact ⟨lo, led, hs.toks _, h _⟩
theorem f_chr {i : Int} (h0 : 0 ≤ i) (h1 : i ≤ 1114111) (h : ∀ t, Q (.str (S [i.toNat]) t) lo led) : WP C lo led (call (.builtin "chr") [.int i t]) Q := fun s hs => by (with_reducible refine chr_of_range h0 h1 ?_); exact ⟨lo, led, hs.toks _, h _⟩
end
/- is -/
theorem c_is {a b : Value} (hp : plainIs a b = true) (hne : a ≠ b) (h : Q (.bool false) lo led) : WP C lo led (compareOp .Is a b) Q := fun s hs => by (with_reducible refine wpAny_is_other hp hne ?_); exact ⟨lo, led, hs, h⟩
theorem c_isnot {a b : Value} (hp : plainIs a b = true) (hne : a ≠ b) (h : Q (.bool true) lo led) : WP C lo led (compareOp .IsNot a b) Q := fun s hs => by (with_reducible refine wpAny_isNot_other hp hne ?_); exact ⟨lo, led, hs, h⟩
theorem c_is_self {a : Value} (hp : plainIs a a = true) (h : Q (.bool true) lo led) : WP C lo led (compareOp .Is a a) Q := fun s hs => by (with_reducible refine wpAny_is_self hp ?_); exact ⟨lo, led, hs, h⟩
theorem c_isnot_self {a : Value} (hp : plainIs a a = true) (h : Q (.bool false) lo led) : WP C lo led (compareOp .IsNot a a) Q := fun s hs => by (with_reducible refine wpAny_isNot_self hp ?_); exact ⟨lo, led, hs, h⟩
/- subscripts -/
def notSlice : Expr → Bool
  | .Slice .. => false
  | _ => true
theorem e_sub {value slice pos} (h : WP C lo led (eval value C.env) (fun o lo led => WP C lo led (eval slice C.env) (fun i lo led => WP C lo led (subscriptTail value slice o i) Q))) : WP C lo led (eval (.Subscript value slice pos) C.env) Q :=
  fun s hs => Subscript_ (h.go hs fun _ _ _ _ a h => h.go a fun _ _ _ _ a h => h _ a)
theorem sub_eq {slice : Expr} {o i : Value} (h : notSlice slice = true) : subscripted slice false o i = operate [o, i] (getItem o i) := by cases slice <;> first | rfl | cases h
theorem letgo_str {value : Expr} {x : Str} {t : Tok} (r : Value) : letTemporaryGo value (.str x t) r = pure () := by cases value <;> rfl
theorem st_str {value slice : Expr} {l : List Nat} {t u : Tok} {i : Int} (n : Nat) (hs : notSlice slice = true) (hi : i = (n : Int)) (hn : n < l.length) (hz : l.length ≤ 1000) (h : ∀ t, Q (.str (S [l[n]]) t) lo led) : WP C lo led (subscriptTail value slice (.str (S l) t) (.int i u)) Q := fun s st => by
  subst hi
  exact item_str (fitsSsize_of (N := 9223372036854775808) (by omega) (by omega) (Int.le_refl _)) (by rw [S_len]; omega) (by rw [S_len]; omega) (fun _ => ⟨lo, led, st.toks _, by rw [item_S l n hn]; exact h _⟩) (sub_eq hs) letgo_str
theorem st_str_last {value slice : Expr} {l : List Nat} {t u : Tok} (hs : notSlice slice = true) (hn : l ≠ []) (hz : l.length ≤ 1000) (h : ∀ t, Q (.str (S [l.getLast hn]) t) lo led) : WP C lo led (subscriptTail value slice (.str (S l) t) (.int (-1) u)) Q := fun s st => by
  have hp : 0 < l.length := List.length_pos_iff.mpr hn
  exact item_str (by decide) (by rw [S_len]; omega) (by rw [S_len]; omega) (fun _ => ⟨lo, led, st.toks _, by rw [item_last l hn]; exact h _⟩) (sub_eq hs) letgo_str
def PartIs : Value → Option Int → Prop
  | v, none => v = .none
  | v, some i => ∃ t, v = .int i t
theorem p_none (h : Q .none lo led) : WP C lo led (evalPart none C.env) Q := fun s hs => evalPart_none_step ⟨lo, led, hs, h⟩
theorem p_some {e : Expr} (h : WP C lo led (eval e C.env) Q) : WP C lo led (evalPart (some e) C.env) Q := fun s hs => evalPart_some_step (h s hs)
theorem slice_tail {value : Expr} {lower upper : Option Expr} {p : Pos} {x : Str} {t : Tok} {a b : Value} {i j : Option Int} {s : Shared} (hs : St C lo led s) (ha : PartIs a i) (hb : PartIs b j) (hz : x.length ≤ 1000)
    (h : ∀ t, Q (.str (Txt.slice x i j) t) lo led) : wpAny (model PG C.w) C.A (subscriptTail value (.Slice lower upper none p) (.str x t) (.ref s.heap.objs.size)) (fun v s' => ∃ lo' led', St C lo' led' s' ∧ Q v lo' led') No { s with heap := s.heap.push { cls := .type "slice", data := .fields #[a, b, .none] } } := by
  obtain ⟨m, F, kn⟩ := hs.F
  have hsz : x.length ≤ sizeLine := by rw [sizeLine_eq]; omega
  refine wpAny_with_toks (n := 1) hs.tk ?_
  cases i with
  | none =>
    cases ha
    cases j with
    | none =>
      cases hb
      exact wpAny_mono (slice_strN_nn (E := No) F hs.N (Q := fun v s' => 1 ≤ s'.toks → ∃ lo' led', St C lo' led' s' ∧ Q v lo' led') (fun h' t' k F' N' hk => ⟨lo, led, hs.heap F' kn N' hs.nd hk, h t'⟩) rfl letgo_str hsz) (fun _ _ x => x) fun _ _ x => x.elim
    | some j =>
      obtain ⟨tj, rfl⟩ := hb
      exact wpAny_mono (slice_strN_ns (E := No) F hs.N (Q := fun v s' => 1 ≤ s'.toks → ∃ lo' led', St C lo' led' s' ∧ Q v lo' led') (fun h' t' k F' N' hk => ⟨lo, led, hs.heap F' kn N' hs.nd hk, h t'⟩) rfl letgo_str hsz) (fun _ _ x => x) fun _ _ x => x.elim
  | some i =>
    obtain ⟨ti, rfl⟩ := ha
    cases j with
    | none =>
      cases hb
      exact wpAny_mono (slice_strN_sn (E := No) F hs.N (Q := fun v s' => 1 ≤ s'.toks → ∃ lo' led', St C lo' led' s' ∧ Q v lo' led') (fun h' t' k F' N' hk => ⟨lo, led, hs.heap F' kn N' hs.nd hk, h t'⟩) rfl letgo_str hsz) (fun _ _ x => x) fun _ _ x => x.elim
    | some j =>
      obtain ⟨tj, rfl⟩ := hb
      exact wpAny_mono (slice_strN_ss (E := No) F hs.N (Q := fun v s' => 1 ≤ s'.toks → ∃ lo' led', St C lo' led' s' ∧ Q v lo' led') (fun h' t' k F' N' hk => ⟨lo, led, hs.heap F' kn N' hs.nd hk, h t'⟩) rfl letgo_str hsz) (fun _ _ x => x) fun _ _ x => x.elim
def SliceQ (o a b : Value) (Q : Value → Lo → Led → Prop) (lo : Lo) (led : Led) : Prop := ∃ x t i j, o = .str x t ∧ PartIs a i ∧ PartIs b j ∧ x.length ≤ 1000 ∧ ∀ t, Q (.str (Txt.slice x i j) t) lo led
theorem e_slice {value : Expr} {lower upper : Option Expr} {p pos : Pos} (h : WP C lo led (eval value C.env) (fun o lo led => WP C lo led (evalPart lower C.env) (fun a lo led => WP C lo led (evalPart upper C.env) (fun b lo led => SliceQ o a b Q lo led)))) :
    WP C lo led (eval (.Subscript value (.Slice lower upper none p) pos) C.env) Q := fun s hs => by
  refine Subscript_ (h.go hs fun o lo₁ led₁ s₁ st₁ h₁ => wpAny_Slice (h₁.go st₁ fun a lo₂ led₂ s₂ st₂ h₂ => h₂.go st₂ fun b lo₃ led₃ s₃ st₃ h₃ => evalPart_none_step ?_))
  obtain ⟨x, t, i, j, rfl, ha, hb, hz, hq⟩ := h₃
  exact slice_tail st₃ ha hb hz hq
theorem sl_ss {l : List Nat} {t u v : Tok} {i j : Int} (a b : Nat) (hi : i = (a : Int)) (hj : j = (b : Int)) (hz : l.length ≤ 1000) (h : ∀ t, Q (.str (S ((l.take b).drop a)) t) lo led) : SliceQ (.str (S l) t) (.int i u) (.int j v) Q lo led := by
  subst hi hj
  exact ⟨_, _, some _, some _, rfl, ⟨_, rfl⟩, ⟨_, rfl⟩, by rw [S_len]; exact hz, fun t => by rw [slice_S]; exact h t⟩
theorem sl_sn {l : List Nat} {t u : Tok} {i : Int} (a : Nat) (hi : i = (a : Int)) (ha : a ≤ l.length) (hz : l.length ≤ 1000) (h : ∀ t, Q (.str (S (l.drop a)) t) lo led) : SliceQ (.str (S l) t) (.int i u) .none Q lo led := by
  subst hi
  exact ⟨_, _, some _, none, rfl, ⟨_, rfl⟩, rfl, by rw [S_len]; exact hz, fun t => by rw [slice_from l a ha]; exact h t⟩
theorem sl_ns {l : List Nat} {t u : Tok} {j : Int} (b : Nat) (hj : j = (b : Int)) (hb : b ≤ l.length) (hz : l.length ≤ 1000) (h : ∀ t, Q (.str (S (l.take b)) t) lo led) : SliceQ (.str (S l) t) .none (.int j u) Q lo led := by
  subst hj
  exact ⟨_, _, none, some _, rfl, rfl, ⟨_, rfl⟩, by rw [S_len]; exact hz, fun t => by rw [slice_to l b hb]; exact h t⟩
theorem sl_last {l : List Nat} {t u : Tok} (hl : l ≠ []) (hz : l.length ≤ 1000) (h : ∀ t, Q (.str (S l.dropLast) t) lo led) : SliceQ (.str (S l) t) .none (.int (-1) u) Q lo led :=
  ⟨_, _, none, some _, rfl, rfl, ⟨_, rfl⟩, by rw [S_len]; exact hz, fun t => by rw [slice_to_neg1 l hl]; exact h t⟩
/- displays -/
theorem e_tuple {elts : List Expr} {k : Nat} {pos : Pos} (h : WP C lo led (spliced (backTo pos (starEach elts C.env))) (fun vs lo led => vs.length ≤ 1000 ∧ ∀ a, Q (.ref a) lo ((a, { cls := .type "tuple", data := .seq vs.toArray }) :: led))) :
    WP C lo led (eval (.Tuple elts k pos) C.env) Q := fun s hs => Tuple_ (h.go hs fun vs lo' led' s' a b => by
  obtain ⟨m, F, kn⟩ := a.F
  exact newTuple_N F a.N (fun h' F' N' => ⟨lo', _, a.alloc F' kn N' a.lt a.tk, b.2 _⟩) (by rw [sizeLine_eq]; have := b.1; omega))
theorem e_list {elts : List Expr} {pos : Pos} (h : WP C lo led (spliced (backTo pos (starEach elts C.env))) (fun vs lo led => vs.length ≤ 1000 ∧ ∀ a, Q (.ref a) lo ((a, { cls := .type "list", data := .seq vs.toArray }) :: led))) :
    WP C lo led (eval (.List elts pos) C.env) Q := fun s hs => List_ (h.go hs fun vs lo' led' s' a b => by
  obtain ⟨m, F, kn⟩ := a.F
  exact newList_N F a.N (fun h' F' N' => ⟨lo', _, a.alloc F' kn N' a.lt a.tk, b.2 _⟩) (by rw [sizeLine_eq]; have := b.1; omega))
/- membership in a tuple of texts -/
theorem c_intK (hC : C.Ok k) {a : Addr} {l : List Value} {dd : Option Addr} {sl : Array (Option Value)} {n : Nat} {ys : List Str} {x : Str} {u : Tok} (hl : (Mine.K C.w.params).lookup a = some ⟨.type "tuple", dd, .seq l.toArray n, sl⟩) (hi : StrsAre l ys)
    (h : Q (.bool (ys.any (· == x))) lo led) : WP C lo led (compareOp .In (.str x u) (.ref a)) Q := fun s hs => by
  obtain ⟨m, F, kn⟩ := hs.F
  exact in_tuple_strs (tupK (hC.X.keeps F.keep) hl) (by simpa using hi) ⟨lo, led, hs, h⟩
theorem c_intL {a : Addr} {l : List Value} {n : Nat} {ys : List Str} {x : Str} {u : Tok} (hl : Has (a, { cls := .type "tuple", data := .seq l.toArray n }) led) (hi : StrsAre l ys)
    (h : Q (.bool (ys.any (· == x))) lo led) : WP C lo led (compareOp .In (.str x u) (.ref a)) Q := fun s hs =>
  in_tuple_strs (News.isTup hs.N hl.mem) (by simpa using hi) ⟨lo, led, hs, h⟩
end
end Mine
end
section
open PySem PySem.W PyProof.Rows PySem.Spec PySem.Calls
set_option Elab.async false
set_option linter.unusedVariables false
set_option maxRecDepth 100000
namespace Mine
section
variable {α β : Type} {fn : Fn} {C : Cx fn} {lo : Lo} {led : Led} {k : Nat} {Q : Value → Lo → Led → Prop}
theorem e_attr {value : Expr} {attr : Str} {pos : Pos} (hb : baseB value = true) (h : WP C lo led (eval value C.env) (fun o lo led => WP C lo led (getAttr o attr true) Q)) : WP C lo led (eval (.Attribute value attr pos) C.env) Q := fun s hs =>
  Attribute_any_ (h.go hs fun _ _ _ _ a h => h _ a) (by
    show (do
      let o ← attributeBase value attr C.env (eval value C.env)
      standAt pos.atName
      let r ← holding [o] (getAttr o attr true)
      letTemporaryGo value o r
      pure r) = _
    rw [base_eq hb])
theorem x_setattr {o : Expr} {attr : Str} {pos' pos : Pos} {value : Expr} {Q : Flow → Lo → Led → Prop} (hc : notComp value = true)
    (h : WP C lo led (eval value C.env) (fun v lo led => WP C lo led (eval o C.env) (fun ov lo led => WP C lo led (setAttr ov attr v) (fun _ => Q .next)))) : WP C lo led (exec (.Assign [.Attribute o attr pos'] value pos) C.env) Q := fun s hs =>
  plainObj_wpAny_Assign_Attribute (h.go hs fun _ _ _ _ a h => h.go a fun _ _ _ _ a h => h _ a) (swaps_no hc)
theorem x_augattr {o value : Expr} {attr : Str} {tpos pos : Pos} {op : Operator} {Q : Flow → Lo → Led → Prop}
    (h : WP C lo led (eval o C.env) (fun ov lo led => WP C lo led (getAttr ov attr true) (fun old lo led => WP C lo led (eval value C.env) (fun v lo led => WP C lo led (inplaceOp op old v) (fun new lo led => WP C lo led (setAttr ov attr new) (fun _ => Q .next)))))) :
    WP C lo led (exec (.AugAssign (.Attribute o attr tpos) op value pos) C.env) Q := fun s hs =>
  wpAny_AugAssign_AttributeAny (h.go hs fun _ _ _ _ a h => h.go a fun _ _ _ _ a h => h.go a fun _ _ _ _ a h => h.go a fun _ _ _ _ a h => h _ a)

theorem e_uop {op : UnaryOp} {x : Expr} {pos : Pos} (h : WP C lo led (eval x C.env) (fun v lo led => WP C lo led (unaryOp op v) Q)) : WP C lo led (eval (.UnaryOp op x pos) C.env) Q := fun s hs => UnaryOp_ (h.go hs fun _ _ _ _ a h => h _ a)
theorem u_neg {a : Int} {t : Tok} (h : ∀ t, Q (.int (-a) t) lo led) : WP C lo led (unaryOp .USub (.int a t)) Q := fun s hs => by (with_reducible refine PySem.P.neg_int ?_); exact ⟨lo, led, hs.toks _, h _⟩
theorem x_assert {test : Expr} {pos : Pos} {Q : Flow → Lo → Led → Prop} (h : WP C lo led (isTrue test C.env (eval test C.env)) (fun b lo led => b = true ∧ Q .next lo led)) : WP C lo led (exec (.Assert test none pos) C.env) Q := fun s hs => by
  show wpAny _ _ (do
    standAt pos
    if ← isTrue test C.env (eval test C.env) then pure .next else assertFails test.pos none) _ _ s
  refine wpAny_bind (wpAny_standAt (wpAny_bind (h.go hs fun b lo' led' s' a q => ?_)))
  rw [q.1]
  exact wpAny_pure ⟨lo', led', a, q.2⟩
/- methods of texts -/
theorem m_count {x : Str} {t : Tok} {pl : Sem Bool} {Q : Value → List Value → Lo → Led → Prop} (h : Q (.builtin "str.count") [.str x t] lo led) : WP C lo led (getMethod (.str x t) (Str.ofString "count") pl) (uc Q) := fun s hs => by (with_reducible refine GM.count ?_); exact ⟨lo, led, hs, h⟩
theorem m_rfind {x : Str} {t : Tok} {pl : Sem Bool} {Q : Value → List Value → Lo → Led → Prop} (h : Q (.builtin "str.rfind") [.str x t] lo led) : WP C lo led (getMethod (.str x t) (Str.ofString "rfind") pl) (uc Q) := fun s hs => by (with_reducible refine GM.rfind ?_); exact ⟨lo, led, hs, h⟩
theorem m_replace {x : Str} {t : Tok} {pl : Sem Bool} {Q : Value → List Value → Lo → Led → Prop} (h : Q (.builtin "str.replace") [.str x t] lo led) : WP C lo led (getMethod (.str x t) (Str.ofString "replace") pl) (uc Q) := fun s hs => by (with_reducible refine GM.replace ?_); exact ⟨lo, led, hs, h⟩
theorem m_split {x : Str} {t : Tok} {pl : Sem Bool} {Q : Value → List Value → Lo → Led → Prop} (h : Q (.builtin "str.split") [.str x t] lo led) : WP C lo led (getMethod (.str x t) (Str.ofString "split") pl) (uc Q) := fun s hs => by (with_reducible refine GM.split ?_); exact ⟨lo, led, hs, h⟩
theorem m_join {x : Str} {t : Tok} {pl : Sem Bool} {Q : Value → List Value → Lo → Led → Prop} (h : Q (.builtin "str.join") [.str x t] lo led) : WP C lo led (getMethod (.str x t) (Str.ofString "join") pl) (uc Q) := fun s hs => by (with_reducible refine GM.join ?_); exact ⟨lo, led, hs, h⟩
open Builtin Builtin.Str in
theorem gives_count4 (x y : Str) (i j : Int) (t u v z : Tok) : Gives (Builtin.«str.count» ⟨[.str x t, .str y u, .int i v, .int j z], []⟩) (.int (occurrences x y (fromIndex x.length i) (min (fromIndex x.length j) x.length) (x.length + 1)).length) := by
  show Gives (retInt (occurrences x y (fromIndex x.length i) (min (fromIndex x.length j) x.length) (x.length + 1)).length) _
  exact .of_eq rfl
open Builtin Builtin.Str in
theorem gives_rfind4 (x y : Str) (i j : Int) (t u v z : Tok) : Gives (Builtin.«str.rfind» ⟨[.str x t, .str y u, .int i v, .int j z], []⟩) (.int (asInt (lastOccurrence x y (fromIndex x.length i) (min (fromIndex x.length j) x.length)))) := by
  show Gives (match lastOccurrence x y (fromIndex x.length i) (min (fromIndex x.length j) x.length) with | some i => retInt i | none => (do rule "str.rfind.not-found"; retInt (-1))) _
  cases lastOccurrence x y (fromIndex x.length i) (min (fromIndex x.length j) x.length) with
  | none => exact .rule (.of_eq rfl)
  | some i => exact .of_eq rfl
open Builtin Builtin.Str in
theorem f_count {l : List Nat} {c : Nat} {y : Str} {t u v z : Tok} {j : Int} (n : Nat) (hy : y = S [c]) (hj : j = (n : Int)) (hn : n ≤ l.length) (h : ∀ t, Q (.int ((l.take n).count c : Nat) t) lo led) :
    WP C lo led (call (.builtin "str.count") [.str (S l) t, .str y u, .int 0 v, .int j z]) Q := fun s hs => by
  subst hj hy
  have e1 : fromIndex (S l).length 0 = 0 := rfl
  have e2 : min (fromIndex (S l).length (n : Int)) (S l).length = n := by unfold fromIndex; rw [S_len]; omega
  have g := gives_count4 (S l) (S [c]) 0 (n : Int) t u v z
  rw [e1, e2, occ_count l c n hn] at g
  with_reducible refine call_gives F.slot_str_count (typeIs_str _ _ _) F.entry_str_count (F.args_str_count_4 _ _ _ _) g ?_
  exact ⟨lo, led, hs.toks _, h _⟩
open Builtin Builtin.Str in
theorem f_rfind {l : List Nat} {y : Str} {t u v z : Tok} {j : Int} (n : Nat) (hy : y = S [10]) (hj : j = (n : Int)) (hn : n ≤ l.length) (h : ∀ t, Q (.int (lastNl (l.take n)) t) lo led) :
    WP C lo led (call (.builtin "str.rfind") [.str (S l) t, .str y u, .int 0 v, .int j z]) Q := fun s hs => by
  subst hj hy
  have e1 : fromIndex (S l).length 0 = 0 := rfl
  have e2 : min (fromIndex (S l).length (n : Int)) (S l).length = n := by unfold fromIndex; rw [S_len]; omega
  have g := gives_rfind4 (S l) (S [10]) 0 (n : Int) t u v z
  rw [e1, e2, last_nl l n hn] at g
  with_reducible refine call_gives F.slot_str_rfind (typeIs_str _ _ _) F.entry_str_rfind (F.args_str_rfind_4 _ _ _ _) g ?_
  exact ⟨lo, led, hs.toks _, h _⟩
end
/- entries of dicts with written keys -/
abbrev ent (P : Params) (n : String) (t : Tok) (v : Value) : DictEntry := ⟨PyData.keyHash P (Str.ofString n), .str (Str.ofString n) t, v⟩
/-- the stream's own dict -/
abbrev sEnts (P : Params) (kt : Nat → Tok) (v0 v1 v2 v3 v4 v5 v6 v7 v8 v9 : Value) : List DictEntry :=
  [ent P "reportCharacterErrors" (kt 0) v0, ent P "newLines" (kt 1) v1, ent P "dataStream" (kt 2) v2, ent P "chunk" (kt 3) v3, ent P "chunkSize" (kt 4) v4, ent P "chunkOffset" (kt 5) v5, ent P "errors" (kt 6) v6, ent P "prevNumLines" (kt 7) v7, ent P "prevNumCols" (kt 8) v8, ent P "_bufferedCharacter" (kt 9) v9]
def sDict (P : Params) (kt : Nat → Tok) (v0 v1 v2 v3 v4 v5 v6 v7 v8 v9 : Value) : List DictEntry := sEnts P kt v0 v1 v2 v3 v4 v5 v6 v7 v8 v9
section
variable {P : Params} {kt : Nat → Tok} {v0 v1 v2 v3 v4 v5 v6 v7 v8 v9 v : Value} {hh : Int} {t : Tok}
theorem sg0 : getL (Str.ofString "reportCharacterErrors") (sDict P kt v0 v1 v2 v3 v4 v5 v6 v7 v8 v9) = some (some v0) := by kernel_rfl
theorem sg2 : getL (Str.ofString "dataStream") (sDict P kt v0 v1 v2 v3 v4 v5 v6 v7 v8 v9) = some (some v2) := by kernel_rfl
theorem sg3 : getL (Str.ofString "chunk") (sDict P kt v0 v1 v2 v3 v4 v5 v6 v7 v8 v9) = some (some v3) := by kernel_rfl
theorem sg4 : getL (Str.ofString "chunkSize") (sDict P kt v0 v1 v2 v3 v4 v5 v6 v7 v8 v9) = some (some v4) := by kernel_rfl
theorem sg5 : getL (Str.ofString "chunkOffset") (sDict P kt v0 v1 v2 v3 v4 v5 v6 v7 v8 v9) = some (some v5) := by kernel_rfl
theorem sg6 : getL (Str.ofString "errors") (sDict P kt v0 v1 v2 v3 v4 v5 v6 v7 v8 v9) = some (some v6) := by kernel_rfl
theorem sg7 : getL (Str.ofString "prevNumLines") (sDict P kt v0 v1 v2 v3 v4 v5 v6 v7 v8 v9) = some (some v7) := by kernel_rfl
theorem sg8 : getL (Str.ofString "prevNumCols") (sDict P kt v0 v1 v2 v3 v4 v5 v6 v7 v8 v9) = some (some v8) := by kernel_rfl
theorem sg9 : getL (Str.ofString "_bufferedCharacter") (sDict P kt v0 v1 v2 v3 v4 v5 v6 v7 v8 v9) = some (some v9) := by kernel_rfl
theorem sgn (n : Str) (hn : (n == "reportCharacterErrors" || n == "newLines" || n == "dataStream" || n == "chunk" || n == "chunkSize" || n == "chunkOffset" || n == "errors" || n == "prevNumLines" || n == "prevNumCols" || n == "_bufferedCharacter") = false) : getL n (sDict P kt v0 v1 v2 v3 v4 v5 v6 v7 v8 v9) = some none := by
  simp only [Bool.or_eq_false_iff] at hn
  obtain ⟨⟨⟨⟨⟨⟨⟨⟨⟨a0, a1⟩, a2⟩, a3⟩, a4⟩, a5⟩, a6⟩, a7⟩, a8⟩, a9⟩ := hn
  have q : ∀ (m : String) (tt : Tok), (n == Str.ofString m) = false → (Value.str (Str.ofString m) tt).isStr n = false := fun m tt h => by
    show (Str.ofString m == n) = false
    rw [beq_eq_false_iff_ne] at h ⊢; exact fun e => h e.symm
  unfold getL sDict sEnts ent
  simp only [List.find?_cons, q _ _ a0, q _ _ a1, q _ _ a2, q _ _ a3, q _ _ a4, q _ _ a5, q _ _ a6, q _ _ a7, q _ _ a8, q _ _ a9, List.find?_nil]
  rfl
theorem sp3 : (putL (Str.ofString "chunk") hh (.str (Str.ofString "chunk") t) v (sDict P kt v0 v1 v2 v3 v4 v5 v6 v7 v8 v9), putN (Str.ofString "chunk") (sDict P kt v0 v1 v2 v3 v4 v5 v6 v7 v8 v9) 10) = (sDict P kt v0 v1 v2 v v4 v5 v6 v7 v8 v9, 10) := by kernel_rfl
theorem sp4 : (putL (Str.ofString "chunkSize") hh (.str (Str.ofString "chunkSize") t) v (sDict P kt v0 v1 v2 v3 v4 v5 v6 v7 v8 v9), putN (Str.ofString "chunkSize") (sDict P kt v0 v1 v2 v3 v4 v5 v6 v7 v8 v9) 10) = (sDict P kt v0 v1 v2 v3 v v5 v6 v7 v8 v9, 10) := by kernel_rfl
theorem sp5 : (putL (Str.ofString "chunkOffset") hh (.str (Str.ofString "chunkOffset") t) v (sDict P kt v0 v1 v2 v3 v4 v5 v6 v7 v8 v9), putN (Str.ofString "chunkOffset") (sDict P kt v0 v1 v2 v3 v4 v5 v6 v7 v8 v9) 10) = (sDict P kt v0 v1 v2 v3 v4 v v6 v7 v8 v9, 10) := by kernel_rfl
theorem sp7 : (putL (Str.ofString "prevNumLines") hh (.str (Str.ofString "prevNumLines") t) v (sDict P kt v0 v1 v2 v3 v4 v5 v6 v7 v8 v9), putN (Str.ofString "prevNumLines") (sDict P kt v0 v1 v2 v3 v4 v5 v6 v7 v8 v9) 10) = (sDict P kt v0 v1 v2 v3 v4 v5 v6 v v8 v9, 10) := by kernel_rfl
theorem sp8 : (putL (Str.ofString "prevNumCols") hh (.str (Str.ofString "prevNumCols") t) v (sDict P kt v0 v1 v2 v3 v4 v5 v6 v7 v8 v9), putN (Str.ofString "prevNumCols") (sDict P kt v0 v1 v2 v3 v4 v5 v6 v7 v8 v9) 10) = (sDict P kt v0 v1 v2 v3 v4 v5 v6 v7 v v9, 10) := by kernel_rfl
theorem sp9 : (putL (Str.ofString "_bufferedCharacter") hh (.str (Str.ofString "_bufferedCharacter") t) v (sDict P kt v0 v1 v2 v3 v4 v5 v6 v7 v8 v9), putN (Str.ofString "_bufferedCharacter") (sDict P kt v0 v1 v2 v3 v4 v5 v6 v7 v8 v9) 10) = (sDict P kt v0 v1 v2 v3 v4 v5 v6 v7 v8 v, 10) := by kernel_rfl
end
/-- a Text's own dict -/
def tDict (P : Params) (kt : Nat → Tok) (v0 v1 : Value) : List DictEntry := [ent P "text" (kt 0) v0, ent P "place" (kt 1) v1]
theorem tg0 {P : Params} {kt : Nat → Tok} {v0 v1 : Value} : getL (Str.ofString "text") (tDict P kt v0 v1) = some (some v0) := by kernel_rfl
theorem tg1 {P : Params} {kt : Nat → Tok} {v0 v1 : Value} : getL (Str.ofString "place") (tDict P kt v0 v1) = some (some v1) := by kernel_rfl
theorem tgr {P : Params} {kt : Nat → Tok} {v0 v1 : Value} : getL (Str.ofString "read") (tDict P kt v0 v1) = some none := by kernel_rfl
theorem tp1 {P : Params} {kt : Nat → Tok} {v0 v1 v : Value} {hh : Int} {t : Tok} : (putL (Str.ofString "place") hh (.str (Str.ofString "place") t) v (tDict P kt v0 v1), putN (Str.ofString "place") (tDict P kt v0 v1) 2) = (tDict P kt v0 v, 2) := by kernel_rfl
/-- the tokenizer's own dict -/
def kDict (P : Params) (kt : Nat → Tok) (v0 v1 v2 v3 v4 v5 v6 v7 : Value) : List DictEntry :=
  [ent P "stream" (kt 0) v0, ent P "parser" (kt 1) v1, ent P "escapeFlag" (kt 2) v2, ent P "lastFourChars" (kt 3) v3, ent P "state" (kt 4) v4, ent P "escape" (kt 5) v5, ent P "currentToken" (kt 6) v6, ent P "tokenQueue" (kt 7) v7]
section
variable {P : Params} {kt : Nat → Tok} {v0 v1 v2 v3 v4 v5 v6 v7 v : Value} {hh : Int} {t : Tok}
theorem kg0 : getL (Str.ofString "stream") (kDict P kt v0 v1 v2 v3 v4 v5 v6 v7) = some (some v0) := by kernel_rfl
theorem kg1 : getL (Str.ofString "state") (kDict P kt v0 v1 v2 v3 v4 v5 v6 v7) = some (some v4) := by kernel_rfl
theorem kg2 : getL (Str.ofString "currentToken") (kDict P kt v0 v1 v2 v3 v4 v5 v6 v7) = some (some v6) := by kernel_rfl
theorem kg3 : getL (Str.ofString "tokenQueue") (kDict P kt v0 v1 v2 v3 v4 v5 v6 v7) = some (some v7) := by kernel_rfl
theorem kp1 : (putL (Str.ofString "state") hh (.str (Str.ofString "state") t) v (kDict P kt v0 v1 v2 v3 v4 v5 v6 v7), putN (Str.ofString "state") (kDict P kt v0 v1 v2 v3 v4 v5 v6 v7) 8) = (kDict P kt v0 v1 v2 v3 v v5 v6 v7, 8) := by kernel_rfl
theorem kp2 : (putL (Str.ofString "currentToken") hh (.str (Str.ofString "currentToken") t) v (kDict P kt v0 v1 v2 v3 v4 v5 v6 v7), putN (Str.ofString "currentToken") (kDict P kt v0 v1 v2 v3 v4 v5 v6 v7) 8) = (kDict P kt v0 v1 v2 v3 v4 v5 v v7, 8) := by kernel_rfl
theorem kp3 : (putL (Str.ofString "tokenQueue") hh (.str (Str.ofString "tokenQueue") t) v (kDict P kt v0 v1 v2 v3 v4 v5 v6 v7), putN (Str.ofString "tokenQueue") (kDict P kt v0 v1 v2 v3 v4 v5 v6 v7) 8) = (kDict P kt v0 v1 v2 v3 v4 v5 v6 v, 8) := by kernel_rfl
end
end Mine
end
section
open PySem PySem.W PyProof.Rows PySem.Spec PySem.Calls
set_option Elab.async false
set_option linter.unusedVariables false
set_option maxRecDepth 100000
namespace Mine
section
variable {fn : Fn} {C : Cx fn} {lo : Lo} {led : Led} {k : Nat} {Q : Flow → Lo → Led → Prop}

theorem no_noted {α : Type} {w : World} {A : Around} {env : Env} {t : Sem α} {R : α → Shared → Prop} {s : Shared} {E : Value → Shared → Prop} (h : wpAny (model PG w) A t R No s) : wpAny (model PG w) A t R E s :=
  wpAny_mono h (fun _ _ x => x) fun _ _ x => x.elim

/-- what is left of the names and of the ledger is as J says -/
inductive Less (J : Lo → Led → Prop) (lo : Lo) (led : Led) : Prop
  | mk (lo' : Lo) (led' : Led) (hf : Fewer lo' lo) (hp : Part led' led) (hj : J lo' led') : Less J lo led
inductive LessN (J : Nat → Lo → Led → Prop) (n : Nat) (lo : Lo) (led : Led) : Prop
  | mk (m : Nat) (hm : m < n) (lo' : Lo) (led' : Led) (hf : Fewer lo' lo) (hp : Part led' led) (hj : J m lo' led') : LessN J n lo led
inductive LessI (J : Lo → Led → Prop) (I : Addr) (o : Obj) (lo : Lo) (led : Led) : Prop
  | mk (lo' : Lo) (led' : Led) (hf : Fewer lo' lo) (hp : Part ((I, o) :: led') led) (hj : J lo' led') : LessI J I o lo led
@[reducible] def WTurn (J : Nat → Lo → Led → Prop) (n : Nat) (B : Lo → Led → Prop) (Q : Flow → Lo → Led → Prop) (f : Flow) (lo : Lo) (led : Led) : Prop :=
  match f with
  | .next | .cont => LessN J n lo led
  | .brk => B lo led
  | .ret v => Q (.ret v) lo led
/-- a while by what holds between its turns and a measure -/
theorem x_while {test : Expr} {body : List Stmt} {pos : Pos} (J : Nat → Lo → Led → Prop) (n₀ : Nat) (h0 : J n₀ lo led)
    (turn : ∀ n lo led, J n lo led → WP C lo led (isTrue test C.env (eval test C.env)) (fun b lo led => Br b
      (WP C lo led (execs body C.env) (WTurn J n (Q .next) Q)) (Q .next lo led))) :
    WP C lo led (exec (.While test body [] pos) C.env) Q := fun s hs => by
  refine wpAny_While (codeAny_whileLoop (fun n s => ∃ lo led, St C lo led s ∧ J n lo led) ?_ n₀ ⟨lo, led, hs, h0⟩)
  rintro n s ⟨lo, led, hs, hJ⟩
  refine no_noted (env := C.env) ((turn n lo led hJ).go hs fun b lo₁ led₁ s₁ st₁ hb => ?_)
  cases b with
  | false => exact wpAny_execs_nil ⟨lo₁, led₁, st₁, hb.2 rfl⟩
  | true =>
    refine no_noted (env := C.env) ((hb.1 rfl).go st₁ fun f lo₂ led₂ s₂ st₂ hf => ?_)
    cases f with
    | next => obtain ⟨m, hm, lo', led', a, b, c⟩ := hf; exact ⟨m, hm, lo', led', st₂.less a b, c⟩
    | cont => obtain ⟨m, hm, lo', led', a, b, c⟩ := hf; exact ⟨m, hm, lo', led', st₂.less a b, c⟩
    | brk => exact ⟨lo₂, led₂, st₂, hf⟩
    | ret v => exact ⟨lo₂, led₂, st₂, hf⟩

/-- one step of an iterator that stands in the ledger -/
theorem st_iter {s : Shared} {I : Addr} {o o' : Obj} {h' : Heap} {tk : Nat} (hs : St C lo ((I, o) :: led) s) (ho : h'.get? I = some o') (hk : ∀ b x, b ≠ I → s.heap.get? b = some x → h'.get? b = some x) (htk : 0 < tk) :
    St C lo ((I, o') :: led) { s with heap := h', toks := tk } := by
  obtain ⟨m, F, kn⟩ := hs.F
  have hI := hs.N (I, o) (.head _)
  have nd := List.nodup_cons.mp hs.nd
  refine ⟨⟨m, ⟨F.ns.at' fun x e => hk _ x (Ne.symm hI.2.1) e, fun b x e => hk b x (fun q => by have z := hI.2.2; dsimp only at z; rw [← q, e] at z; cases z) (F.keep b x e), F.above⟩, kn⟩, fun p hp => ?_, List.nodup_cons.mpr nd, hs.g, hs.dr, hs.os, htk⟩
  rcases List.mem_cons.mp hp with rfl | hp
  · exact ⟨ho, hI.2.1, hI.2.2⟩
  · have z := hs.N p (.tail _ hp)
    exact ⟨hk _ _ (fun e => nd.1 (e ▸ List.mem_map.mpr ⟨p, hp, rfl⟩)) z.1, z.2⟩
theorem st_drop {s : Shared} {I : Addr} {o : Obj} (hs : St C lo ((I, o) :: led) s) {h' : Heap} {tk : Nat} (hk : ∀ b x, b ≠ I → s.heap.get? b = some x → h'.get? b = some x) (htk : 0 < tk) :
    St C lo led { s with heap := h', toks := tk } := by
  obtain ⟨m, F, kn⟩ := hs.F
  have hI := hs.N (I, o) (.head _)
  have nd := List.nodup_cons.mp hs.nd
  refine ⟨⟨m, ⟨F.ns.at' fun x e => hk _ x (Ne.symm hI.2.1) e, fun b x e => hk b x (fun q => by have z := hI.2.2; dsimp only at z; rw [← q, e] at z; cases z) (F.keep b x e), F.above⟩, kn⟩, fun p hp => ?_, nd.2, hs.g, hs.dr, hs.os, htk⟩
  have z := hs.N p (.tail _ hp)
  exact ⟨hk _ _ (fun e => nd.1 (e ▸ List.mem_map.mpr ⟨p, hp, rfl⟩)) z.1, z.2⟩

/-- what a turn of a for must leave -/
def Turn (J : Lo → Led → Prop) (I : Addr) (o : Obj) (Q : Flow → Lo → Led → Prop) (f : Flow) (lo : Lo) (led : Led) : Prop :=
  match f with
  | .next | .cont => LessI J I o lo led
  | .brk => Q .next lo led
  | .ret v => Q (.ret v) lo led
theorem for_core {target : Expr} {body : List Stmt} {I : Addr} {fp : List Addr} {n : Nat} {P : Nat → Value → Prop} {Stt : Nat → Heap → Prop} {s : Shared} {o : Obj} (J : Nat → Lo → Led → Prop)
    (W : Walks PG C.w C.A I fp [I] n P Stt) (hob : ∀ i h, Stt i h → ∃ o, h.get? I = some o) (hfp : ∀ b ∈ fp, b = I ∨ ∃ ob, ∀ i lo led, J i lo led → (b, ob) ∈ led)
    (hlet : ∀ i v (s : Shared) (R : Unit → Shared → Prop), P i v → Stt (i + 1) s.heap → R () s → wpAny (model PG C.w) C.A (letOwnedTupleGo target (.ref I) v) R No s)
    (hs : St C lo ((I, o) :: led) s) (hst : Stt 0 s.heap) (h0 : J 0 lo led)
    (turn : ∀ i v lo led o, i < n → P i v → J i lo led → WP C lo ((I, o) :: led) (assign target C.env v) (fun _ lo led => WP C lo led (execs body C.env) (Turn (J (i + 1)) I o Q)))
    (done : ∀ lo led, J n lo led → Q .next lo led) {E : Value → Shared → Prop} :
    codeAny (model PG C.w) C.A (.forLoop target (.ref I) body [] C.env) (fun r s' => match r with | .ok f => ∃ lo' led', St C lo' led' s' ∧ Q f lo' led' | .error e => E e s') s := by
  refine codeAny_forLoop_any (fun m s => ∃ i lo led o, m = n - i ∧ i ≤ n ∧ St C lo ((I, o) :: led) s ∧ Stt i s.heap ∧ J i lo led) ?_ n ⟨0, lo, led, o, rfl, Nat.zero_le _, hs, hst, h0⟩
  rintro m s ⟨i, lo, led, o, rfl, hi, hs, hst, hJ⟩
  by_cases hlt : i < n
  · refine no_noted (env := C.env) (wpAny_with_toks (n := 1) hs.tk (W.item i s _ _ hlt hst fun v h' tk hP hst' hk htk => ?_))
    obtain ⟨o', ho'⟩ := hob _ _ hst'
    have st₁ := st_iter hs ho' (fun b x hb e => hk b x (by simpa using hb) e) htk
    refine no_noted (env := C.env) (hlet i v _ _ hP hst' ?_)
    refine no_noted (env := C.env) ((turn i v lo led o' hlt hP hJ).go st₁ fun _ lo₂ led₂ s₂ st₂ h₂ => ?_)
    refine no_noted (env := C.env) (h₂.go st₂ fun f lo₃ led₃ s₃ st₃ h₃ => ?_)
    have fin : LessI (J (i + 1)) I o' lo₃ led₃ → ∃ m, m < n - i ∧ ∃ i lo led o, m = n - i ∧ i ≤ n ∧ St C lo ((I, o) :: led) s₃ ∧ Stt i s₃.heap ∧ J i lo led := by
      rintro ⟨lo', led', a, b, c⟩
      have st₄ := st₃.less a b
      refine ⟨n - (i + 1), by omega, i + 1, lo', led', o', rfl, hlt, st₄, W.frame _ _ _ hst' fun b hb x e => ?_, c⟩
      rcases hfp b hb with rfl | ⟨ob, hob'⟩
      · have : x = o' := by have := e.symm.trans ho'; exact Option.some.inj this
        rw [this]; exact (st₄.N _ (.head _)).1
      · have e1 := (st₁.N _ (.tail _ (hob' _ _ _ hJ))).1
        have e2 := (st₄.N _ (.tail _ (hob' _ _ _ c))).1
        dsimp only at e1 e2
        rw [e] at e1
        rw [Option.some.inj e1]; exact e2
    cases f with
    | next => exact fin h₃
    | cont => exact fin h₃
    | brk => exact ⟨lo₃, led₃, st₃, h₃⟩
    | ret v => exact ⟨lo₃, led₃, st₃, h₃⟩
  · have hin : i = n := by omega
    subst hin
    refine no_noted (env := C.env) (wpAny_with_toks (n := 1) hs.tk (W.done s _ _ hst fun h' tk hk htk => ?_))
    exact wpAny_execs_nil ⟨lo, led, st_drop hs (fun b x hb e => hk b x (by simpa using hb) e) htk, done _ _ hJ⟩
theorem fold_no {iter : Expr} {env : Env} (h : (match iter with | .Set .. => false | _ => true) = true) (x : Value) : foldedSetIterable iter env x = pure x := by
  cases iter <;> first | rfl | cases h
def noSet : Expr → Bool
  | .Set .. => false
  | _ => true
/-- for over a text's signs -/
theorem x_for_str (hC : C.Ok k) {x : Str} {px : Pos} {iter : Expr} {body : List Stmt} {pos : Pos} (hx : locB fn x = true) (hi : noSet iter = true) (l : List Nat) (J : Nat → Lo → Led → Prop)
    (h : WP C lo led (eval iter C.env) (fun v lo led => (∃ t, v = .str (S l) t) ∧ J 0 lo led))
    (turn : ∀ i (hi : i < l.length) t lo led I o, J i lo led → WP C ((x, .str (S [l[i]]) t) :: lo) ((I, o) :: led) (execs body C.env) (Turn (J (i + 1)) I o Q))
    (done : ∀ lo led, J l.length lo led → Q .next lo led) : WP C lo led (exec (.For (.Name x px) iter body [] pos) C.env) Q := fun s hs => by
  refine wpAny_For (h.go hs fun v lo₁ led₁ s₁ st₁ h₁ => ?_) (fold_no (by cases iter <;> first | rfl | cases hi))
  obtain ⟨⟨t, rfl⟩, hJ⟩ := h₁
  obtain ⟨m, F, kn⟩ := st₁.F
  have go : ∀ (ty : String) (o : Obj), Walks PG C.w C.A s₁.heap.objs.size [s₁.heap.objs.size] [s₁.heap.objs.size] (S l).cps.size (SignAt (S l)) (fun i h => h.IsStrIter s₁.heap.objs.size ty (S l) t i) →
      (s₁.heap.push o).IsStrIter s₁.heap.objs.size ty (S l) t 0 → o.isFreed = false →
      codeAny (model PG C.w) C.A (.forLoop (.Name x px) (.ref s₁.heap.objs.size) body [] C.env) (fun r s' => match r with | .ok f => ∃ lo' led', St C lo' led' s' ∧ Q f lo' led' | .error e => cameBackBy (model PG C.w) C.A C.env No e s') { s₁ with heap := s₁.heap.push o } := by
    intro ty o W hst hf
    refine for_core (o := o) J W (fun i h z => let ⟨o, ho, _⟩ := z; ⟨o, ho⟩) (fun b hb => .inl (by simpa using hb)) (fun i v s R _ _ r => wpAny_pure r) (st₁.alloc (F.push _) kn (N := st₁.N.push F _ hf) st₁.lt st₁.tk) hst hJ ?_ (fun lo led hJ => done lo led (by simpa using hJ))
    rintro i v lo led o' hi ⟨c, u, hc, rfl⟩ hJ
    have hi' : i < l.length := by simpa using hi
    have hc' : c = l[i] := by have : (S l).cps[i]? = some l[i] := by simp [hi']
                              rw [this] at hc; exact (Option.some.inj hc).symm
    subst hc'
    intro s hs
    exact wpAny_assign_Name ((n_store hx (turn i hi' u lo led _ o' hJ) : WP C _ _ _ _) s hs)
  cases ha : (S l).cps.all (· < 128)
  · exact wpAny_pyIter_wide ha (go "str_iterator" _ (Walks.strWide hC.hd _ (S l) t) ⟨_, Heap.get?_push_size _ rfl, rfl, rfl⟩ rfl)
  · exact wpAny_pyIter_ascii ha (go "str_ascii_iterator" _ (Walks.strAscii hC.hd _ (S l) t) ⟨_, Heap.get?_push_size _ rfl, rfl, rfl⟩ rfl)
end
end Mine
end
section
open PySem PySem.W PyProof.Rows PySem.Spec PySem.Calls
set_option Elab.async false
set_option linter.unusedVariables false
set_option maxRecDepth 100000
namespace Mine
section
variable {fn : Fn} {C : Cx fn} {lo : Lo} {led : Led} {k : Nat}
/- unpacking -/
def Asg (C : Cx fn) : List Expr → List Value → (Unit → Lo → Led → Prop) → Lo → Led → Prop
  | e :: es, v :: vs, Q, lo, led => WP C lo led (assign e C.env v) (fun _ lo led => Asg C es vs Q lo led)
  | _, _, Q, lo, led => Q () lo led
theorem asg_cons {e : Expr} {es : List Expr} {v : Value} {vs : List Value} {Q : Unit → Lo → Led → Prop} (h : WP C lo led (assign e C.env v) (fun _ lo led => Asg C es vs Q lo led)) : Asg C (e :: es) (v :: vs) Q lo led := h
theorem asg_nil {Q : Unit → Lo → Led → Prop} (h : Q () lo led) : Asg C [] [] Q lo led := h
theorem assignEach_plain {env : Env} : ∀ {elts : List Expr}, elts.all plainE = true → assignEach elts env = elts.map fun e => (false, assign e env)
  | [], _ => rfl
  | e :: r, h => by
    rw [List.all_cons, Bool.and_eq_true] at h
    rw [List.map_cons, ← assignEach_plain h.2]
    have h1 := h.1
    cases e <;> first | rfl | cases h1
theorem asg_run {Q : Unit → Lo → Led → Prop} : ∀ {elts : List Expr} {vs : List Value} {lo : Lo} {led : Led} {s : Shared}, Asg C elts vs Q lo led → St C lo led s →
    wpAny (model PG C.w) C.A (assignInOrder (elts.map fun e => assign e C.env) vs) (fun v s' => ∃ lo' led', St C lo' led' s' ∧ Q v lo' led') No s
  | e :: es, v :: vs, lo, led, s, h, hs => wpAny_bind (wpAny_holding ((show WP C lo led (assign e C.env v) _ from h).go hs fun _ _ _ _ a b => asg_run b a))
  | [], vs, lo, led, s, h, hs => by
    have h' : Q () lo led := by cases vs <;> exact h
    cases vs <;> exact wpAny_pure ⟨lo, led, hs, h'⟩
  | e :: es, [], lo, led, s, h, hs => wpAny_pure ⟨lo, led, hs, h⟩
theorem St.ext {s : Shared} {h' : Heap} (hs : St C lo led s) (e : Heap.ExtBut s.heap.objs.size s.heap h') : St C lo led { s with heap := h' } := by
  obtain ⟨m, F, kn⟩ := hs.F
  have lt : ∀ b x, s.heap.get? b = some x → h'.get? b = some x := fun b x q => e b x (Nat.ne_of_lt (Heap.lt_size q)) q
  exact ⟨⟨m, ⟨F.ns.at' fun x q => lt _ x q, fun b x q => lt b x (F.keep b x q), F.above⟩, kn⟩, fun p hp => ⟨lt _ _ (hs.N p hp).1, (hs.N p hp).2⟩, hs.nd, hs.g, hs.dr, hs.os, hs.tk⟩
theorem a_unpack (hC : C.Ok k) {a : Addr} {items : List Value} {n kk : Nat} {elts : List Expr} {pos : Pos} {Q : Unit → Lo → Led → Prop} (hl : Has (a, { cls := .type "tuple", data := .seq items.toArray n }) led)
    (hn : elts.length = items.length) (hp : elts.all plainE = true) (h : Asg C elts items Q lo led) : WP C lo led (assign (.Tuple elts kk pos) C.env (.ref a)) Q := fun s hs => by
  rw [assign_Tuple]
  refine wpAny_bind (wpAny_standAt ?_)
  rw [assignEach_plain hp]
  refine unpack_tuple hC.hd (News.isTup hs.N hl.mem) (by simp [hn]) (by rw [List.findIdx?_eq_none_iff]; intro x hx; obtain ⟨e, _, rfl⟩ := List.mem_map.mp hx; rfl) fun h' e => ?_
  rw [List.map_map]
  exact asg_run h (hs.ext e)
def notTup : Expr → Bool
  | .Tuple .. => false
  | _ => true
theorem x_unpack {elts : List Expr} {kk : Nat} {tpos pos : Pos} {value : Expr} {Q : Flow → Lo → Led → Prop} (ht : notTup value = true) (h : WP C lo led (eval value C.env) (fun v lo led => WP C lo led (assign (.Tuple elts kk tpos) C.env v) (fun _ => Q .next))) :
    WP C lo led (exec (.Assign [.Tuple elts kk tpos] value pos) C.env) Q := fun s hs =>
  Assign_Tuple (h.go hs fun _ _ _ _ a b => b _ a) (by cases value <;> first | rfl | cases ht) (by cases value <;> first | rfl | cases ht)
theorem as_name {x : Str} {pos : Pos} {v : Value} {Q : Unit → Lo → Led → Prop} (hb : locB fn x = true) (h : Q () ((x, v) :: lo) led) : WP C lo led (assign (.Name x pos) C.env v) Q := fun s hs =>
  wpAny_assign_Name (n_store hb h s hs)
theorem as_attr {o : Expr} {attr : Str} {pos : Pos} {v : Value} {Q : Unit → Lo → Led → Prop} (h : WP C lo led (eval o C.env) (fun ov lo led => WP C lo led (setAttr ov attr v) Q)) : WP C lo led (assign (.Attribute o attr pos) C.env v) Q := fun s hs => by
  show wpAny _ _ (do
    let ov ← holding [v] (eval o C.env)
    standAt pos.atName
    holding [v, ov] (setAttr ov attr v)
    release [v, ov] []) _ _ s
  exact wpAny_bind (wpAny_holding (h.go hs fun ov _ _ _ a b => wpAny_bind (wpAny_standAt (wpAny_bind (wpAny_holding (b.go a fun u lo' led' _ a b => wpAny_release' ⟨lo', led', a, b⟩))))))
/- chained comparisons -/
def lastB (ops : List CmpOp) (rs : List Expr) : Bool := !lastMarks ops rs
theorem t_chain {l : Expr} {op₁ op₂ : CmpOp} {r₁ r₂ : Expr} {pos : Pos} {whole : Sem Value} {Q : Bool → Lo → Led → Prop} (hm : lastMarks [op₁, op₂] [r₁, r₂] = false)
    (h : WP C lo led (eval l C.env) (fun a lo led => WP C lo led (eval r₁ C.env) (fun b lo led => WP C lo led (compareOp op₁ a b) (fun c lo led => WP C lo led (truthy c) (fun t lo led => Br t
      (WP C lo led (eval r₂ C.env) (fun d lo led => WP C lo led (compareOp op₂ b d) (fun c lo led => WP C lo led (truthy c) Q))) (Q false lo led)))))) :
    WP C lo led (isTrue (.Compare l [op₁, op₂] [r₁, r₂] pos) C.env whole) Q := fun s hs => by
  refine isTrue_chain (h.go hs fun a _ _ _ st h => ?_) hm
  refine test_link (h.go st fun b _ _ _ st h => h.go st fun c _ _ _ st h => h.go st fun t lo' led' _ st h => ?_)
  cases t with
  | false => exact ⟨lo', led', st, h.2 rfl⟩
  | true => exact test_last ((h.1 rfl).go st fun d _ _ _ st h => h.go st fun c _ _ _ st h => h _ st)
theorem e_chain {l : Expr} {op₁ op₂ : CmpOp} {r₁ r₂ : Expr} {pos : Pos} {Q : Value → Lo → Led → Prop} (hm : lastMarks [op₁, op₂] [r₁, r₂] = false)
    (h : WP C lo led (eval l C.env) (fun a lo led => WP C lo led (eval r₁ C.env) (fun b lo led => WP C lo led (compareOp op₁ a b) (fun c lo led => WP C lo led (truthy c) (fun t lo led => Br t
      (WP C lo led (eval r₂ C.env) (fun d lo led => WP C lo led (compareOp op₂ b d) Q)) (Q c lo led)))))) :
    WP C lo led (eval (.Compare l [op₁, op₂] [r₁, r₂] pos) C.env) Q := fun s hs => by
  refine Compare_chain (h.go hs fun a _ _ _ st h => ?_) hm
  refine chain_link (h.go st fun b _ _ _ st h => h.go st fun c _ _ _ st h => h.go st fun t lo' led' _ st h => ?_)
  cases t with
  | false => exact ⟨lo', led', st, h.2 rfl⟩
  | true => exact chain_last ((h.1 rfl).go st fun d _ _ _ st h => h _ st)
theorem e_chainK {l r₁ : Expr} {z : Int} {kk : Nat} {pos pz : Pos} {Q : Value → Lo → Led → Prop}
    (h : WP C lo led (eval l C.env) (fun a lo led => WP C lo led (eval r₁ C.env) (fun b lo led => ∃ x y tx ty, a = .int x tx ∧ b = .int y ty ∧ Q (.bool (decide (x ≤ y) && decide (y ≤ z))) lo led))) :
    WP C lo led (eval (.Compare l [.LtE, .LtE] [r₁, .Constant (.int z) kk pz] pos) C.env) Q := by
  refine e_chain rfl (h.mono fun a lo led h => h.mono fun b lo led h => ?_)
  obtain ⟨x, y, tx, ty, rfl, rfl, q⟩ := h
  refine c_le (tr_bool ⟨fun hb => ?_, fun hb => ?_⟩)
  · rw [hb, Bool.true_and] at q
    exact e_int fun _ => c_le q
  · rw [hb, Bool.false_and] at q
    rw [hb]; exact q
theorem e_or {e₁ e₂ : Expr} {rest : List Expr} {pos : Pos} {Q : Value → Lo → Led → Prop} (h : WP C lo led (eval e₁ C.env) (fun v lo led => WP C lo led (truthy v) (fun c lo led => Br c (Q v lo led) (WP C lo led (eval (.BoolOp .Or (e₂ :: rest) pos) C.env) Q)))) :
    WP C lo led (eval (.BoolOp .Or (e₁ :: e₂ :: rest) pos) C.env) Q := fun s hs =>
  BoolOp_or (h.go hs fun v _ _ _ st h => h.go st fun c lo' led' _ st h => by cases c with | true => exact ⟨lo', led', st, h.1 rfl⟩ | false => exact h.2 rfl _ st)
theorem e_or1 {e₁ : Expr} {pos : Pos} {Q : Value → Lo → Led → Prop} (h : WP C lo led (eval e₁ C.env) Q) : WP C lo led (eval (.BoolOp .Or [e₁] pos) C.env) Q := fun s hs => h s hs
end
end Mine
end
section
open PySem PySem.W PyProof.Rows PySem.Spec PySem.Calls
set_option Elab.async false
set_option linter.unusedVariables false
set_option maxRecDepth 100000
namespace Mine
/-- a list object -/
abbrev lst (vs : List Value) (n : Nat) : Obj := { cls := .type "list", data := .seq vs.toArray n }
abbrev tup (vs : List Value) : Obj := { cls := .type "tuple", data := .seq vs.toArray }
section
variable {fn : Fn} {C : Cx fn} {lo : Lo} {led led' : Led} {k : Nat} {Q : Value → Lo → Led → Prop}
theorem m_append {D : Addr} {vs : List Value} {n : Nat} {pl : Sem Bool} {Q : Value → List Value → Lo → Led → Prop} (hl : Has (D, lst vs n) led) (h : Q (.builtin "list.append") [.ref D] lo led) :
    WP C lo led (getMethod (.ref D) (Str.ofString "append") pl) (uc Q) := fun s hs => by
  with_reducible refine Calls.getMethod_list_append (hs.N.get hl.mem) rfl rfl ?_
  exact ⟨lo, led, hs, h⟩
theorem f_append {D : Addr} {vs : List Value} {n : Nat} {x : Value} (U : Chg D (lst vs n) (lst (vs ++ [x]) (n + 1)) led led') (hz : vs.length ≤ 1000) (h : Q .none lo led') : WP C lo led (call (.builtin "list.append") [.ref D, x]) Q := fun s hs => by
  obtain ⟨m, F, kn⟩ := hs.F
  have e : lst (vs ++ [x]) (n + 1) = W.listOf (vs.toArray.push x) (n + 1) := by simp [lst, W.listOf]
  have U' := (e ▸ U).upd hs.nd
  refine append_K F hs.N U' (fun h' F' N' => ⟨lo, _, hs.heap F' kn N' (by rw [U.keys]; exact hs.nd) hs.tk, h⟩) (by rw [List.size_toArray, sizeLine_eq]; omega)
theorem c_intI {a : Addr} {l : List Value} {n : Nat} {ns : List Int} {x : Int} {u : Tok} (hl : Has (a, { cls := .type "tuple", data := .seq l.toArray n }) led) (hi : IntsAre l ns)
    (h : Q (.bool (ns.any (· == x))) lo led) : WP C lo led (compareOp .In (.int x u) (.ref a)) Q := fun s hs =>
  in_tuple_ints (News.isTup hs.N hl.mem) (by simpa using hi) ⟨lo, led, hs, h⟩
theorem c_intIK (hC : C.Ok k) {a : Addr} {l : List Value} {dd : Option Addr} {sl : Array (Option Value)} {n : Nat} {ns : List Int} {x : Int} {u : Tok} (hl : (Mine.K C.w.params).lookup a = some ⟨.type "tuple", dd, .seq l.toArray n, sl⟩) (hi : IntsAre l ns)
    (h : Q (.bool (ns.any (· == x))) lo led) : WP C lo led (compareOp .In (.int x u) (.ref a)) Q := fun s hs => by
  obtain ⟨m, F, kn⟩ := hs.F
  exact in_tuple_ints (tupK (hC.X.keeps F.keep) hl) (by simpa using hi) ⟨lo, led, hs, h⟩
/- a method object called -/
theorem c_meth (hC : C.Ok k) {q g : Addr} {self : Value} {args : List Expr} {pos : Pos} (hq : Has (q, methodObj (.ref g) self) led) (hf : fnIn (Mine.K C.w.params) g = true) (ha : argsB args = true) (hne : args ≠ [])
    (h : WP C lo led (spliced (backTo pos (starEach args C.env))) (fun vs lo led => Has (q, methodObj (.ref g) self) led ∧ WP C lo led (call (.ref q) vs) Q)) :
    WP C lo led (callWith pos (.ref q) [] (backTo pos (starEach args C.env)) []) Q := fun s hs => by
  simp only [argsB, Bool.and_eq_true, decide_eq_true_eq] at ha
  cases args with
  | nil => exact absurd rfl hne
  | cons e rest =>
    rw [List.all_cons, Bool.and_eq_true] at ha
    exact callWith_M hC.X hs.N hq.mem hf (h.go hs fun vs lo' led' s' a b => ⟨let ⟨_, F, _⟩ := a.F; methP a.N b.1.mem (hC.X.keeps F.keep), b.2 _ a⟩) (starEach_plain ha.1.1) (backTo_any ha.1.2)
theorem Meets.at {j : Nat} {f : Addr} {args : List Value} {P : Value → Led → Prop} (hC : C.Ok k) (hj : j ≤ k) (h : Meets j C.w f args led P) (c : ∀ v led', P v led' → Q v lo led') : WP C lo led (call (.ref f) args) Q := fun s hs => by
  refine wpAny_call (codeAny_mono (h fn C lo rfl (hC.le hj) s hs) fun r s' z => ?_)
  match r, z with
  | .ok (.ret v), ⟨led', a, b⟩ => exact ⟨lo, led', a, c v led' b⟩
theorem WP.pick {α : Type} {t : Sem α} {Q : α → Lo → Led → Prop} {l r : Led} (hp : Pick l led r) (h : WP C lo (l ++ r) t Q) : WP C lo led t Q := h.part ⟨[], by rw [List.append_nil]; exact hp.perm⟩
end
end Mine
end
section
open PySem PySem.W PyProof.Rows PySem.Spec PySem.Calls
set_option Elab.async false
set_option linter.unusedVariables false
set_option maxRecDepth 100000
namespace Mine
theorem fill : PySem.Challenge.rw_rb0001_03 = PySem.Challenge.rw_rb0001_03 → (∀ w : World, Mine.K w.params = Mine.K w.params) → True := by
  k_fill
  intros
  trivial
section
variable {P : Params}
theorem mb_all : methB (Mine.K P) 166 (Str.ofString "_position") 119 = true ∧ methB (Mine.K P) 166 (Str.ofString "position") 126 = true ∧ methB (Mine.K P) 166 (Str.ofString "char") 133 = true ∧ methB (Mine.K P) 166 (Str.ofString "readChunk") 141 = true ∧ methB (Mine.K P) 166 (Str.ofString "charsUntil") 156 = true ∧ methB (Mine.K P) 166 (Str.ofString "unget") 163 = true ∧ methB (Mine.K P) 73 (Str.ofString "read") 70 = true ∧ methB (Mine.K P) 762 (Str.ofString "emitCurrentToken") 297 = true ∧ methB (Mine.K P) 762 (Str.ofString "dataState") 304 = true ∧ methB (Mine.K P) 762 (Str.ofString "tagOpenState") 353 = true ∧ methB (Mine.K P) 762 (Str.ofString "closeTagOpenState") 360 = true ∧ methB (Mine.K P) 762 (Str.ofString "tagNameState") 367 = true ∧ methB (Mine.K P) 762 (Str.ofString "bogusCommentState") 598 = true ∧ boundB (Mine.K P) 762 (Str.ofString "dataState") 304 = true ∧ boundB (Mine.K P) 762 (Str.ofString "entityDataState") 311 = true ∧ boundB (Mine.K P) 762 (Str.ofString "tagOpenState") 353 = true ∧ boundB (Mine.K P) 762 (Str.ofString "markupDeclarationOpenState") 605 = true ∧ boundB (Mine.K P) 762 (Str.ofString "closeTagOpenState") 360 = true ∧ boundB (Mine.K P) 762 (Str.ofString "tagNameState") 367 = true ∧ boundB (Mine.K P) 762 (Str.ofString "bogusCommentState") 598 = true ∧ boundB (Mine.K P) 762 (Str.ofString "beforeAttributeNameState") 535 = true ∧ boundB (Mine.K P) 762 (Str.ofString "selfClosingStartTagState") 591 = true ∧ boundB (Mine.K P) 166 (Str.ofString "characterErrorsUCS4") 148 = true := ⟨by kernel_rfl, by kernel_rfl, by kernel_rfl, by kernel_rfl, by kernel_rfl, by kernel_rfl, by kernel_rfl, by kernel_rfl, by kernel_rfl, by kernel_rfl, by kernel_rfl, by kernel_rfl, by kernel_rfl, by kernel_rfl, by kernel_rfl, by kernel_rfl, by kernel_rfl, by kernel_rfl, by kernel_rfl, by kernel_rfl, by kernel_rfl, by kernel_rfl, by kernel_rfl⟩
theorem mb119 : methB (Mine.K P) 166 (Str.ofString "_position") 119 = true := mb_all.1
theorem mb126 : methB (Mine.K P) 166 (Str.ofString "position") 126 = true := mb_all.2.1
theorem mb133 : methB (Mine.K P) 166 (Str.ofString "char") 133 = true := mb_all.2.2.1
theorem mb141 : methB (Mine.K P) 166 (Str.ofString "readChunk") 141 = true := mb_all.2.2.2.1
theorem mb156 : methB (Mine.K P) 166 (Str.ofString "charsUntil") 156 = true := mb_all.2.2.2.2.1
theorem mb163 : methB (Mine.K P) 166 (Str.ofString "unget") 163 = true := mb_all.2.2.2.2.2.1
theorem mb70 : methB (Mine.K P) 73 (Str.ofString "read") 70 = true := mb_all.2.2.2.2.2.2.1
theorem mb297 : methB (Mine.K P) 762 (Str.ofString "emitCurrentToken") 297 = true := mb_all.2.2.2.2.2.2.2.1
theorem mb304 : methB (Mine.K P) 762 (Str.ofString "dataState") 304 = true := mb_all.2.2.2.2.2.2.2.2.1
theorem mb353 : methB (Mine.K P) 762 (Str.ofString "tagOpenState") 353 = true := mb_all.2.2.2.2.2.2.2.2.2.1
theorem mb360 : methB (Mine.K P) 762 (Str.ofString "closeTagOpenState") 360 = true := mb_all.2.2.2.2.2.2.2.2.2.2.1
theorem mb367 : methB (Mine.K P) 762 (Str.ofString "tagNameState") 367 = true := mb_all.2.2.2.2.2.2.2.2.2.2.2.1
theorem mb598 : methB (Mine.K P) 762 (Str.ofString "bogusCommentState") 598 = true := mb_all.2.2.2.2.2.2.2.2.2.2.2.2.1
theorem bb304 : boundB (Mine.K P) 762 (Str.ofString "dataState") 304 = true := mb_all.2.2.2.2.2.2.2.2.2.2.2.2.2.1
theorem bb311 : boundB (Mine.K P) 762 (Str.ofString "entityDataState") 311 = true := mb_all.2.2.2.2.2.2.2.2.2.2.2.2.2.2.1
theorem bb353 : boundB (Mine.K P) 762 (Str.ofString "tagOpenState") 353 = true := mb_all.2.2.2.2.2.2.2.2.2.2.2.2.2.2.2.1
theorem bb605 : boundB (Mine.K P) 762 (Str.ofString "markupDeclarationOpenState") 605 = true := mb_all.2.2.2.2.2.2.2.2.2.2.2.2.2.2.2.2.1
theorem bb360 : boundB (Mine.K P) 762 (Str.ofString "closeTagOpenState") 360 = true := mb_all.2.2.2.2.2.2.2.2.2.2.2.2.2.2.2.2.2.1
theorem bb367 : boundB (Mine.K P) 762 (Str.ofString "tagNameState") 367 = true := mb_all.2.2.2.2.2.2.2.2.2.2.2.2.2.2.2.2.2.2.1
theorem bb598 : boundB (Mine.K P) 762 (Str.ofString "bogusCommentState") 598 = true := mb_all.2.2.2.2.2.2.2.2.2.2.2.2.2.2.2.2.2.2.2.1
theorem bb535 : boundB (Mine.K P) 762 (Str.ofString "beforeAttributeNameState") 535 = true := mb_all.2.2.2.2.2.2.2.2.2.2.2.2.2.2.2.2.2.2.2.2.1
theorem bb591 : boundB (Mine.K P) 762 (Str.ofString "selfClosingStartTagState") 591 = true := mb_all.2.2.2.2.2.2.2.2.2.2.2.2.2.2.2.2.2.2.2.2.2.1
theorem bb148 : boundB (Mine.K P) 166 (Str.ofString "characterErrorsUCS4") 148 = true := mb_all.2.2.2.2.2.2.2.2.2.2.2.2.2.2.2.2.2.2.2.2.2.2
end
theorem kgn {P : Params} {kt : Nat → Tok} {v0 v1 v2 v3 v4 v5 v6 v7 : Value} (n : Str) (hn : (n == "stream" || n == "parser" || n == "escapeFlag" || n == "lastFourChars" || n == "state" || n == "escape" || n == "currentToken" || n == "tokenQueue") = false) : getL n (kDict P kt v0 v1 v2 v3 v4 v5 v6 v7) = some none := by
  simp only [Bool.or_eq_false_iff] at hn
  obtain ⟨⟨⟨⟨⟨⟨⟨a0, a1⟩, a2⟩, a3⟩, a4⟩, a5⟩, a6⟩, a7⟩ := hn
  have q : ∀ (m : String) (tt : Tok), (n == Str.ofString m) = false → (Value.str (Str.ofString m) tt).isStr n = false := fun m tt h => by
    show (Str.ofString m == n) = false
    rw [beq_eq_false_iff_ne] at h ⊢; exact fun e => h e.symm
  unfold getL kDict ent
  simp only [List.find?_cons, q _ _ a0, q _ _ a1, q _ _ a2, q _ _ a3, q _ _ a4, q _ _ a5, q _ _ a6, q _ _ a7, List.find?_nil]
  rfl
end Mine
end
section
open PySem PySem.W PyProof.Rows PySem.Spec PySem.Calls
set_option Elab.async false
set_option genInjectivity false
set_option genSizeOf false
set_option linter.unusedVariables false
set_option maxRecDepth 100000
namespace Mine
theorem ns_none_of {K : Frag} {h : Heap} {a : Addr} {m : Str → Option Value} {n : Str} (X : K.In h) (G : h.Ns a m) (e : nsIn K a n = some none) : m n = none := by
  obtain ⟨o, es, ep, ho, hd, _, hf⟩ := G
  unfold nsIn at e
  split at e
  · rename_i c d es' n' sl q
    have := X _ _ q
    rw [ho] at this
    cases this
    cases hd
    split at e
    · cases e
    · rename_i he
      rw [← hf]
      unfold nsFind findBy
      rw [← Array.find?_toList, he]
      rfl
  · cases e
section
variable {fn : Fn} {C : Cx fn} {lo : Lo} {led : Led} {k : Nat} {Q : Value → Lo → Led → Prop}
theorem none_booked_of (hC : C.Ok k) {s : Shared} (hs : St C lo led s) : NoneBooked s.heap := by
  obtain ⟨m, F, kn⟩ := hs.F
  obtain ⟨mc, h1, _⟩ := hC.T.nodigits
  exact ⟨mc, h1.keeps F.keep, ns_none_of hC.X h1 (by k_is)⟩
theorem e_replace (hC : C.Ok k) {o : Expr} {apos pos p1 p2 : Pos} {k1 k2 : Nat} {a b : Str} (hb : baseB o = true) (hl : (apos.endLine == pos.line) = true) (hbl : b.length ≤ 2)
    (h : WP C lo led (eval o C.env) (fun ov lo led => ∃ l t, ov = .str (S l) t ∧ l.length ≤ 1000 ∧ ∀ t', Q (.str (Txt.replace (S l) a b) t') lo led)) :
    WP C lo led (eval (.Call (.Attribute o (Str.ofString "replace") apos) [.Constant (.str a) k1 p1, .Constant (.str b) k2 p2] [] pos) C.env) Q := fun s hs => by
  obtain ⟨pl, e⟩ := mcall_eq (name := Str.ofString "replace") (env := C.env) (args := [.Constant (.str a) k1 p1, .Constant (.str b) k2 p2]) hb (by rfl) hl
  refine MethodCall_ (h.go hs fun ov lo₁ led₁ s₁ st₁ h₁ => ?_) e
  obtain ⟨l, t, rfl, hz, hq⟩ := h₁
  with_reducible refine GM.replace ?_
  refine callWith_method1 (spliced_more (Calls.Constant_str (spliced_more (Calls.Constant_str (spliced_none ?_)) rfl)) rfl) rfl rfl
  have st₂ := (st₁.toks (s₁.toks + 1)).toks (s₁.toks + 1 + 1)
  have tk := st₁.tk
  refine wpAny_with_toks (n := 1) st₂.tk ?_
  have hm : (S l).length + ((S l).length + 1) * b.length ≤ 16777216 := by
    rw [S_len]
    have : (l.length + 1) * b.length ≤ (l.length + 1) * 2 := Nat.mul_le_mul_left _ hbl
    omega
  exact wpAny_mono (SC.replaceA (E := No) (Q := fun v s' => 1 ≤ s'.toks → ∃ lo' led', St C lo' led' s' ∧ Q v lo' led') (by show s₁.toks ≠ 0; omega) (by show s₁.toks + 1 ≠ 0; omega) (by show s₁.toks ≠ s₁.toks + 1; omega) hm (fun t' k' hk => ⟨lo₁, led₁, st₂.toks k' hk, hq t'⟩) (none_booked_of hC st₂))
    (fun _ _ x => x) fun _ _ x => x.elim
theorem meth_nobool : typeLookup (.type "method") (Str.ofString "__bool__") = pure none := by rw [typeLookup_type, builtinLookup_eq_fast]; kernel_rfl
theorem meth_nolen : typeLookup (.type "method") (Str.ofString "__len__") = pure none := by rw [typeLookup_type, builtinLookup_eq_fast]; kernel_rfl
theorem tr_meth {q : Addr} {f self : Value} {Q : Bool → Lo → Led → Prop} (hq : Has (q, methodObj f self) led) (h : Q true lo led) : WP C lo led (truthy (.ref q)) Q := fun s hs => by
  have hT : s.TypeIs (.ref q) "method" := ⟨_, hs.N.get hq.mem, rfl⟩
  unfold truthy
  refine wpAny_bind (m := callSpecial? (.ref q) (Str.ofString "__bool__")) (wpAny_bind (wpAny_specialOf hT meth_nobool (wpAny_pure ?_)))
  refine wpAny_bind (wpAny_specialOf hT meth_nolen ?_)
  exact wpAny_pure ⟨lo, led, hs, h⟩
def ownMB (K : Frag) (Cl : Addr) (name : Str) : Bool := ownB K Cl name && decide (findIn K (.ref Cl) name = some none)
theorem m_own (hC : C.Ok k) {x Cl d : Addr} {es : List DictEntry} {n : Nat} {name : Str} {v : Value} {pl : Sem Bool} {Q : Value → List Value → Lo → Led → Prop} (hx : Has (x, instObj Cl d) led) (hd : Has (d, dictOf es n) led)
    (hc : ownMB (Mine.K C.w.params) Cl name = true) (hl : getL name es = some (some v)) (hv : handedIn v = true) (h : Q v [] lo led) : WP C lo led (getMethod (.ref x) name pl) (uc Q) := fun s hs => by
  obtain ⟨m, F, kn⟩ := hs.F
  simp only [ownMB, Bool.and_eq_true, decide_eq_true_eq] at hc
  have hg := hc.1
  simp only [ownB, Bool.and_eq_true] at hg
  refine method_usual (r := none) (hC.X.keeps F.keep) (inst_of hs hx hd) (plainGet_of hg.1.1).1 (plainGet_of hg.1.1).2 hc.2 rfl ?_
  exact (a_get hC hx hd hc.1 hl hv (h : (fun v lo led => uc Q (v, []) lo led) v lo led) : WP C lo led (getAttr (.ref x) name false) (fun v lo led => uc Q (v, []) lo led)) s hs
theorem WP.pick1 {α : Type} {t : Sem α} {Q : α → Lo → Led → Prop} {p : Addr × Obj} {r : Led} (hp : Pick1 p led r) (h : WP C lo (p :: r) t Q) : WP C lo led t Q := h.part ⟨[], by rw [List.append_nil]; exact hp.perm⟩
theorem Meets.methAt {j : Nat} {q f : Addr} {self : Value} {args : List Value} {P : Value → Led → Prop} (hC : C.Ok k) (hj : j ≤ k) (hq : Has (q, methodObj (.ref f) self) led) (h : Meets j C.w f (self :: args) led P)
    (c : ∀ v led', P v led' → Q v lo led') : WP C lo led (call (.ref q) args) Q := fun s hs => by
  refine call_meth hs.N hq.mem (codeAny_mono (h fn C lo rfl (hC.le hj) s hs) fun r s' z => ?_)
  match r, z with
  | .ok (.ret v), ⟨led', a, b⟩ => exact ⟨lo, led', a, c v led' b⟩
@[reducible] def Joins (J : Lo → Led → Prop) (Q : Flow → Lo → Led → Prop) (f : Flow) (lo : Lo) (led : Led) : Prop :=
  match f with
  | .next => Less J lo led
  | f => Q f lo led
/-- an if whose ways meet again -/
theorem x_if_j {test : Expr} {body orelse : List Stmt} {pos : Pos} {Q : Flow → Lo → Led → Prop} (J : Lo → Led → Prop)
    (h : WP C lo led (isTrue test C.env (eval test C.env)) (fun c lo led => Br c (WP C lo led (execs body C.env) (Joins J Q))
      (WP C lo led (execs orelse C.env) (Joins J Q))))
    (k : ∀ lo led, J lo led → Q .next lo led) : WP C lo led (exec (.If test body orelse pos) C.env) Q := by
  intro s hs
  have key : ∀ {lo led t s}, St C lo led s → WP C lo led t (Joins J Q) →
      wpAny (model PG C.w) C.A t (fun v s' => ∃ lo' led', St C lo' led' s' ∧ Q v lo' led') No s := fun st z => z.go st fun f lo' led' s' a b => by
    cases f with
    | next => obtain ⟨lo₂, led₂, e1, e2, e3⟩ := b; exact ⟨lo₂, led₂, a.less e1 e2, k _ _ e3⟩
    | brk => exact ⟨lo', led', a, b⟩
    | cont => exact ⟨lo', led', a, b⟩
    | ret v => exact ⟨lo', led', a, b⟩
  refine wpAny_If (h.go hs fun c lo' led' s' a b => ?_)
  cases c with
  | true => exact key a (b.1 rfl)
  | false => exact key a (b.2 rfl)
theorem a_cls' (hC : C.Ok k) {x Cl d : Addr} {es : List DictEntry} {n : Nat} {name : Str} {v : Value} {expr : Bool} (hx : Has (x, instObj Cl d) led) (hd : Has (d, dictOf es n) led) (ha : findIn (Mine.K C.w.params) (.ref Cl) name = some (some v))
    (hg : plainGet (Mine.K C.w.params) Cl name = true) (hh : hasDictIn (Mine.K C.w.params) Cl = true) (hn : specialIn (Mine.K C.w.params) v "__get__" = some none) (hv : handedIn v = true) (hc : copiedNames.contains name = false)
    (hl : getL name es = some none) (h : Q v lo led) : WP C lo led (getAttr (.ref x) name expr) Q := fun s hs => by
  obtain ⟨m, F, kn⟩ := hs.F
  exact get_cls F hC.X (inst_of hs hx hd) hg hh ha hn hv hc hl ⟨lo, led, hs.toks _, h⟩
end
/-- the stream's places in the heap, its keys' marks, its text -/
structure SX where
  x : Addr
  d : Addr
  tx : Addr
  td : Addr
  e : Addr
  qm : Addr
  nl : Addr
  kt : Nat → Tok
  kt' : Nat → Tok
  T : List Nat
  tt : Tok
/-- what the stream holds -/
structure SV where
  chunk : List Nat
  off : Nat
  ne : Nat
  pl : Int
  pc : Int
  buf : Bool
  place : Nat
def IsErr (u : Value) : Prop := ∃ t, u = Value.str (Str.ofString "invalid-codepoint") t
abbrev sObjs (w : World) (X : SX) (chunk : List Nat) (size off : Int) (pl pc : Int) (bufv : Value) (place : Int) (t3 t4 t5 t7 t8 tp : Tok) (errs : List Value) (n : Nat) (r : Led) : Led :=
  (X.x, instObj 166 X.d) :: (X.d, dictOf (sDict w.params X.kt (.ref X.qm) (.ref X.nl) (.ref X.tx) (.str (S chunk) t3) (.int size t4) (.int off t5) (.ref X.e) (.int pl t7) (.int pc t8) bufv) 10) :: (X.tx, instObj 73 X.td) ::
    (X.td, dictOf (tDict w.params X.kt' (.str (S X.T) X.tt) (.int place tp)) 2) :: (X.e, lst errs n) :: (X.qm, methodObj (.ref 148) (.ref X.x)) :: r
/-- the ledger bears the stream, the rest r beside it -/
def SLed (w : World) (X : SX) (v : SV) (r l : Led) : Prop := ∃ (t3 t4 t5 t7 t8 t9 tp : Tok) (n : Nat) (errs : List Value), errs.length = v.ne ∧ (∀ u ∈ errs, IsErr u) ∧
  l = sObjs w X v.chunk v.chunk.length v.off v.pl v.pc (if v.buf then .str (S [13]) t9 else .none) v.place t3 t4 t5 t7 t8 tp errs n r
theorem SLed.mk {w : World} {X : SX} {v : SV} {r : Led} {chunk : List Nat} {size off pl pc place : Int} {bufv : Value} {t3 t4 t5 t7 t8 tp : Tok} {errs : List Value} {n : Nat} (h1 : chunk = v.chunk) (h2 : size = (v.chunk.length : Int)) (h3 : off = (v.off : Int)) (h4 : pl = v.pl) (h5 : pc = v.pc)
    (h6 : ∃ t9, bufv = if v.buf then .str (S [13]) t9 else .none) (h7 : place = (v.place : Int)) (h8 : errs.length = v.ne) (h9 : ∀ u ∈ errs, IsErr u) : SLed w X v r (sObjs w X chunk size off pl pc bufv place t3 t4 t5 t7 t8 tp errs n r) := by
  obtain ⟨t9, h6⟩ := h6
  subst h1 h2 h3 h4 h5 h6 h7
  exact ⟨t3, t4, t5, t7, t8, t9, tp, n, errs, h8, h9, rfl⟩
/- the stream's objects folded: what is fixed of them and what the reader made up -/
structure STk where
  t3 : Tok
  t4 : Tok
  t5 : Tok
  t7 : Tok
  t8 : Tok
  t9 : Tok
  tp : Tok
  n : Nat
  errs : List Value
abbrev sObjT (w : World) (X : SX) (v : SV) (T : STk) (r : Led) : Led :=
  sObjs w X v.chunk v.chunk.length v.off v.pl v.pc (if v.buf then .str (S [13]) T.t9 else .none) v.place T.t3 T.t4 T.t5 T.t7 T.t8 T.tp T.errs T.n r
def SOk (v : SV) (T : STk) : Prop := T.errs.length = v.ne ∧ ∀ u ∈ T.errs, IsErr u
theorem SLed.fold {w : World} {X : SX} {v : SV} {r l : Led} (h : SLed w X v r l) : ∃ T, SOk v T ∧ l = sObjT w X v T r := by
  obtain ⟨t3, t4, t5, t7, t8, t9, tp, n, errs, h1, h2, rfl⟩ := h
  exact ⟨⟨t3, t4, t5, t7, t8, t9, tp, n, errs⟩, ⟨h1, h2⟩, rfl⟩
theorem SLed.ofT {w : World} {X : SX} {v : SV} {T : STk} {r : Led} (h : SOk v T) : SLed w X v r (sObjT w X v T r) := ⟨T.t3, T.t4, T.t5, T.t7, T.t8, T.t9, T.tp, T.n, T.errs, h.1, h.2, rfl⟩
section
variable {w : World} {X : SX} {v : SV} {T : STk} {r a b : Led} {p : Addr × Obj}
theorem Has.sx : Has (X.x, instObj 166 X.d) (sObjT w X v T r) := .here
theorem Has.sd : Has (X.d, dictOf (sDict w.params X.kt (.ref X.qm) (.ref X.nl) (.ref X.tx) (.str (S v.chunk) T.t3) (.int v.chunk.length T.t4) (.int v.off T.t5) (.ref X.e) (.int v.pl T.t7) (.int v.pc T.t8) (if v.buf then .str (S [13]) T.t9 else .none)) 10) (sObjT w X v T r) := .skip .here
theorem Has.se : Has (X.e, lst T.errs T.n) (sObjT w X v T r) := .skip (.skip (.skip (.skip .here)))
theorem Has.skipS (h : Has p r) : Has p (sObjT w X v T r) := .skip (.skip (.skip (.skip (.skip (.skip h)))))
theorem Chg.sd {o' : Obj} : Chg X.d (dictOf (sDict w.params X.kt (.ref X.qm) (.ref X.nl) (.ref X.tx) (.str (S v.chunk) T.t3) (.int v.chunk.length T.t4) (.int v.off T.t5) (.ref X.e) (.int v.pl T.t7) (.int v.pc T.t8) (if v.buf then .str (S [13]) T.t9 else .none)) 10) o' (sObjT w X v T r)
    ((X.x, instObj 166 X.d) :: (X.d, o') :: (X.tx, instObj 73 X.td) :: (X.td, dictOf (tDict w.params X.kt' (.str (S X.T) X.tt) (.int v.place T.tp)) 2) :: (X.e, lst T.errs T.n) :: (X.qm, methodObj (.ref 148) (.ref X.x)) :: r) := .skip .here
theorem Chg.skipS {d : Addr} {o o' : Obj} (h : Chg d o o' a b) : Chg d o o' (sObjT w X v T a) (sObjT w X v T b) := .skip (.skip (.skip (.skip (.skip (.skip h)))))
theorem Pick1.skipS (h : Pick1 p a r) : Pick1 p (sObjT w X v T a) (sObjT w X v T r) := .skip (.skip (.skip (.skip (.skip (.skip h)))))
/-- the stream's objects out of a ledger, as one -/
inductive PickS (w : World) (X : SX) (v : SV) (T : STk) : Led → Led → Prop where
  | here {r : Led} : PickS w X v T (sObjT w X v T r) r
  | skip {p : Addr × Obj} {a r : Led} : PickS w X v T a r → PickS w X v T (p :: a) (p :: r)
  | skipB {b a r : Led} : PickS w X v T a r → PickS w X v T (b ++ a) (b ++ r)
theorem PickS.perm (h : PickS w X v T a r) : a.Perm (sObjT w X v T [] ++ r) := by
  induction h with
  | here => exact .refl _
  | skip _ ih => exact (ih.cons _).trans List.perm_middle.symm
  | skipB _ ih => exact (ih.append_left _).trans (by rw [← List.append_assoc, ← List.append_assoc]; exact List.perm_append_comm.append_right _)
theorem PickS.part (h : PickS w X v T a r) (k : Part b r) : Part (sObjT w X v T b) a := by
  obtain ⟨j, q⟩ := k
  refine ⟨j, h.perm.trans ?_⟩
  show (sObjT w X v T [] ++ r).Perm ((sObjT w X v T [] ++ b) ++ j)
  rw [List.append_assoc]
  exact q.append_left _
end
/-- the chunk read anew: the data that come, and what they make of it -/
def rcData (X : SX) (v : SV) (m : Nat) : List Nat := (if v.buf then [13] else []) ++ (X.T.take (v.place + m)).drop v.place
def holds13 (D : List Nat) : Bool := decide (1 < D.length) && decide (D.getLast? = some 13)
def rcSV (X : SX) (v : SV) (m : Nat) : SV :=
  let D := rcData X v m
  let D2 := if holds13 D then D.dropLast else D
  { chunk := mend D2, off := 0, ne := v.ne + D2.count 1, pl := v.pl + (v.chunk.count 10 : Nat), pc := if 10 ∈ v.chunk then (col v.chunk : Int) else v.pc + v.chunk.length, buf := holds13 D, place := v.place + ((X.T.take (v.place + m)).drop v.place).length }
end Mine
end
section
open PySem PySem.W PyProof.Rows PySem.Spec PySem.Calls
set_option Elab.async false
set_option genInjectivity false
set_option genSizeOf false
set_option linter.unusedVariables false
namespace Mine
/-- the raw text not yet read, with the sign held back -/
def rest (X : SX) (v : SV) : List Nat := (if v.buf then [13] else []) ++ X.T.drop v.place
/-- the stream stands at place p of the mended text -/
def Inv (X : SX) (v : SV) (p : Nat) : Prop := ∃ prev, mend X.T = prev ++ (v.chunk ++ mend (rest X v)) ∧ p = prev.length + v.off ∧ v.off ≤ v.chunk.length ∧ v.pl = (prev.count 10 : Nat) ∧ v.pc = (col prev : Nat) ∧ v.ne = (X.T.take v.place).count 1 ∧ v.place ≤ X.T.length
theorem crlf_len : ∀ l : List Nat, (crlf l).length ≤ l.length
  | [] => Nat.le_refl _
  | c :: r => by
    by_cases h : c = 13 ∧ r[0]? = some 10
    · obtain ⟨rfl, h⟩ := h
      match r, h with
      | c' :: r', h =>
        have : c' = 10 := by simpa using h
        subst this
        rw [crlf_pair]
        have := crlf_len r'
        simp only [List.length_cons]; omega
    · rw [crlf_cons h]
      have := crlf_len r
      simp only [List.length_cons]; omega
theorem mend_len (l : List Nat) : (mend l).length ≤ l.length := by rw [mend, List.length_map]; exact crlf_len l
theorem crlf_ne : ∀ {l : List Nat}, l ≠ [] → crlf l ≠ []
  | c :: r, _ => by
    by_cases h : c = 13 ∧ r[0]? = some 10
    · obtain ⟨rfl, h⟩ := h
      match r, h with
      | c' :: r', h =>
        have : c' = 10 := by simpa using h
        subst this
        rw [crlf_pair]; simp
    · rw [crlf_cons h]; simp
theorem mend_ne {l : List Nat} (h : l ≠ []) : mend l ≠ [] := by rw [mend]; intro e; exact crlf_ne h (List.map_eq_nil_iff.mp e)
theorem Inv.chunk_le {X : SX} {v : SV} {p : Nat} (h : Inv X v p) : v.chunk.length ≤ X.T.length := by
  obtain ⟨prev, h1, _⟩ := h
  have := mend_len X.T
  rw [h1, List.length_append, List.length_append] at this
  omega
theorem Inv.ne_le {X : SX} {v : SV} {p : Nat} (h : Inv X v p) : v.ne ≤ X.T.length := by
  obtain ⟨prev, _, _, _, _, _, h6, h7⟩ := h
  rw [h6]
  exact Nat.le_trans List.count_le_length (by rw [List.length_take]; omega)
theorem Inv.place_le {X : SX} {v : SV} {p : Nat} (h : Inv X v p) : v.place ≤ X.T.length := by
  obtain ⟨prev, _, _, _, _, _, h6, h7⟩ := h; exact h7
theorem rcData_rest (X : SX) (v : SV) (m : Nat) : rest X v = rcData X v m ++ X.T.drop (v.place + ((X.T.take (v.place + m)).drop v.place).length) := by
  unfold rest rcData
  rw [List.append_assoc]
  congr 1
  rw [List.length_drop, List.length_take, List.drop_take, Nat.add_sub_cancel_left]
  by_cases h : v.place + m ≤ X.T.length
  · rw [Nat.min_eq_left h, Nat.add_sub_cancel_left, ← List.drop_drop, List.take_append_drop]
  · rw [Nat.min_eq_right (by omega), List.take_of_length_le (by rw [List.length_drop]; omega), List.drop_eq_nil_of_le (as := X.T) (i := v.place + (X.T.length - v.place)) (by omega), List.append_nil]
theorem rc_empty {X : SX} {v : SV} {m p : Nat} (hm : 2 ≤ m) (h : Inv X v p) (e : rcData X v m = []) : rest X v = [] := by
  rw [rcData_rest X v m, e, List.nil_append]
  have : ((X.T.take (v.place + m)).drop v.place).length = 0 := by
    have := congrArg List.length e
    rw [rcData, List.length_append] at this
    simp only [List.length_nil] at this
    omega
  rw [this]
  have := h.place_le
  rw [List.length_drop, List.length_take] at *
  exact List.drop_eq_nil_of_le (by omega)
theorem drop_last_13 {D : List Nat} (h : D.getLast? = some 13) : D = D.dropLast ++ [13] := by
  have hn : D ≠ [] := by intro e; rw [e] at h; cases h
  have := List.dropLast_concat_getLast hn
  rw [List.getLast?_eq_getLast hn] at h
  rw [Option.some.inj h] at this
  exact this.symm
theorem rc1 {pl n0 m t : Nat} (h : n0 = min (pl + m) t - pl) (hp : pl ≤ t) : pl + n0 ≤ t := by omega
theorem rc2 {pl n0 m t : Nat} (h : n0 = min (pl + m) t - pl) (hm : 2 ≤ m) (h1 : n0 ≤ 1) : t ≤ pl + n0 := by omega
theorem Inv.rc {X : SX} {v : SV} {m p : Nat} (hm : 2 ≤ m) (h : Inv X v p) (he : v.off = v.chunk.length) : Inv X (rcSV X v m) p := by
  have hr := rcData_rest X v m
  have hc : rcData X v m = (if v.buf then [13] else []) ++ (X.T.take (v.place + m)).drop v.place := rfl
  generalize hl0 : ((X.T.take (v.place + m)).drop v.place).length = n0 at hr
  have hn0 : n0 = min (v.place + m) X.T.length - v.place := by rw [← hl0, List.length_drop, List.length_take]
  have hpl := h.place_le
  obtain ⟨prev, h1, h2, h3, h4, h5, h6, h7⟩ := h
  have hd : v.place + n0 ≤ X.T.length := rc1 hn0 hpl
  have key : mend (rest X v) = (rcSV X v m).chunk ++ mend (rest X (rcSV X v m)) := by
    show mend (rest X v) = mend (if holds13 (rcData X v m) then (rcData X v m).dropLast else rcData X v m) ++ mend ((if holds13 (rcData X v m) then [13] else []) ++ X.T.drop (v.place + ((X.T.take (v.place + m)).drop v.place).length))
    rw [hl0, hr]
    by_cases hh : holds13 (rcData X v m) = true
    · rw [if_pos hh, if_pos hh]
      have h13 : (rcData X v m).getLast? = some 13 := by
        unfold holds13 at hh
        simp only [Bool.and_eq_true, decide_eq_true_eq] at hh
        exact hh.2
      conv => lhs; rw [drop_last_13 h13]
      rw [List.append_assoc]
      exact mend_app _ _ _ (Nat.le_refl _) (.inr (by simp))
    · rw [if_neg hh, if_neg hh, List.nil_append]
      refine mend_app _ _ _ (Nat.le_refl _) ?_
      by_cases hg : (rcData X v m).getLast? = some 13
      · right
        have hlt : (rcData X v m).length ≤ 1 := by
          unfold holds13 at hh
          simp only [Bool.and_eq_true, decide_eq_true_eq, not_and] at hh
          rcases Nat.lt_or_ge 1 (rcData X v m).length with hz | hz
          · exact absurd hg (hh hz)
          · exact hz
        have : n0 ≤ 1 := by
          rw [hc, List.length_append, hl0] at hlt
          exact Nat.le_trans (Nat.le_add_left _ _) hlt
        rw [List.drop_eq_nil_of_le (rc2 hn0 hm this)]
        simp
      · exact .inl hg
  refine ⟨prev ++ v.chunk, ?_, ?_, Nat.zero_le _, ?_, ?_, ?_, ?_⟩
  · rw [h1, key, List.append_assoc]
  · rw [h2, he, List.length_append]; rfl
  · show v.pl + (v.chunk.count 10 : Nat) = _
    rw [h4, List.count_append]; push_cast; rfl
  · show (if 10 ∈ v.chunk then (col v.chunk : Int) else v.pc + v.chunk.length) = _
    rw [h5, col_app]
    split <;> push_cast <;> rfl
  · show v.ne + (if holds13 (rcData X v m) then (rcData X v m).dropLast else rcData X v m).count 1 = (X.T.take (v.place + ((X.T.take (v.place + m)).drop v.place).length)).count 1
    have e1 : (if holds13 (rcData X v m) then (rcData X v m).dropLast else rcData X v m).count 1 = (rcData X v m).count 1 := by
      split
      · rename_i hh
        have h13 : (rcData X v m).getLast? = some 13 := by
          unfold holds13 at hh
          simp only [Bool.and_eq_true, decide_eq_true_eq] at hh
          exact hh.2
        conv => rhs; rw [drop_last_13 h13]
        rw [List.count_append]; simp
      · rfl
    have e2 : (rcData X v m).count 1 = ((X.T.take (v.place + m)).drop v.place).count 1 := by
      rw [hc, List.count_append]; split <;> simp
    rw [e1, e2, h6, hl0]
    have e3 : X.T.take (v.place + n0) = X.T.take v.place ++ (X.T.take (v.place + m)).drop v.place := by
      rw [List.take_add]
      congr 1
      rw [List.drop_take, Nat.add_sub_cancel_left]
      rw [List.take_eq_take_iff, List.length_drop]; omega
    rw [e3, List.count_append]
  · show v.place + ((X.T.take (v.place + m)).drop v.place).length ≤ _
    rw [hl0]; exact hd
theorem rc_chunk {X : SX} {v : SV} {m : Nat} (h : rcData X v m ≠ []) : (rcSV X v m).chunk ≠ [] := by
  show mend (if holds13 (rcData X v m) then (rcData X v m).dropLast else rcData X v m) ≠ []
  refine mend_ne ?_
  split
  · rename_i hh
    unfold holds13 at hh
    simp only [Bool.and_eq_true, decide_eq_true_eq] at hh
    intro e
    have := congrArg List.length e
    rw [List.length_dropLast] at this
    simp only [List.length_nil] at this
    omega
  · exact h
/-- at the end of a chunk with nothing more to come the text is at its end -/
theorem Inv.done {X : SX} {v : SV} {p : Nat} (h : Inv X v p) (he : v.off = v.chunk.length) (hr : rest X v = []) : p = (mend X.T).length := by
  obtain ⟨prev, h1, h2, _⟩ := h
  rw [h1, hr, mend_nil, List.append_nil, List.length_append, h2, he]
/-- the sign that stands next -/
theorem Inv.next {X : SX} {v : SV} {p : Nat} (h : Inv X v p) (hl : v.off < v.chunk.length) : (mend X.T)[p]? = some v.chunk[v.off] ∧ Inv X { v with off := v.off + 1 } (p + 1) := by
  obtain ⟨prev, h1, h2, h3, h4⟩ := h
  refine ⟨?_, prev, h1, by show p + 1 = prev.length + (v.off + 1); omega, hl, h4⟩
  rw [h1, List.getElem?_append_right (by omega), List.getElem?_append_left (by omega), h2, Nat.add_sub_cancel_left, List.getElem?_eq_getElem hl]
theorem Inv.back {X : SX} {v : SV} {p : Nat} (h : Inv X v (p + 1)) (hl : 1 ≤ v.off) : ∃ hl' : v.off - 1 < v.chunk.length, (mend X.T)[p]? = some v.chunk[v.off - 1] ∧ Inv X { v with off := v.off - 1 } p := by
  obtain ⟨prev, h1, h2, h3, h4⟩ := h
  refine ⟨by omega, ?_, prev, h1, by show p = prev.length + (v.off - 1); omega, by show v.off - 1 ≤ v.chunk.length; omega, h4⟩
  rw [h1, List.getElem?_append_right (by omega), List.getElem?_append_left (by omega), show p - prev.length = v.off - 1 by omega, List.getElem?_eq_getElem (by omega)]
/-- line and column of the place -/
theorem Inv.spot {X : SX} {v : SV} {p : Nat} (h : Inv X v p) : v.pl + ((v.chunk.take v.off).count 10 : Nat) = (((mend X.T).take p).count 10 : Nat) ∧
    (if 10 ∈ v.chunk.take v.off then (col (v.chunk.take v.off) : Int) else v.pc + v.off) = (col ((mend X.T).take p) : Nat) := by
  obtain ⟨prev, h1, h2, h3, h4, h5, _⟩ := h
  have e : (mend X.T).take p = prev ++ v.chunk.take v.off := by
    rw [h1, h2, List.take_append, List.take_of_length_le (by omega), Nat.add_sub_cancel_left, List.take_append_of_le_length h3]
  rw [e, h4, h5, List.count_append, col_app]
  refine ⟨by push_cast; rfl, ?_⟩
  have : (v.chunk.take v.off).length = v.off := by rw [List.length_take]; omega
  split <;> simp [this]
end Mine
end
section
open PySem PySem.W PyProof.Rows PySem.Spec PySem.Calls
set_option Elab.async false
set_option linter.unusedVariables false
set_option maxRecDepth 100000
namespace Mine
section
variable {fn : Fn} {C : Cx fn} {lo : Lo} {led led' : Led} {k : Nat}
/-- a while with what holds behind it -/
theorem x_while_j {test : Expr} {body : List Stmt} {pos : Pos} {Q : Flow → Lo → Led → Prop} (J : Nat → Lo → Led → Prop) (Ex : Lo → Led → Prop) (n₀ : Nat) (h0 : J n₀ lo led)
    (turn : ∀ n lo led, J n lo led → WP C lo led (isTrue test C.env (eval test C.env)) (fun b lo led => Br b
      (WP C lo led (execs body C.env) (WTurn J n (Less Ex) Q)) (Less Ex lo led)))
    (fin : ∀ lo led, Ex lo led → Q .next lo led) :
    WP C lo led (exec (.While test body [] pos) C.env) Q := fun s hs => by
  have w := x_while (C := C) (pos := pos) (Q := fun f lo led => match f with | .next => Less Ex lo led | f => Q f lo led) J n₀ h0
    (fun n lo led hJ => (turn n lo led hJ).mono fun b lo led z => ⟨fun e => (z.1 e).mono fun f lo led z => by cases f <;> exact z, z.2⟩)
  refine w.go hs fun f lo' led' s' a b => ?_
  cases f with
  | next => obtain ⟨lo₂, led₂, e1, e2, e3⟩ := b; exact ⟨lo₂, led₂, a.less e1 e2, fin _ _ e3⟩
  | brk => exact ⟨lo', led', a, b⟩
  | cont => exact ⟨lo', led', a, b⟩
  | ret v => exact ⟨lo', led', a, b⟩
theorem inter_nil : ∀ ps : List (List Nat), (ps.intersperse []).flatten = ps.flatten
  | [] => rfl
  | [a] => rfl
  | a :: b :: r => by
    have := inter_nil (b :: r)
    simp only [List.intersperse, List.flatten_cons, List.nil_append] at this ⊢
    rw [this]
theorem join_E (ps : List (List Nat)) : Txt.join (Str.ofString "") (ps.map S) = S ps.flatten := by
  have e : Str.ofString "" = S [] := by decide +kernel
  have := StrLaws.glued_eq_join (S []) (ps.map S)
  rw [e]
  show Builtin.Str.glued _ _ = _
  rw [this, join_S, inter_nil]
theorem strs_snoc {vs : List Value} {ys : List Str} {y : Str} {t : Tok} (h : StrsAre vs ys) : StrsAre (vs ++ [.str y t]) (ys ++ [y]) := by
  induction h with
  | nil => exact .cons _ _ .nil
  | cons y t _ ih => exact .cons _ _ ih
theorem strs_len {vs : List Value} {ys : List Str} (h : StrsAre vs ys) : vs.length = ys.length := by
  induction h with
  | nil => rfl
  | cons y t _ ih => simp [ih]
theorem f_join {D : Addr} {vs : List Value} {n : Nat} {ps : List (List Nat)} {t : Tok} {Q : Value → Lo → Led → Prop} (hl : Has (D, lst vs n) led) (hi : StrsAre vs (ps.map S)) (hz : ps.flatten.length + ps.length ≤ 1000)
    (h : ∀ t, Q (.str (S ps.flatten) t) lo led) : WP C lo led (call (.builtin "str.join") [.str (Str.ofString "") t, .ref D]) Q := fun s hs => by
  refine wpAny_with_toks (n := 1) hs.tk ?_
  have e : ((ps.map S).map (·.length)).sum = ps.flatten.length := by
    rw [List.map_map, List.length_flatten]
    congr 1
  exact wpAny_mono (join_listW (E := No) (Q := fun v s' => 1 ≤ s'.toks → ∃ lo' led', St C lo' led' s' ∧ Q v lo' led') (News.isList hs.N hl.mem) (by simpa using hi) (by decide +kernel) (by rw [e, List.length_map]; omega) (fun t' k' hk => ⟨lo, led, hs.toks k' hk, by rw [join_E]; exact h t'⟩))
    (fun _ _ x => x) fun _ _ x => x.elim
end
/-- the row of signs that a value stands for, by the ledger r -/
def InRow (w : World) (row : Value) (f : Nat → Bool) (r : Led) : Prop := ∀ {fn : Fn} {C : Cx fn} {k : Nat} {lo : Lo} {led : Led} {c : Nat} {t : Tok} {Q : Value → Lo → Led → Prop}, C.Ok k → C.w = w → (∀ p, Has p r → Has p led) →
  Q (.bool (f c)) lo led → WP C lo led (compareOp .In (.str (S [c]) t) row) Q
theorem InRow.str {w : World} {a : List Nat} {t : Tok} {r : Led} : InRow w (.str (S a) t) (fun c => decide (c ∈ a)) r := fun _ _ _ h => c_ins h
/-- a stretch of the chunk is a stretch of the text -/
theorem Inv.part {X : SX} {v : SV} {p : Nat} (h : Inv X v p) {i : Nat} (h1 : v.off ≤ i) (h2 : i ≤ v.chunk.length) :
    Inv X { v with off := i } (p + (i - v.off)) ∧ ((mend X.T).take (p + (i - v.off))).drop p = (v.chunk.take i).drop v.off ∧ (∀ j, v.off ≤ j → (hj : j < v.chunk.length) → (mend X.T)[p + (j - v.off)]? = some v.chunk[j]) := by
  obtain ⟨prev, e1, e2, e3, e4⟩ := h
  refine ⟨⟨prev, e1, by show p + (i - v.off) = prev.length + i; omega, h2, e4⟩, ?_, fun j hj hj' => ?_⟩
  · have e : p + (i - v.off) = prev.length + i := by omega
    rw [e, e1, e2, List.take_append, List.take_of_length_le (by omega), Nat.add_sub_cancel_left, List.take_append_of_le_length h2, List.drop_append, List.drop_eq_nil_of_le (by omega), Nat.add_sub_cancel_left, List.nil_append]
  · rw [e1, List.getElem?_append_right (by omega), List.getElem?_append_left (by omega), show p + (j - v.off) - prev.length = j by omega, List.getElem?_eq_getElem hj']
theorem Inv.le {X : SX} {v : SV} {p : Nat} (h : Inv X v p) : p ≤ (mend X.T).length := by
  obtain ⟨prev, e1, e2, e3, e4⟩ := h
  rw [e1, List.length_append, List.length_append]; omega
theorem rc_rest {X : SX} {v : SV} {m : Nat} (h : rcData X v m ≠ []) : (rest X (rcSV X v m)).length < (rest X v).length := by
  rw [rcData_rest X v m]
  show ((if holds13 (rcData X v m) then [13] else []) ++ X.T.drop (v.place + ((X.T.take (v.place + m)).drop v.place).length)).length < _
  rw [List.length_append, List.length_append]
  have := List.length_pos_iff.mpr h
  by_cases hh : holds13 (rcData X v m) = true
  · rw [if_pos hh]
    unfold holds13 at hh
    simp only [Bool.and_eq_true, decide_eq_true_eq] at hh
    simp only [List.length_cons, List.length_nil]
    omega
  · rw [if_neg hh]
    simp only [List.length_nil]
    omega
end Mine
end
section
open PySem PySem.W PyProof.Rows PySem.Spec PySem.Calls
set_option Elab.async false
set_option linter.unusedVariables false
set_option maxRecDepth 100000
namespace Mine
/-- a dict's object with its rows -/
def DictIs (w : World) (d : Addr) (o : Obj) (kvs : List (Str × Value)) : Prop := o.IsDictOf (PySem.strKind PG w) kvs ∧ (d == sysModules) = false
section
variable {fn : Fn} {C : Cx fn} {lo : Lo} {led led' : Led} {k : Nat} {Q : Value → Lo → Led → Prop}
theorem head_upd {d : Addr} {o : Obj} {r : Led} (nd : (((d, o) :: r).map (·.1)).Nodup) : UpdF d o ((d, o) :: r) (fun o' => (d, o') :: r) :=
  .head fun p hp e => (List.nodup_cons.mp nd).1 (by rw [← e]; exact List.mem_map.mpr ⟨p, hp, rfl⟩)
theorem e_dict (hC : C.Ok k) {keys : List (Option Expr)} {values : List Expr} {pos : Pos} (hs : strLits keys = true) (hall : keys.all (·.isSome) = true) (hl : keys.length = values.length) (h0 : keys ≠ []) (hlen : keys.length ≤ 15)
    (h : ∀ d o, DictIs C.w d o [] → WP C lo ((d, o) :: led) (evalPairs (pairTrees keys values C.env pos)) (fun vs lo' led' => allStrKeys vs = true ∧ ((strPairs vs).map (·.1)).Nodup ∧ ∃ r, Pick1 (d, o) led' r ∧ ∀ o', DictIs C.w d o' (strPairs vs) → Q (.ref d) lo' ((d, o') :: r))) :
    WP C lo led (eval (.Dict keys values pos) C.env) Q := fun s hs' => by
  obtain ⟨m, F, kn⟩ := hs'.F
  refine kdn_str hs F hs'.N hC.T.nolimit hall hl h0 hlen fun d h' o F' N' lt nm hd => ?_
  have st : St C lo ((d, o) :: led) { s with heap := h', toks := s.toks } := hs'.alloc F' kn N' lt hs'.tk
  refine (h d o ⟨hd, nm⟩).go st fun vs lo' led' s' st' z => ?_
  obtain ⟨hk, hn, r, hp, hq⟩ := z
  have st2 : St C lo' ((d, o) :: r) s' := st'.part ⟨[], by rw [List.append_nil]; exact hp.perm⟩
  obtain ⟨m2, F2, kn2⟩ := st2.F
  have tk := st2.tk
  exact kdn_made_str F2 st2.N (head_upd st2.nd) hd hk hn fun h2 o' F3 N3 hd' => ⟨lo', _, st2.heap F3 kn2 N3 st2.nd (by omega), hq o' ⟨hd', nm⟩⟩
theorem pr_nil {pos : Pos} {Q : List (Value × Value) → Lo → Led → Prop} (h : Q [] lo led) : WP C lo led (evalPairs (pairTrees [] [] C.env pos)) Q := fun s hs => evalPairs_nil ⟨lo, led, hs, h⟩
theorem pr_cons {pos : Pos} {e v : Expr} {ks : List (Option Expr)} {vs : List Expr} {Q : List (Value × Value) → Lo → Led → Prop}
    (h : WP C lo led (eval e C.env) (fun kv lo led => WP C lo led (eval v C.env) (fun vv lo led => WP C lo led (evalPairs (pairTrees ks vs C.env pos)) (fun ps lo led => Q ((kv, vv) :: ps) lo led)))) :
    WP C lo led (evalPairs (pairTrees (some e :: ks) (v :: vs) C.env pos)) Q := fun s hs => by
  show wpAny _ _ (evalPairs ((eval e C.env, do let x ← eval v C.env; standAt pos; pure x) :: pairTrees ks vs C.env pos)) _ _ _
  refine evalPairs_cons (h.go hs fun kv lo₁ led₁ s₁ a₁ h₁ => ?_)
  refine wpAny_bind (h₁.go a₁ fun vv lo₂ led₂ s₂ a₂ h₂ => ?_)
  refine wpAny_bind (wpAny_standAt (wpAny_pure ?_))
  exact h₂ _ a₂
theorem is_str (w : World) (x : Str) (t : Tok) : (PySem.strKind PG w).is x (.str x t) = true := by simp [PySem.strKind, Value.isStrOf]
theorem c_indict {d : Addr} {o : Obj} {kvs : List (Str × Value)} {x : Str} {t : Tok} (hp : Has (d, o) led) (hd : DictIs C.w d o kvs) (h : Q (.bool (valueAt kvs x).isSome) lo led) :
    WP C lo led (compareOp .In (.str x t) (.ref d)) Q := fun s st =>
  kda_in (knd := PySem.strKind PG C.w) st.N hp.mem hd.1 hd.2 (k := x) (is_str _ _ _) _ rfl ⟨lo, led, st.toks _, h⟩
theorem f_lend {d : Addr} {o : Obj} {kvs : List (Str × Value)} (hp : Has (d, o) led) (hd : DictIs C.w d o kvs) (hz : kvs.length ≤ 1000) (h : ∀ t, Q (.int kvs.length t) lo led) :
    WP C lo led (call (.builtin "len") [.ref d]) Q := fun s st =>
  kda_len (knd := PySem.strKind PG C.w) st.N hp.mem hd.1 hd.2 (by omega) ⟨lo, led, st.toks _, h _⟩
theorem d_set {d : Addr} {o : Obj} {r : Led} {kvs : List (Str × Value)} {x : Str} {t : Tok} {v : Value} {Q : Unit → Lo → Led → Prop} (hp : Pick1 (d, o) led r) (hd : DictIs C.w d o kvs) (hz : kvs.length ≤ 100)
    (h : ∀ o', DictIs C.w d o' (stored kvs x v) → Q () lo ((d, o') :: r)) : WP C lo led (setItem (.ref d) (.str x t) v) Q := fun s hs => by
  have st2 : St C lo ((d, o) :: r) s := hs.part ⟨[], by rw [List.append_nil]; exact hp.perm⟩
  obtain ⟨m2, F2, kn2⟩ := st2.F
  exact kda_set (knd := PySem.strKind PG C.w) F2 st2.N (head_upd st2.nd) hd.1 (is_str _ _ _) (by rw [sizeLine_eq]; omega) fun h' o' F' N' hd' => ⟨lo, _, st2.heap F' kn2 N' st2.nd (Nat.succ_pos _), h o' ⟨hd', hd.2⟩⟩
end
end Mine
end
section
open PySem PySem.W PyProof.Rows PySem.Spec PySem.Calls
set_option Elab.async false
set_option linter.unusedVariables false
set_option maxRecDepth 100000
namespace Mine
section
variable {fn : Fn} {C : Cx fn} {lo : Lo} {led led' : Led} {k : Nat} {Q : Flow → Lo → Led → Prop}
theorem x_setitem {o i : Expr} {pos' : Pos} {value : Expr} {pos : Pos} (hc : notComp value = true)
    (h : WP C lo led (eval value C.env) (fun v lo led => WP C lo led (eval o C.env) (fun ov lo led => WP C lo led (eval i C.env) (fun iv lo led => WP C lo led (setItem ov iv v) (fun _ => Q .next))))) :
    WP C lo led (exec (.Assign [.Subscript o i pos'] value pos) C.env) Q := fun s hs =>
  wpAny_Assign_Subscript (h.go hs fun _ _ _ _ a h => h.go a fun _ _ _ _ a h => h.go a fun _ _ _ _ a h => h _ a) (swaps_no hc)
theorem x_augitem {o i : Expr} {pos' : Pos} {op : Operator} {value : Expr} {pos : Pos} (hi : notSlice i = true)
    (h : WP C lo led (eval o C.env) (fun ov lo led => WP C lo led (eval i C.env) (fun iv lo led => WP C lo led (getItem ov iv) (fun old lo led => WP C lo led (eval value C.env) (fun v lo led => WP C lo led (inplaceOp op old v) (fun new lo led => WP C lo led (setItem ov iv new) (fun _ => Q .next))))))) :
    WP C lo led (exec (.AugAssign (.Subscript o i pos') op value pos) C.env) Q := fun s hs =>
  wpAny_AugAssign_Subscript_any (h.go hs fun _ _ _ _ a h => h.go a fun _ _ _ _ a h => h.go a fun _ _ _ _ a h => h.go a fun _ _ _ _ a h => h.go a fun _ _ _ _ a h => h _ a) (by intro _ _ _; cases i <;> first | rfl | cases hi)
theorem d_get {d : Addr} {o : Obj} {kvs : List (Str × Value)} {x : Str} {t : Tok} {v : Value} {Q : Value → Lo → Led → Prop} (hp : Has (d, o) led) (hd : DictIs C.w d o kvs) (hl : valueAt kvs x = some v) (h : Q v lo led) :
    WP C lo led (getItem (.ref d) (.str x t)) Q := fun s st =>
  wpAny_getItem_of (knd := PySem.strKind PG C.w) (k := x) (is_str _ _ _) (kda_dict st.N hp.mem hd.1).mapOf hl ⟨lo, led, st.toks _, h⟩
end
end Mine
end
section
open PySem PySem.W PyProof.Rows PySem.Spec PySem.Calls
set_option Elab.async false
set_option linter.unusedVariables false
set_option maxRecDepth 100000
namespace Mine
theorem types_lit (P : Params) : ∃ es n, (Mine.K P).lookup 48 = some ⟨.type "dict", none, .dict es n, #[]⟩ ∧ KeysLit P es.toList := by
  refine ⟨_, _, by k_is, ?_⟩
  exact ⟨⟨_, _, rfl, rfl⟩, ⟨_, _, rfl, rfl⟩, ⟨_, _, rfl, rfl⟩, ⟨_, _, rfl, rfl⟩, ⟨_, _, rfl, rfl⟩, ⟨_, _, rfl, rfl⟩, ⟨_, _, rfl, rfl⟩, ⟨_, _, rfl, rfl⟩, trivial⟩
section
variable {fn : Fn} {C : Cx fn} {lo : Lo} {led led' : Led} {k : Nat} {Q : Value → Lo → Led → Prop}
theorem st_types (hC : C.Ok k) {value slice : Expr} {x : Str} {t : Tok} {v : Value} (hs : notSlice slice = true) (e : nsIn (Mine.K C.w.params) 48 x = some (some v)) (h : Q v lo led) :
    WP C lo led (subscriptTail value slice (.ref 48) (.str x t)) Q := fun s st => by
  obtain ⟨m, F, kn⟩ := st.F
  obtain ⟨es, n, hl, hk⟩ := types_lit C.w.params
  exact topItem_K F hC.X hl hk e ⟨lo, led, st.toks _, h⟩ (sub_eq hs)
end
end Mine
end
section
open PySem PySem.W PyProof.Rows PySem.Spec PySem.Calls
set_option Elab.async false
set_option linter.unusedVariables false
set_option maxRecDepth 100000
namespace Mine
/-- a comprehension's own frame knows x -/
def CObj (o : Obj) (x : Str) (v : Value) : Prop := ∃ m, LCg.NsObj o m ∧ m x = some v
section
variable {fn : Fn} {C : Cx fn} {lo : Lo} {led : Led} {k : Nat}
abbrev tst (ifs : List Expr) (env : Env) : Sem Bool := forIn ifs true fun c r => if r = true then do let ok ← isTrue c env (eval c env); pure (ForInStep.yield ok) else pure (ForInStep.yield r)
theorem comp_loop {elt iter : Expr} {x : Str} {px : Pos} {ifs : List Expr} {scope : Scope} {pos : Pos} {I c D : Addr} {fp : List Addr} {n : Nat} {P : Nat → Value → Prop} {Stt : Nat → Heap → Prop} {s : Shared} {oI oC : Obj} {nn : Nat} {R : Result → Shared → Prop}
    (J : Nat → List Value → Led → Prop)
    (W : Walks PG C.w C.A I fp [I] n P Stt) (hn : n ≤ 1000) (hob : ∀ i h, Stt i h → ∃ o, h.get? I = some o) (hfp : ∀ b ∈ fp, b = I ∨ ∃ ob, ∀ i ys led, J i ys led → (b, ob) ∈ led)
    (hkind : scope.kind = .function) (hx : scope.names.lookup x = some .local)
    (hs : St C lo ((I, oI) :: (c, oC) :: (D, lst [] nn) :: led) s) (hst : Stt 0 s.heap) (hC : ∃ m, LCg.NsObj oC m) (h0 : J 0 [] led)
    (turn : ∀ i v ys led oI oC nn, i < n → P i v → J i ys led → CObj oC x v → WP C lo ((I, oI) :: (c, oC) :: (D, lst ys nn) :: led) (tst ifs (compEnv scope c C.env))
      (fun b lo' led' => lo' = lo ∧ Br b (WP C lo led' (eval elt (compEnv scope c C.env)) (fun y lo'' led'' => lo'' = lo ∧ ∃ l, Part ((I, oI) :: (c, oC) :: (D, lst ys nn) :: l) led'' ∧ J (i + 1) (ys ++ [y]) l))
        (∃ l, Part ((I, oI) :: (c, oC) :: (D, lst ys nn) :: l) led' ∧ J (i + 1) ys l)))
    (done : ∀ ys led oC nn s', ys.length ≤ n → (∃ m, LCg.NsObj oC m) → J n ys led → St C lo ((c, oC) :: (D, lst ys nn) :: led) s' → R (.ok .next) s') :
    codeAny (model PG C.w) C.A (.compLoop (.ListComp elt [⟨.Name x px, iter, ifs, 0⟩] scope pos) 0 (.ref I) (.ref D) (compEnv scope c C.env)) R s := by
  refine codeAny_compLoop_tests (fun k s' => ∃ i ys led oI oC nn, i ≤ n ∧ k = n + 1 - i ∧ ys.length ≤ i ∧ St C lo ((I, oI) :: (c, oC) :: (D, lst ys nn) :: led) s' ∧ Stt i s'.heap ∧ (∃ m, LCg.NsObj oC m) ∧ J i ys led) ?_ (n + 1)
    ⟨0, [], led, oI, oC, nn, Nat.zero_le _, rfl, Nat.le_refl _, hs, hst, hC, h0⟩
  rintro k s ⟨i, ys, led, oI, oC, nn, hi, rfl, hyl, hs, hst, ⟨mC, hmC⟩, hJ⟩
  by_cases hlt : i < n
  · refine no_noted (env := C.env) (wpAny_with_toks (n := 1) hs.tk (W.item i s _ _ hlt hst fun v h' tk hP hst' hk htk => ?_))
    obtain ⟨oI', hoI'⟩ := hob _ _ hst'
    have st₁ := st_iter hs hoI' (fun b x hb e => hk b x (by simpa using hb) e) htk
    have st₁' : St C lo ((c, oC) :: (I, oI') :: (D, lst ys nn) :: led) _ := st₁.part ⟨[], by rw [List.append_nil]; exact .swap ..⟩
    have hc1 := (st₁'.N (c, oC) (.head _)).1
    refine wpAny_assign_Name (wpAny_storeName_local (env := compEnv scope c C.env) hx (hmC.ns hc1) (fun h₃ hn₃ hs₃ => ?_) (by show (scope.kind == .class || (scope.kind == .module && _)) = false; rw [hkind]; rfl))
    obtain ⟨oC', heC, hoC'⟩ := LCg.ns_obj hn₃
    have st₂ := st_iter (tk := tk + 1) st₁' heC (fun b x hb e => hs₃.extBut b x hb e) (Nat.succ_pos _)
    have st₂' : St C lo ((I, oI') :: (c, oC') :: (D, lst ys nn) :: led) _ := st₂.part ⟨[], by rw [List.append_nil]; exact .swap ..⟩
    have nd := List.nodup_cons.mp st₂'.nd
    have hIc : c ≠ I := fun e => nd.1 (by rw [← e]; exact .head _)
    have hJm : ∀ b ob, (b, ob) ∈ led → b ≠ c := fun b ob hb e => (List.nodup_cons.mp nd.2).1 (by rw [← e]; exact List.mem_cons_of_mem _ (List.mem_map.mpr ⟨_, hb, rfl⟩))
    have hst₂ : Stt (i + 1) h₃ := W.frame _ _ _ hst' fun b hb o e => hs₃.extBut b o (by
      rcases hfp b hb with rfl | ⟨ob, hob'⟩
      · exact fun q => hIc q.symm
      · exact hJm b ob (hob' _ _ _ hJ)) e
    have fin : ∀ (s₃ : Shared) (ys' : List Value) (nn' : Nat) (l : Led), St C lo ((I, oI') :: (c, oC') :: (D, lst ys' nn') :: l) s₃ → ys'.length ≤ i + 1 → J (i + 1) ys' l →
        ∃ m, m < n + 1 - i ∧ ∃ i ys led oI oC nn, i ≤ n ∧ m = n + 1 - i ∧ ys.length ≤ i ∧ St C lo ((I, oI) :: (c, oC) :: (D, lst ys nn) :: led) s₃ ∧ Stt i s₃.heap ∧ (∃ m, LCg.NsObj oC m) ∧ J i ys led := by
      intro s₃ ys' nn' l st₃ hyl' hJ'
      refine ⟨n + 1 - (i + 1), by omega, i + 1, ys', l, oI', oC', nn', hlt, rfl, hyl', st₃, W.frame _ _ _ hst₂ fun b hb x e => ?_, ⟨_, hoC'⟩, hJ'⟩
      rcases hfp b hb with rfl | ⟨ob, hob'⟩
      · have e1 := (st₂'.N _ (.head _)).1
        have e2 := (st₃.N _ (.head _)).1
        dsimp only at e1 e2
        rw [e] at e1
        rw [Option.some.inj e1]; exact e2
      · have e1 := (st₂'.N _ (.tail _ (.tail _ (.tail _ (hob' _ _ _ hJ))))).1
        have e2 := (st₃.N _ (.tail _ (.tail _ (.tail _ (hob' _ _ _ hJ'))))).1
        dsimp only at e1 e2
        rw [e] at e1
        rw [Option.some.inj e1]; exact e2
    refine no_noted (env := C.env) ((turn i v ys led oI' oC' nn hlt hP hJ ⟨_, hoC', by simp⟩).go st₂' fun b lo₃ led₃ s₃ st₃ h₃ => ?_)
    obtain ⟨rfl, h₃⟩ := h₃
    cases b with
    | false =>
      obtain ⟨l, hp, hJ'⟩ := h₃.2 rfl
      exact fin s₃ ys nn l (st₃.part hp) (by omega) hJ'
    | true =>
      refine no_noted (env := C.env) ((h₃.1 rfl).go st₃ fun y lo₄ led₄ s₄ st₄ h₄ => ?_)
      obtain ⟨rfl, l, hp, hJ'⟩ := h₄
      have st₅ := st₄.part hp
      refine no_noted (env := C.env) ((f_append (Q := fun _ lo' led' => lo' = lo₄ ∧ led' = (I, oI') :: (c, oC') :: (D, lst (ys ++ [y]) (nn + 1)) :: l) (Chg.skip (Chg.skip Chg.here)) (by omega) ⟨rfl, rfl⟩ : WP C lo₄ _ _ _).go st₅ fun _ lo₅ led₅ s₅ st₆ h₆ => ?_)
      obtain ⟨rfl, rfl⟩ := h₆
      exact fin s₅ (ys ++ [y]) (nn + 1) l st₆ (by rw [List.length_append]; simp only [List.length_cons, List.length_nil]; omega) hJ'
  · have hin : i = n := by omega
    subst hin
    refine no_noted (env := C.env) (wpAny_with_toks (n := 1) hs.tk (W.done s _ _ hst fun h' tk hk htk => ?_))
    exact done ys led oC nn _ hyl ⟨_, hmC⟩ hJ (st_drop hs (fun b x hb e => hk b x (by simpa using hb) e) htk)
def compB (scope : Scope) (x : Str) : Bool := decide (scope.kind = .function) && decide (scope.names.lookup x = some .local) && scope.names.all (fun y => decide (y.2 ≠ .free) && decide (y.2 ≠ .cell) && (!decide (y.2 = .local) || decide (scope.names.lookup y.1 = some .local)))
theorem compB_of {scope : Scope} {x : Str} (h : compB scope x = true) : scope.kind = .function ∧ scope.names.lookup x = some .local ∧ (∀ y ∈ scope.names, y.2 ≠ .free) ∧ (∀ y ∈ scope.names, y.2 ≠ .cell) ∧ (∀ y ∈ scope.names, y.2 = .local → scope.names.lookup y.1 = some .local) := by
  simp only [compB, Bool.and_eq_true, decide_eq_true_eq, List.all_eq_true, Bool.or_eq_true, Bool.not_eq_true', decide_eq_false_iff_not] at h
  exact ⟨h.1.1, h.1.2, fun y hy => (h.2 y hy).1.1, fun y hy => (h.2 y hy).1.2, fun y hy e => (h.2 y hy).2.resolve_left (fun q => q e)⟩
theorem comp_core {elt iter : Expr} {x : Str} {px : Pos} {ifs : List Expr} {scope : Scope} {pos : Pos} {I : Addr} {fp : List Addr} {n : Nat} {P : Nat → Value → Prop} {Stt : Nat → Heap → Prop} {s : Shared} {oI : Obj} {Q : Value → Lo → Led → Prop}
    (J : Nat → List Value → Led → Prop)
    (W : Walks PG C.w C.A I fp [I] n P Stt) (hn : n ≤ 1000) (hob : ∀ i h, Stt i h → ∃ o, h.get? I = some o) (hfp : ∀ b ∈ fp, b = I ∨ ∃ ob, ∀ i ys led, J i ys led → (b, ob) ∈ led)
    (hb : compB scope x = true)
    (hs : St C lo ((I, oI) :: led) s) (hst : Stt 0 s.heap) (h0 : J 0 [] led)
    (turn : ∀ i v ys led I oI c oC D nn, i < n → P i v → J i ys led → CObj oC x v → WP C lo ((I, oI) :: (c, oC) :: (D, lst ys nn) :: led) (tst ifs (compEnv scope c C.env))
      (fun b lo' led' => lo' = lo ∧ Br b (WP C lo led' (eval elt (compEnv scope c C.env)) (fun y lo'' led'' => lo'' = lo ∧ ∃ l, Part ((I, oI) :: (c, oC) :: (D, lst ys nn) :: l) led'' ∧ J (i + 1) (ys ++ [y]) l))
        (∃ l, Part ((I, oI) :: (c, oC) :: (D, lst ys nn) :: l) led' ∧ J (i + 1) ys l)))
    (done : ∀ ys led D nn, ys.length ≤ n → J n ys led → Q (.ref D) lo ((D, lst ys nn) :: led)) :
    wpAny (model PG C.w) C.A (newList []) (fun acc s₃ => wpAny (model PG C.w) C.A (newFunctionEnv scope C.env.globals [] [] C.env.qual none .none (some C.env)) (fun cenv s₄ =>
      codeAny (model PG C.w) C.A (.compStart (.ListComp elt [⟨.Name x px, iter, ifs, 0⟩] scope pos) 0 (.ref I) acc { cenv with scope := scope })
          (fun r s' => ∃ m, s'.heap.Ns cenv.locals m ∧ ∀ h', Heap.SameBut cenv.locals s'.heap h' →
            match r with | .ok _ => (fun v s' => ∃ lo' led', St C lo' led' s' ∧ Q v lo' led') acc { s' with heap := h' } | .error x => wpAny (model PG C.w) C.A (passOn "comprehension.variables-let-go" x { cenv with scope := scope }) (fun v s' => ∃ lo' led', St C lo' led' s' ∧ Q v lo' led') No { s' with heap := h' }) s₄) No s₃) No s := by
  obtain ⟨hkind, hx, hfree, hcell, hnames⟩ := compB_of hb
  obtain ⟨m, F, kn⟩ := hs.F
  refine wpAny_newObj_type (wpAny_newFunctionEnv hcell (by intro y hy; simp at hy) (fun h₁ hns₁ hsb₁ => ?_) hkind)
  have st₁ : St C lo ((s.heap.objs.size, lst [] 0) :: (I, oI) :: led) { s with heap := s.heap.push { cls := .type "list", dict := none, data := .seq ([] : List Value).toArray }, toks := s.toks } := hs.alloc (F.push _) kn (N := hs.N.push F _ rfl) hs.lt hs.tk
  obtain ⟨m₁, F₁, kn₁⟩ := st₁.F
  dsimp only at hns₁ hsb₁ ⊢
  generalize hH2 : s.heap.push { cls := .type "list", dict := none, data := .seq ([] : List Value).toArray } = H2 at hns₁ hsb₁ F₁ st₁ ⊢
  have st₂ : St C lo ((H2.objs.size, { cls := .type (if (some C.env).isSome then "dict" else "frame"), data := .dict #[] }) :: (s.heap.objs.size, lst [] 0) :: (I, oI) :: led) { s with heap := H2.push { cls := .type (if (some C.env).isSome then "dict" else "frame"), data := .dict #[] }, toks := s.toks } :=
    st₁.alloc (F₁.push _) kn₁ (N := st₁.N.push F₁ _ rfl) st₁.lt hs.tk
  obtain ⟨oC, heC, hoC⟩ := LCg.ns_obj hns₁
  have st₃ := st_iter (tk := s.toks + ([] : List (Str × Value)).length) st₂ heC (fun b x hb e => hsb₁.extBut b x hb e) hs.tk
  have st₄ : St C lo ((I, oI) :: (H2.objs.size, oC) :: (s.heap.objs.size, lst [] 0) :: led) { s with heap := h₁, toks := s.toks + ([] : List (Str × Value)).length } :=
    st₃.part ⟨[], by rw [List.append_nil]; exact ((List.Perm.swap ..).cons _).trans (.swap ..)⟩
  have up : ∀ b o, s.heap.get? b = some o → h₁.get? b = some o := fun b o e => hsb₁.extBut b o (Nat.ne_of_lt (by rw [← hH2, Heap.size_push]; exact Nat.lt_succ_of_lt (Heap.lt_size e))) (Heap.get?_push_of_some _ (hH2 ▸ Heap.get?_push_of_some _ e))
  have hst₁ : Stt 0 h₁ := W.frame _ _ _ hst fun b hb o e => up b o e
  have loop := comp_loop (elt := elt) (iter := iter) (px := px) (ifs := ifs) (pos := pos) (R := fun r s' => ∃ m, s'.heap.Ns H2.objs.size m ∧ ∀ h', Heap.SameBut H2.objs.size s'.heap h' →
            match r with | .ok _ => (fun v s' => ∃ lo' led', St C lo' led' s' ∧ Q v lo' led') (.ref s.heap.objs.size) { s' with heap := h' } | .error x => wpAny (model PG C.w) C.A (passOn "comprehension.variables-let-go" x (compEnv scope H2.objs.size C.env)) (fun v s' => ∃ lo' led', St C lo' led' s' ∧ Q v lo' led') No { s' with heap := h' })
    J W hn hob hfp hkind hx st₄ hst₁ ⟨_, hoC⟩ h0 (fun i v ys led oI oC nn => turn i v ys led I oI _ oC _ nn) (fun ys led oC nn s' hyl ⟨mm, hmm⟩ hJ st => ⟨mm, hmm.ns (st.N _ (.head _)).1, fun h' hs' => ⟨lo, _, st_drop st (fun b x hb e => hs'.extBut b x hb e) st.tk, done ys led _ nn hyl hJ⟩⟩)
  exact codeAny_compStart_list loop (W.self 0 _ _ _ hst₁ loop)
/- where a comprehension comes from -/
theorem e_comp_str (hC : C.Ok k) {elt iter : Expr} {x : Str} {px : Pos} {ifs : List Expr} {scope : Scope} {pos : Pos} {Q : Value → Lo → Led → Prop} (hb : compB scope x = true) (hi : noSet iter = true) (l : List Nat) (hl : l.length ≤ 1000) (J : Nat → List Value → Led → Prop)
    (h : WP C lo led (eval iter C.env) (fun v lo' led' => lo' = lo ∧ (∃ t, v = .str (S l) t) ∧ J 0 [] led'))
    (turn : ∀ i (hi : i < l.length) t ys led I oI c oC D nn, J i ys led → CObj oC x (.str (S [l[i]]) t) → WP C lo ((I, oI) :: (c, oC) :: (D, lst ys nn) :: led) (tst ifs (compEnv scope c C.env))
      (fun b lo' led' => lo' = lo ∧ Br b (WP C lo led' (eval elt (compEnv scope c C.env)) (fun y lo'' led'' => lo'' = lo ∧ ∃ l, Part ((I, oI) :: (c, oC) :: (D, lst ys nn) :: l) led'' ∧ J (i + 1) (ys ++ [y]) l))
        (∃ l, Part ((I, oI) :: (c, oC) :: (D, lst ys nn) :: l) led' ∧ J (i + 1) ys l)))
    (done : ∀ ys led D nn, ys.length ≤ l.length → J l.length ys led → Q (.ref D) lo ((D, lst ys nn) :: led)) :
    WP C lo led (eval (.ListComp elt [⟨.Name x px, iter, ifs, 0⟩] scope pos) C.env) Q := fun s hs => by
  obtain ⟨hkind, hx, hfree, hcell, hnames⟩ := compB_of hb
  refine wpAny_ListComp hfree hkind hnames (h.go hs fun v lo₁ led₁ s₁ st₁ h₁ => ?_) (fold_no (by cases iter <;> first | rfl | cases hi))
  obtain ⟨rfl, ⟨t, rfl⟩, hJ⟩ := h₁
  obtain ⟨m, F, kn⟩ := st₁.F
  have hsz : (S l).cps.size = l.length := by simp
  have go : ∀ (ty : String) (o : Obj), Walks PG C.w C.A s₁.heap.objs.size [s₁.heap.objs.size] [s₁.heap.objs.size] (S l).cps.size (SignAt (S l)) (fun i h => h.IsStrIter s₁.heap.objs.size ty (S l) t i) →
      (s₁.heap.push o).IsStrIter s₁.heap.objs.size ty (S l) t 0 → o.isFreed = false → _ := fun ty o W hst hf =>
    comp_core (elt := elt) (iter := iter) (px := px) (ifs := ifs) (pos := pos) (Q := Q) J W (by rw [hsz]; exact hl) (fun i h z => let ⟨o, ho, _⟩ := z; ⟨o, ho⟩) (fun b hb => .inl (by simpa using hb)) hb (st₁.alloc (F.push _) kn (N := st₁.N.push F _ hf) st₁.lt st₁.tk) hst hJ
      (fun i v ys led I oI c oC D nn hi' ⟨cc, u, hc, hv⟩ hJ' hCo => by
        subst hv
        have hi'' : i < l.length := by rw [hsz] at hi'; exact hi'
        have hc' : cc = l[i] := by have : (S l).cps[i]? = some l[i] := by simp [hi'']
                                   rw [this] at hc; exact (Option.some.inj hc).symm
        subst hc'
        exact turn i hi'' u ys led I oI c oC D nn hJ' hCo)
      (fun ys led D nn hyl hJ' => by rw [hsz] at hyl hJ'; exact done ys led D nn hyl hJ')
  cases ha : (S l).cps.all (· < 128)
  · exact wpAny_pyIter_wide ha (go "str_iterator" _ (Walks.strWide hC.hd _ (S l) t) ⟨_, Heap.get?_push_size _ rfl, rfl, rfl⟩ rfl)
  · exact wpAny_pyIter_ascii ha (go "str_ascii_iterator" _ (Walks.strAscii hC.hd _ (S l) t) ⟨_, Heap.get?_push_size _ rfl, rfl, rfl⟩ rfl)
theorem e_comp_list (hC : C.Ok k) {elt iter : Expr} {x : Str} {px : Pos} {ifs : List Expr} {scope : Scope} {pos : Pos} {Q : Value → Lo → Led → Prop} (hb : compB scope x = true) (hi : noSet iter = true) (ax : Addr) (vs : List Value) (n : Nat) (hl : vs.length ≤ 1000) (J : Nat → List Value → Led → Prop)
    (hJl : ∀ i ys led, J i ys led → (ax, lst vs n) ∈ led)
    (h : WP C lo led (eval iter C.env) (fun v lo' led' => lo' = lo ∧ v = .ref ax ∧ J 0 [] led'))
    (turn : ∀ i (hi : i < vs.length) ys led I oI c oC D nn, J i ys led → CObj oC x vs[i] → WP C lo ((I, oI) :: (c, oC) :: (D, lst ys nn) :: led) (tst ifs (compEnv scope c C.env))
      (fun b lo' led' => lo' = lo ∧ Br b (WP C lo led' (eval elt (compEnv scope c C.env)) (fun y lo'' led'' => lo'' = lo ∧ ∃ l, Part ((I, oI) :: (c, oC) :: (D, lst ys nn) :: l) led'' ∧ J (i + 1) (ys ++ [y]) l))
        (∃ l, Part ((I, oI) :: (c, oC) :: (D, lst ys nn) :: l) led' ∧ J (i + 1) ys l)))
    (done : ∀ ys led D nn, ys.length ≤ vs.length → J vs.length ys led → Q (.ref D) lo ((D, lst ys nn) :: led)) :
    WP C lo led (eval (.ListComp elt [⟨.Name x px, iter, ifs, 0⟩] scope pos) C.env) Q := fun s hs => by
  obtain ⟨hkind, hx, hfree, hcell, hnames⟩ := compB_of hb
  refine wpAny_ListComp hfree hkind hnames (h.go hs fun v lo₁ led₁ s₁ st₁ h₁ => ?_) (fold_no (by cases iter <;> first | rfl | cases hi))
  obtain ⟨rfl, rfl, hJ⟩ := h₁
  obtain ⟨m, F, kn⟩ := st₁.F
  have hm := hJl _ _ _ hJ
  have hIs : s₁.heap.IsList ax vs.toArray := News.isList st₁.N hm
  have hlt : ax < s₁.heap.objs.size := st₁.lt _ hm
  have hsz : vs.toArray.size = vs.length := by simp
  refine wpAny_pyIter_list hIs ?_
  refine comp_core (elt := elt) (iter := iter) (px := px) (ifs := ifs) (pos := pos) (Q := Q) J (Walks.list hC.hd s₁.heap.objs.size ax (Nat.ne_of_lt hlt) vs.toArray) (by rw [hsz]; exact hl) (fun i h z => let ⟨o, ho, _⟩ := z.1; ⟨o, ho⟩) (fun b hb => ?_) hb
    (st₁.alloc (F.push _) kn (N := st₁.N.push F _ rfl) st₁.lt st₁.tk) ⟨⟨_, Heap.get?_push_size _ rfl, rfl, rfl⟩, hIs.push _⟩ hJ
    (fun i v ys led I oI c oC D nn hi' hv hJ' hCo => ?_) (fun ys led D nn hyl hJ' => by rw [hsz] at hyl hJ'; exact done ys led D nn hyl hJ')
  · rcases List.mem_cons.mp hb with rfl | hb
    · exact .inl rfl
    · rw [List.mem_singleton.mp hb]; exact .inr ⟨lst vs n, hJl⟩
  · have hi'' : i < vs.length := by rw [hsz] at hi'; exact hi'
    have hv' : v = vs[i] := by have : vs.toArray[i]? = some vs[i] := by simp [hi'']
                               rw [this] at hv; exact (Option.some.inj hv).symm
    subst hv'
    exact turn i hi'' ys led I oI c oC D nn hJ' hCo
end
end Mine
end
section
open PySem PySem.W PyProof.Rows PySem.Spec PySem.Calls
set_option Elab.async false
set_option linter.unusedVariables false
set_option maxRecDepth 100000
namespace Mine
section
variable {fn : Fn} {C : Cx fn} {lo : Lo} {led : Led} {k : Nat} {ev : Env} {Q : Value → Lo → Led → Prop}
/- the rules of expressions once more, in any frame -/
theorem v_int {i k pos} (h : ∀ t, Q (.int i t) lo led) : WP C lo led (eval (.Constant (.int i) k pos) ev) Q :=
  fun _ hs => wpAny_Constant_int ⟨lo, led, hs.toks _, h _⟩
theorem v_str {x k pos} (h : ∀ t, Q (.str x t) lo led) : WP C lo led (eval (.Constant (.str x) k pos) ev) Q :=
  fun _ hs => Calls.Constant_str ⟨lo, led, hs.toks _, h _⟩
theorem v_binop {l op r pos} (h : WP C lo led (eval l ev) (fun a lo led => WP C lo led (eval r ev) (fun b lo led => WP C lo led (binaryOp op a b) Q))) : WP C lo led (eval (.BinOp l op r pos) ev) Q :=
  fun _ hs => wpAny_BinOp (h.go hs fun _ _ _ _ a h => h.go a fun _ _ _ _ a h => h _ a)
theorem v_sub {value slice pos} (h : WP C lo led (eval value ev) (fun o lo led => WP C lo led (eval slice ev) (fun i lo led => WP C lo led (subscriptTail value slice o i) Q))) : WP C lo led (eval (.Subscript value slice pos) ev) Q :=
  fun s hs => Subscript_ (h.go hs fun _ _ _ _ a h => h.go a fun _ _ _ _ a h => h _ a)
theorem v_ifexp {test body orelse pos}
    (h : WP C lo led (isTrue test ev (eval test ev)) (fun c lo led => Br c (WP C lo led (eval body ev) Q) (WP C lo led (eval orelse ev) Q))) : WP C lo led (eval (.IfExp test body orelse pos) ev) Q :=
  fun _ hs => IfExp_ (h.go hs fun c _ _ _ a b => by cases c with | true => exact b.1 rfl _ a | false => exact b.2 rfl _ a)
theorem v_call {func : Expr} {args : List Expr} {pos : Pos} (hf : callB func = true)
    (h : WP C lo led (eval func ev) (fun f lo led => WP C lo led (callWith pos f [] (backTo pos (starEach args ev)) []) Q)) : WP C lo led (eval (.Call func args [] pos) ev) Q :=
  fun s hs => Call_ (h.go hs fun _ _ _ _ a h => h _ a) (by cases func <;> first | rfl | cases hf)
theorem vs_none {pos : Pos} {Q : List Value → Lo → Led → Prop} (h : Q [] lo led) : WP C lo led (spliced (backTo pos (starEach [] ev))) Q := fun s hs => spliced_none ⟨lo, led, hs, h⟩
theorem vs_more {e : Expr} {rest : List Expr} {pos : Pos} {Q : List Value → Lo → Led → Prop} (he : plainE e = true)
    (h : WP C lo led (eval e ev) (fun v lo led => WP C lo led (spliced (backTo pos (starEach rest ev))) (fun vs => Q (v :: vs)))) : WP C lo led (spliced (backTo pos (starEach (e :: rest) ev))) Q :=
  fun s hs => spliced_more (h.go hs fun _ _ _ _ a h => h.go a fun _ lo' led' _ a h => ⟨lo', led', a, h⟩) (starEach_plain he)
theorem vc_fn0 (hC : C.Ok k) {f : Addr} {e : Expr} {rest : List Expr} {pos : Pos} (hk : keepIn (Mine.K C.w.params) (.ref f) = true) (ha : argsB (e :: rest) = true)
    (h : WP C lo led (spliced (backTo pos (starEach (e :: rest) ev))) (fun vs lo led => WP C lo led (call (.ref f) vs) Q)) : WP C lo led (callWith pos (.ref f) [] (backTo pos (starEach (e :: rest) ev)) []) Q := fun s hs => by
  simp only [argsB, Bool.and_eq_true, decide_eq_true_eq] at ha
  have fin : ∀ {lo' led' s'}, St C lo' led' s' → (Mine.K C.w.params).In s'.heap := fun a => let ⟨_, F, _⟩ := a.F; hC.X.keeps F.keep
  rw [List.all_cons, Bool.and_eq_true] at ha
  exact callWith_K hC.X hk (h.go hs fun vs lo' led' s' a b => ⟨fin a, b _ a⟩) (starEach_plain ha.1.1) (backTo_any ha.1.2)
theorem vc_bi0 {id : String} {e : Expr} {rest : List Expr} {pos : Pos} (ha : argsB (e :: rest) = true)
    (h : WP C lo led (spliced (backTo pos (starEach (e :: rest) ev))) (fun vs lo led => WP C lo led (call (.builtin id) vs) Q)) : WP C lo led (callWith pos (.builtin id) [] (backTo pos (starEach (e :: rest) ev)) []) Q := fun s hs => by
  simp only [argsB, Bool.and_eq_true, decide_eq_true_eq] at ha
  rw [List.all_cons, Bool.and_eq_true] at ha
  exact callWith_method1 (h.go hs fun vs lo' led' s' a b => b _ a) (starEach_plain ha.1.1) (backTo_any ha.1.2)
theorem vt_cmp {l op r pos whole} {Q : Bool → Lo → Led → Prop} (hm : behindInMarks op r = false)
    (h : WP C lo led (eval l ev) (fun a lo led => WP C lo led (eval r ev) (fun b lo led => WP C lo led (compareOp op a b) (fun c lo led => WP C lo led (truthy c) Q)))) :
    WP C lo led (isTrue (.Compare l [op] [r] pos) ev whole) Q :=
  fun _ hs => wpAny_isTrue_Compare1 (h.go hs fun _ _ _ _ a h => h.go a fun _ _ _ _ a h => h.go a fun _ _ _ _ a h => h _ a) hm
theorem vt_chain {l : Expr} {op₁ op₂ : CmpOp} {r₁ r₂ : Expr} {pos : Pos} {whole : Sem Value} {Q : Bool → Lo → Led → Prop} (hm : lastMarks [op₁, op₂] [r₁, r₂] = false)
    (h : WP C lo led (eval l ev) (fun a lo led => WP C lo led (eval r₁ ev) (fun b lo led => WP C lo led (compareOp op₁ a b) (fun c lo led => WP C lo led (truthy c) (fun t lo led => Br t
      (WP C lo led (eval r₂ ev) (fun d lo led => WP C lo led (compareOp op₂ b d) (fun c lo led => WP C lo led (truthy c) Q))) (Q false lo led)))))) :
    WP C lo led (isTrue (.Compare l [op₁, op₂] [r₁, r₂] pos) ev whole) Q := fun s hs => by
  refine isTrue_chain (h.go hs fun a _ _ _ st h => ?_) hm
  refine test_link (h.go st fun b _ _ _ st h => h.go st fun c _ _ _ st h => h.go st fun t lo' led' _ st h => ?_)
  cases t with
  | false => exact ⟨lo', led', st, h.2 rfl⟩
  | true => exact test_last ((h.1 rfl).go st fun d _ _ _ st h => h.go st fun c _ _ _ st h => h _ st)
/- names within a comprehension -/
def slocB (scope : Scope) (x : Str) : Bool := decide (scope.kind = .function) && decide (scope.names.lookup x = some .local) && !(x == ("__debug__" : Str))
def sgloB (scope : Scope) (x : Str) : Bool := decide (scope.kind = .function) && decide (scope.names.lookup x = some .globalImplicit) && !(x == ("__debug__" : Str))
theorem v_local {scope : Scope} {c : Addr} {oC : Obj} {x : Str} {pos : Pos} {v : Value} (hb : slocB scope x = true) (hc : Has (c, oC) led) (ho : CObj oC x v) (h : Q v lo led) :
    WP C lo led (eval (.Name x pos) (compEnv scope c C.env)) Q := fun s hs => by
  simp only [slocB, Bool.and_eq_true, decide_eq_true_eq, Bool.not_eq_true'] at hb
  obtain ⟨m, hm, hv⟩ := ho
  exact wpAny_Name (wpAny_loadName_local (env := compEnv scope c C.env) hb.1.1 hb.1.2 (hm.ns (hs.N.get hc.mem)) hv ⟨lo, led, hs, h⟩) hb.2
theorem v_global (hC : C.Ok k) {scope : Scope} {c : Addr} {x : Str} {pos : Pos} {v : Value} (hb : sgloB scope x = true) (e : nsIn (Mine.K C.w.params) mainGlobals x = some (some v)) (h : Q v lo led) :
    WP C lo led (eval (.Name x pos) (compEnv scope c C.env)) Q := fun s hs => by
  simp only [sgloB, Bool.and_eq_true, decide_eq_true_eq, Bool.not_eq_true'] at hb
  obtain ⟨_, F, _⟩ := hs.F
  exact nameG_K F hC.X (topRead_of hC.T) e ⟨lo, led, hs, h⟩ rfl hb.1.1 hb.1.2 hb.2
theorem v_builtin (hC : C.Ok k) {scope : Scope} {c : Addr} {x : Str} {pos : Pos} {v : Value} (hb : sgloB scope x = true) (e : nsIn (Mine.K C.w.params) mainGlobals x = some none) (hv : bootBuiltins x = some v) (hn : x ≠ "__name__") (h : Q v lo led) :
    WP C lo led (eval (.Name x pos) (compEnv scope c C.env)) Q := fun s hs => by
  simp only [sgloB, Bool.and_eq_true, decide_eq_true_eq, Bool.not_eq_true'] at hb
  obtain ⟨_, F, _⟩ := hs.F
  have T := topRead_of hC.T
  exact Calls.Name_function_global hb.1.1 hb.1.2 (Calls.loadGlobal_builtin (env := compEnv scope c C.env) (T.g.keeps F.keep) (mg_none_of hC.X T.g e) (T.b.keeps F.keep) ((T.builtins x hn).trans hv) ⟨lo, led, hs, h⟩) hb.2
theorem ts_nil {env : Env} {Q : Bool → Lo → Led → Prop} (h : Q true lo led) : WP C lo led (tst [] env) Q := fun s hs => wpAny_tests_nil ⟨lo, led, hs, h⟩
theorem ts_one {env : Env} {c : Expr} {Q : Bool → Lo → Led → Prop} (h : WP C lo led (isTrue c env (eval c env)) Q) : WP C lo led (tst [c] env) Q := fun s hs => wpAny_tests_one (h s hs)
/- one sign's order -/
theorem c_les {a b : Nat} {t u : Tok} (h : Q (.bool (decide (a ≤ b))) lo led) : WP C lo led (compareOp .LtE (.str (S [a]) t) (.str (S [b]) u)) Q := fun s hs => by
  refine PySem.P.le_str ?_
  refine ⟨lo, led, hs, ?_⟩
  have e : (!decide ((S [b]).cps.toList < (S [a]).cps.toList)) = decide (a ≤ b) := by
    show (!decide ([b] < [a])) = _
    have : ([b] < [a]) ↔ b < a := by rw [List.cons_lt_cons_iff]; simp
    rw [Bool.eq_iff_iff, Bool.not_eq_true', decide_eq_false_iff_not, this, decide_eq_true_eq]; omega
  rw [e]; exact h
end
end Mine
end
section
open PySem PySem.W PyProof.Rows PySem.Spec PySem.Calls
set_option Elab.async false
set_option linter.unusedVariables false
set_option maxRecDepth 100000
namespace Mine
theorem Has.of_mem {p : Addr × Obj} : ∀ {a : Led}, p ∈ a → Has p a
  | q :: a, h => by
    rcases List.mem_cons.mp h with rfl | h
    · exact .here
    · exact .skip (Has.of_mem h)
/- what compares equal -/
inductive Alike (led : Led) : Nat → Value → Value → Prop where
  | same {n v} : Alike led n v v
  | int {n i t u} : Alike led n (.int i t) (.int i u)
  | str {n x t u} : Alike led n (.str x t) (.str x u)
  | tup {n a b xs ys} : (a, tup xs) ∈ led → (b, tup ys) ∈ led → xs.length = ys.length → (∀ j (h1 : j < xs.length) (h2 : j < ys.length), Alike led n xs[j] ys[j]) → Alike led (n + 1) (.ref a) (.ref b)
  | lst {n a b xs ys m k} : (a, lst xs m) ∈ led → (b, lst ys k) ∈ led → xs.length = ys.length → (∀ j (h1 : j < xs.length) (h2 : j < ys.length), Alike led n xs[j] ys[j]) → Alike led (n + 1) (.ref a) (.ref b)
  | dict0 {n a b} : (a, emptyDict) ∈ led → (b, emptyDict) ∈ led → (a == sysModules) = false → (b == sysModules) = false → Alike led (n + 1) (.ref a) (.ref b)
theorem empty_dict {prog : Program} {w : World} : emptyDict.IsDictOf (PySem.strKind prog w) [] := by
  obtain ⟨o, ho, hd⟩ := Heap.dictOf_iff.mp (Heap.DictOf.new (knd := PySem.strKind prog w) {})
  rw [Heap.get?_push_size _ rfl] at ho
  cases ho
  exact hd
theorem any_no : ∀ l : List Value, (l.any fun _ => false) = false
  | [] => rfl
  | _ :: r => by rw [List.any_cons, any_no r]; rfl
theorem all_true {n : Nat} {e : Nat → Bool} (h : ∀ j, e j = true) : (List.range n).all e = true := by rw [List.all_eq_true]; exact fun j _ => h j
theorem Alike.at {h₀ : Heap} {L : Addr} {s : Shared} {led : Led} (N : News h₀ L s.heap led) : ∀ {n : Nat} {v u : Value} {A : Around}, Alike led n v u → A.units + n < cLine → SeqAt.EqAt A s v u true := by
  intro n v u A h
  induction h generalizing A with
  | same => exact fun _ => SeqAt.EqAt.same _
  | @int n i t u => exact fun _ => by have := SeqAt.EqAt.int_int (A := A) (s := s) i t i u; rw [beq_self_eq_true] at this; exact this
  | @str n x t u => exact fun _ => by have := SeqAt.EqAt.str_str (A := A) (s := s) x t x u; rw [beq_self_eq_true] at this; exact this
  | @tup n a b xs ys ha hb hl _ ih =>
    intro hu
    by_cases hab : a = b
    · subst hab; exact SeqAt.EqAt.same _
    have z := SeqAt.RcAt.tuples (A := A) (s := s) (e := fun _ => true) (N.isTup ha) (N.isTup hb) (by omega) (fun j h1 h2 => by
      have := ih j (by simpa using h1) (by simpa using h2) (A := A.in1) (by show A.units + 1 + n < _; omega)
      simpa using this)
    rw [all_true (fun _ => rfl)] at z
    simp only [List.size_toArray, hl, beq_self_eq_true, Bool.and_self] at z
    exact SeqAt.EqAt.of_refs hab z
  | @lst n a b xs ys m k ha hb hl _ ih =>
    intro hu
    by_cases hab : a = b
    · subst hab; exact SeqAt.EqAt.same _
    have z := SeqAt.RcAt.lists (A := A) (s := s) (e := fun _ => true) (N.isList ha) (N.isList hb) (by simpa using hl) (by omega) (fun j h1 h2 => by
      have := ih j (by simpa using h1) (by simpa using h2) (A := A.in1) (by show A.units + 1 + n < _; omega)
      simpa using this)
    rw [all_true (fun _ => rfl)] at z
    exact SeqAt.EqAt.of_refs hab z
  | @dict0 n a b ha hb la lb =>
    intro hu
    by_cases hab : a = b
    · subst hab; exact SeqAt.EqAt.same _
    refine SeqAt.EqAt.of_refs hab fun prog w E Q hq => ?_
    exact keq_eq (knd := PySem.strKind prog w) la lb (Heap.dictOf_iff.mpr ⟨_, (N _ ha).1, empty_dict⟩) (Heap.dictOf_iff.mpr ⟨_, (N _ hb).1, empty_dict⟩) (by omega) (fun _ => .nil) hq
section
variable {fn : Fn} {C : Cx fn} {lo : Lo} {led led' : Led} {k : Nat} {Q : Value → Lo → Led → Prop}
theorem c_net (hC : C.Ok k) (hk : 1 ≤ k) {a b : Addr} {xs ys : List Value} (ha : (a, tup xs) ∈ led) (hb : (b, tup ys) ∈ led) (hl : xs.length = ys.length) (h : ∀ j (h1 : j < xs.length) (h2 : j < ys.length), Alike led 8 xs[j] ys[j])
    (q : Q (.bool false) lo led) : WP C lo led (compareOp .NotEq (.ref a) (.ref b)) Q := fun s hs => by
  have hu := hC.un
  refine SeqAt.RcNeAt.tuples (A := C.A) (s := s) (e := fun _ => true) (News.isTup hs.N ha) (News.isTup hs.N hb) (by omega) (fun j h1 h2 => ?_) PG C.w No _ ?_
  · have := (h j (by simpa using h1) (by simpa using h2)).at hs.N (A := C.A.in1) (by show C.A.units + 1 + 8 < _; omega)
    simpa using this
  · rw [all_true (fun _ => rfl)]
    simp only [List.size_toArray, hl, beq_self_eq_true, Bool.and_self, Bool.not_true]
    exact ⟨lo, led, hs, q⟩
theorem c_nel (hC : C.Ok k) (hk : 1 ≤ k) {a b : Addr} {xs ys : List Value} {m n : Nat} (ha : (a, lst xs m) ∈ led) (hb : (b, lst ys n) ∈ led) (hl : xs.length = ys.length) (h : ∀ j (h1 : j < xs.length) (h2 : j < ys.length), Alike led 8 xs[j] ys[j])
    (q : Q (.bool false) lo led) : WP C lo led (compareOp .NotEq (.ref a) (.ref b)) Q := fun s hs => by
  have hu := hC.un
  refine SeqAt.RcNeAt.lists (A := C.A) (s := s) (e := fun _ => true) (News.isList hs.N ha) (News.isList hs.N hb) (by simpa using hl) (by omega) (fun j h1 h2 => ?_) PG C.w No _ ?_
  · have := (h j (by simpa using h1) (by simpa using h2)).at hs.N (A := C.A.in1) (by show C.A.units + 1 + 8 < _; omega)
    simpa using this
  · rw [all_true (fun _ => rfl)]
    exact ⟨lo, led, hs, q⟩
theorem c_eql (hC : C.Ok k) (hk : 1 ≤ k) {a b : Addr} {xs ys : List Value} {m n : Nat} (ha : (a, lst xs m) ∈ led) (hb : (b, lst ys n) ∈ led) (hl : xs.length = ys.length) (h : ∀ j (h1 : j < xs.length) (h2 : j < ys.length), Alike led 8 xs[j] ys[j])
    (q : Q (.bool true) lo led) : WP C lo led (compareOp .Eq (.ref a) (.ref b)) Q := fun s hs => by
  have hu := hC.un
  refine SeqAt.RcAt.lists (A := C.A) (s := s) (e := fun _ => true) (News.isList hs.N ha) (News.isList hs.N hb) (by simpa using hl) (by omega) (fun j h1 h2 => ?_) PG C.w No _ ?_
  · have := (h j (by simpa using h1) (by simpa using h2)).at hs.N (A := C.A.in1) (by show C.A.units + 1 + 8 < _; omega)
    simpa using this
  · rw [all_true (fun _ => rfl)]
    exact ⟨lo, led, hs, q⟩
theorem c_nenn (h : Q (.bool false) lo led) : WP C lo led (compareOp .NotEq .none .none) Q := fun s hs => by (with_reducible refine PySem.EqNone.ne_none_none ?_); exact ⟨lo, led, hs, h⟩
theorem c_nes {x y : Str} {t u : Tok} (h : Q (.bool (x != y)) lo led) : WP C lo led (compareOp .NotEq (.str x t) (.str y u)) Q := fun s hs => by (with_reducible refine PyProof.Rows.ne_str ?_); exact ⟨lo, led, hs, h⟩
/- none in a row of texts -/
theorem c_innK (hC : C.Ok k) {a : Addr} {l : List Value} {dd : Option Addr} {sl : Array (Option Value)} {n : Nat} {ys : List Str} (hl : (Mine.K C.w.params).lookup a = some ⟨.type "tuple", dd, .seq l.toArray n, sl⟩) (hi : StrsAre l ys)
    (h : Q (.bool false) lo led) : WP C lo led (compareOp .In .none (.ref a)) Q := fun s hs => by
  obtain ⟨m, F, kn⟩ := hs.F
  have hall : ∀ v ∈ l, ∃ x t, v = Value.str x t := by
    clear hl h
    induction hi with
    | nil => exact fun _ h => nomatch h
    | cons y t _ ih =>
      intro v hv
      rcases List.mem_cons.mp hv with rfl | hv
      · exact ⟨_, _, rfl⟩
      · exact ih v hv
  refine SeqAt.in_tupleAt (fun _ => false) (tupK (hC.X.keeps F.keep) hl) (fun y hy => ?_) ⟨lo, led, hs, by rw [List.any_toArray, any_no]; exact h⟩
  obtain ⟨x, t, rfl⟩ := hall y (by simpa using hy)
  exact SeqAt.EqAt.str_none x t
/- {} and get -/
theorem e_dict0 (hC : C.Ok k) {pos : Pos} (h : ∀ d, (d == sysModules) = false → Q (.ref d) lo ((d, emptyDict) :: led)) : WP C lo led (eval (.Dict [] [] pos) C.env) Q := fun s hs => by
  rw [eval_Dict_empty]
  refine wpAny_bind (wpAny_standAt ?_)
  obtain ⟨m, F, kn⟩ := hs.F
  have hd := F.notModules (modules_low hC.T.nolimit)
  exact wpAny_newObj_type ⟨lo, _, hs.alloc (F.push _) kn (hs.N.push F _ rfl) hs.lt hs.tk, h _ hd⟩
theorem m_get {d : Addr} {o : Obj} {kvs : List (Str × Value)} {pl : Sem Bool} {Q : Value → List Value → Lo → Led → Prop} (hp : Has (d, o) led) (hd : DictIs C.w d o kvs) (h : Q (.builtin "dict.get") [.ref d] lo led) :
    WP C lo led (getMethod (.ref d) (Str.ofString "get") pl) (uc Q) := fun s hs =>
  kdg_method (knd := PySem.strKind PG C.w) hs.N hp.mem hd.1 ⟨lo, led, hs, h⟩
theorem f_get {d : Addr} {o : Obj} {kvs : List (Str × Value)} {x : Str} {t : Tok} (hp : Has (d, o) led) (hd : DictIs C.w d o kvs) (h : Q ((valueAt kvs x).getD .none) lo led) :
    WP C lo led (call (.builtin "dict.get") [.ref d, .str x t]) Q := fun s hs =>
  kdg_get1 (knd := PySem.strKind PG C.w) hs.N hp.mem hd.1 hd.2 (k := x) (is_str _ _ _) _ rfl ⟨lo, led, hs.toks _, h⟩
/- keeping what grows -/
theorem St.grown {s : Shared} {h' : Heap} {tk : Nat} (hs : St C lo led s) (hk : ∀ b o, s.heap.get? b = some o → h'.get? b = some o) (htk : 0 < tk) : St C lo led { s with heap := h', toks := tk } := by
  obtain ⟨m, F, kn⟩ := hs.F
  exact hs.heap (F.grownK hk) kn (hs.N.grown hk) hs.nd htk
theorem f_min {a b : Int} {t u : Tok} (hC : C.Ok k) (h : ∀ t, Q (.int (min a b) t) lo led) : WP C lo led (call (.builtin "min") [.int a t, .int b u]) Q := fun s hs => by
  obtain ⟨m, F, kn⟩ := hs.F
  refine wpAny_with_toks (n := 1) hs.tk ?_
  refine wpAny_mono (min_two_N (E := No) (Q := fun v s' => 1 ≤ s'.toks → ∃ lo' led', St C lo' led' s' ∧ Q v lo' led') hC.hd F hs.N (fun h' tk F' N' hk => ⟨lo, led, hs.heap F' kn N' hs.nd hk, ?_⟩)) (fun _ _ x => x) fun _ _ x => x.elim
  have e : (if b < a then b else a) = min a b := by rw [Int.min_def]; split <;> split <;> omega
  rw [e]; exact h _
theorem f_sum {D : Addr} {vs : List Value} {n : Nat} {ns : List Int} (hC : C.Ok k) (hl : Has (D, lst vs n) led) (hi : IntsAre vs ns) (h : ∀ t, Q (.int ns.sum t) lo led) : WP C lo led (call (.builtin "sum") [.ref D]) Q := fun s hs => by
  obtain ⟨xs, hx⟩ := hi.allInts.items
  refine wpAny_with_toks (n := 1) hs.tk ?_
  have hl' := News.isList hs.N hl.mem
  rw [hx] at hl'
  refine wpAny_mono (sum_intListG (E := No) (Q := fun v s' => 1 ≤ s'.toks → ∃ lo' led', St C lo' led' s' ∧ Q v lo' led') hC.hd hl' (fun h' tk t' hk htk => ⟨lo, led, hs.grown hk htk, ?_⟩)) (fun _ _ x => x) fun _ _ x => x.elim
  have e : preSum (numAt xs) xs.size = ns.sum := by
    rw [preSum_eq, List.take_of_length_le (by simp), ← nums_intItems, ← hx, show vs.toArray.toList = vs from rfl, hi.numsOf]
  rw [e]; exact h _
theorem f_split {l : List Nat} {t u : Tok} {y : Str} (hy : y = S [10]) (hz : l.length ≤ 900) (h : ∀ D vs n, vs.length = l.count 10 + 1 → (∃ (hne : vs ≠ []) (z : List Nat) (t : Tok), vs.getLast hne = .str (S z) t ∧ z.length = col l) → Q (.ref D) lo ((D, lst vs n) :: led)) :
    WP C lo led (call (.builtin "str.split") [.str (S l) t, .str y u]) Q := fun s hs => by
  subst hy
  obtain ⟨m, F, kn⟩ := hs.F
  refine wpAny_with_toks (n := 1) hs.tk ?_
  refine wpAny_mono (KSpl.split1 (E := No) (Q := fun v s' => 1 ≤ s'.toks → ∃ lo' led', St C lo' led' s' ∧ Q v lo' led') F hs.N (by decide) (fun D l' h' k e hst F' N' lt hk => ?_) (by rw [S_len, sizeLine_eq]; omega)) (fun _ _ x => x) fun _ _ x => x.elim
  obtain ⟨ps, hne, e1, e2, e3⟩ := split_S l
  rw [e1] at e
  refine ⟨lo, _, hs.alloc F' kn N' lt hk, h D (strValues l') 0 ?_ ?_⟩
  · rw [strs_len hst, e, List.length_map, e2]
  · have hv : strValues l' ≠ [] := by intro z; have := strs_len hst; rw [z, e, List.length_map, e2] at this; simp at this
    refine ⟨hv, ps.getLast hne, ?_, ?_, e3⟩
    · exact ((l'.getLast (by intro z; rw [z] at hv; exact hv rfl)).2)
    · have hl' : l' ≠ [] := by intro z; rw [z] at hv; exact hv rfl
      have a1 : (l'.map (·.1)).getLast (by simpa using hl') = (l'.getLast hl').1 := List.getLast_map ..
      have a2 : (ps.map S).getLast (by simpa using hne) = S (ps.getLast hne) := List.getLast_map ..
      have a3 : (l'.map (·.1)).getLast (by simpa using hl') = (ps.map S).getLast (by simpa using hne) := by congr 1
      show (l'.map fun p => Value.str p.1 p.2).getLast (by simpa using hl') = _
      rw [List.getLast_map, ← a2, ← a3, a1]
theorem f_lenl {D : Addr} {vs : List Value} {n : Nat} (hl : Has (D, lst vs n) led) (hz : vs.length ≤ 1000) (h : ∀ t, Q (.int (vs.length : Int) t) lo led) : WP C lo led (call (.builtin "len") [.ref D]) Q := fun s hs => by
  refine PyProof.Rows.len_list (News.isList hs.N hl.mem) (by rw [List.size_toArray]; omega) ?_
  rw [List.size_toArray]
  exact ⟨lo, led, hs.toks _, h _⟩
end
end Mine
end
section
open PySem PySem.W PyProof.Rows PySem.Spec PySem.Calls
set_option Elab.async false
set_option linter.unusedVariables false
set_option maxRecDepth 100000
namespace Mine
/-- a range's object -/
abbrev rng (a b : Int) (t u v : Tok) : Obj := { cls := .type "range", dict := none, data := .fields #[.int a t, .int b u, .int 1 v], slots := #[] }
section
variable {fn : Fn} {C : Cx fn} {lo : Lo} {led led' : Led} {k : Nat} {Q : Value → Lo → Led → Prop}
theorem c_ty {T : String} {e : Expr} {rest : List Expr} {pos : Pos} (ha : argsB (e :: rest) = true)
    (h : WP C lo led (spliced (backTo pos (starEach (e :: rest) C.env))) (fun vs lo led => WP C lo led (call (.type T) vs) Q)) : WP C lo led (callWith pos (.type T) [] (backTo pos (starEach (e :: rest) C.env)) []) Q := fun s hs => by
  simp only [argsB, Bool.and_eq_true, decide_eq_true_eq] at ha
  rw [List.all_cons, Bool.and_eq_true] at ha
  exact PyProof.Rows.callWith_type1 (h.go hs fun vs lo' led' s' a b => b _ a) (starEach_plain ha.1.1) (backTo_any ha.1.2)
theorem f_range {a b : Int} {t u : Tok} (h : ∀ r v, Q (.ref r) lo ((r, rng a b t u v) :: led)) : WP C lo led (call (.type "range") [.int a t, .int b u]) Q := fun s hs => by
  obtain ⟨m, F, kn⟩ := hs.F
  exact call_range_2 ⟨lo, _, hs.alloc (F.push _) kn (hs.N.push F _ rfl) hs.lt (Nat.succ_pos _), h _ _⟩
theorem f_dict0 (hC : C.Ok k) {a : Addr} {n : Nat} (hl : Has (a, lst [] n) led) (h : ∀ d, (d == sysModules) = false → Q (.ref d) lo ((d, emptyDict) :: led)) : WP C lo led (call (.type "dict") [.ref a]) Q := fun s hs => by
  obtain ⟨m, F, kn⟩ := hs.F
  have hd := F.notModules (modules_low hC.T.nolimit)
  refine wpAny_with_toks (n := 1) hs.tk ?_
  refine wpAny_mono (dict_of_nil (E := No) (Q := fun v s' => 1 ≤ s'.toks → ∃ lo' led', St C lo' led' s' ∧ Q v lo' led') (hs.N.get hl.mem) hC.hd (fun h' tk hk hn htk => ⟨lo, (_, emptyDict) :: led, ?_, h _ hd⟩)) (fun _ _ x => x) fun _ _ x => x.elim
  have st := hs.grown hk htk
  obtain ⟨m', F', kn'⟩ := st.F
  refine ⟨st.F, fun p hp => ?_, nodup_new hs.nd hs.lt, st.g, st.dr, st.os, htk⟩
  rcases List.mem_cons.mp hp with rfl | hp
  · refine ⟨hn, Nat.ne_of_gt F.ns.lt, ?_⟩
    exact F.fresh
  · exact st.N p hp
theorem st_list_last {value slice : Expr} {D : Addr} {vs : List Value} {n : Nat} {u : Tok} (hs : notSlice slice = true) (hg : ∀ r, letTemporaryGo value (.ref D) r = pure ()) (hl : Has (D, lst vs n) led) (hne : vs ≠ []) (hz : vs.length ≤ 1000)
    (h : Q (vs.getLast hne) lo led) : WP C lo led (subscriptTail value slice (.ref D) (.int (-1) u)) Q := fun s st => by
  have hI := News.isList st.N hl.mem
  have hp := List.length_pos_iff.mpr hne
  refine subscriptTail_builtin hI.typeIs slot_list_getitem.lookup (wpAny_getItem_list_neg hI (by omega) (by rw [List.size_toArray]; omega) (by omega) ?_ ⟨lo, led, st, h⟩) (sub_eq hs) hg
  rw [List.getLast_eq_getElem, List.getElem?_toArray, List.size_toArray, show ((-1 : Int) + (vs.length : Int)).toNat = vs.length - 1 by omega, List.getElem?_eq_getElem (by omega)]
/-- for over a range -/
theorem x_for_range (hC : C.Ok k) {x : Str} {px : Pos} {iter : Expr} {body : List Stmt} {pos : Pos} {Q : Flow → Lo → Led → Prop} (hx : locB fn x = true) (hi : noSet iter = true) (p q : Nat) (hpq : p ≤ q) (hq : q ≤ 1000) (J : Nat → Lo → Led → Prop)
    (h : WP C lo led (eval iter C.env) (fun v lo led => ∃ r t u w, v = .ref r ∧ Has (r, rng (p : Int) (q : Int) t u w) led ∧ Less (J p) lo led))
    (turn : ∀ i, p ≤ i → i < q → ∀ t lo led I o, J i lo led → WP C ((x, .int (i : Int) t) :: lo) ((I, o) :: led) (execs body C.env) (Turn (J (i + 1)) I o Q))
    (done : ∀ lo led, J q lo led → Q .next lo led) : WP C lo led (exec (.For (.Name x px) iter body [] pos) C.env) Q := fun s hs => by
  refine wpAny_For (h.go hs fun v lo₁ led₁ s₁ st₁ h₁ => ?_) (fold_no (by cases iter <;> first | rfl | cases hi))
  obtain ⟨r, t, u, w, rfl, hr, lo', led', hf, hp, hJ⟩ := h₁
  have hr' := (st₁.N _ hr.mem).1
  have st₂ := st₁.less hf hp
  obtain ⟨m, F, kn⟩ := st₂.F
  have e2 : Builtin.Range.rangeSize (p : Int) (q : Int) 1 = ((q - p : Nat) : Int) := by rw [rangeSize_one]; split <;> omega
  refine wpAny_pyIter_range hr' (small_one (by omega) (by omega) (by omega) (by omega)) ?_
  refine for_core (fun i lo led => J (p + i) lo led) (Walks.range hC.hd s₁.heap.objs.size (p : Int) 1 (q - p)) (fun i h z => ⟨_, z⟩) (fun b hb => .inl (by simpa using hb)) (fun i v s R _ _ r => wpAny_pure r) (st₂.alloc (F.push _) kn (N := st₂.N.push F _ rfl) st₂.lt st₂.tk) ?_ hJ ?_ (fun lo led hJ => done lo led (by rwa [show p + (q - p) = q by omega] at hJ))
  · rw [e2]
    have e1 : (p : Int) + ((0 : Nat) : Int) * 1 = (p : Int) := by omega
    have e3 : ((q - p : Nat) : Int) - ((0 : Nat) : Int) = ((q - p : Nat) : Int) := by omega
    show IsRangeIter _ _ _ _ _
    rw [e1, e3]
    exact Heap.get?_push_size _ rfl
  · rintro i v lo led o' hi' ⟨t', rfl⟩ hJ'
    intro s hs
    have e : (p : Int) + (i : Int) * 1 = ((p + i : Nat) : Int) := by push_cast; omega
    rw [e]
    exact wpAny_assign_Name ((n_store hx (turn (p + i) (by omega) (by omega) t' lo led _ o' hJ') : WP C _ _ _ _) s hs)
theorem a_unpackL (hC : C.Ok k) {a : Addr} {items : List Value} {n kk : Nat} {elts : List Expr} {pos : Pos} {Q : Unit → Lo → Led → Prop} (hl : Has (a, lst items n) led)
    (hn : elts.length = items.length) (hp : elts.all plainE = true) (h : Asg C elts items Q lo led) : WP C lo led (assign (.Tuple elts kk pos) C.env (.ref a)) Q := fun s hs => by
  obtain ⟨m, F, kn⟩ := hs.F
  refine kun_list F hs.N (News.isList hs.N hl.mem) hC.hd (by rw [assignEach_plain hp]; simp [hn]) (by rw [assignEach_plain hp, List.findIdx?_eq_none_iff]; intro x hx; obtain ⟨e, _, rfl⟩ := List.mem_map.mp hx; rfl) fun h' F' N' => ?_
  rw [assignEach_plain hp, List.map_map]
  exact asg_run h (hs.heap F' kn N' hs.nd hs.tk)
/- a class called -/
theorem under_frames (A : Around) (Cl : Addr) (vals : List Value) (kw : List (Str × Value)) : (A.under (.builtin "type.__call__" ⟨.ref Cl :: vals, kw⟩)).frames = A.frames := by
  cases A with | mk h d f g u => cases f <;> rfl
theorem f_cls {j : Nat} (hC : C.Ok (k + 1)) (hj : j ≤ k) {Cl fI : Addr} {args : List Value} (hm : makesIn (Mine.K C.w.params) Cl = true) (hi : findIn (Mine.K C.w.params) (.ref Cl) "__init__" = some (some (.ref fI))) (hf : isFn (Mine.K C.w.params) (.ref fI) = true)
    (h : ∀ x dx, Meets j C.w fI (.ref x :: args) ((x, instObj Cl dx) :: (dx, dictOf [] 0) :: led) (fun v led' => v = .none ∧ Q (.ref x) lo led')) : WP C lo led (call (.ref Cl) args) Q := fun s hs => by
  obtain ⟨m, F, kn⟩ := hs.F
  refine call_cls F hC.X hs.N hm hi hf fun x dx h' F' N' lt hlt => ?_
  let C' : Cx fn := { C with A := C.A.under (.builtin "type.__call__" ⟨.ref Cl :: args, []⟩) }
  have ok : C'.Ok k := ⟨hC.B, hC.X, hC.T, (under_frames C.A Cl args []).trans hC.fr, hC.kd, hC.hd, by have := hC.dp; show C.A.depth + 1 + k < _; omega, by have := hC.un; show C.A.units + 1 + 16 * k < _; omega⟩
  have nd : (((x, instObj Cl dx) :: (dx, dictOf [] 0) :: led).map (·.1)).Nodup := by
    refine nodup_new (nodup_new hs.nd lt) fun p hp => ?_
    rcases List.mem_cons.mp hp with rfl | hp
    · exact hlt
    · exact Nat.lt_trans (lt p hp) hlt
  have st : St C' lo ((x, instObj Cl dx) :: (dx, dictOf [] 0) :: led) { s with heap := h' } := ⟨⟨m, F', kn⟩, N', nd, hs.g, hs.dr, hs.os, hs.tk⟩
  refine codeAny_mono (h x dx fn C' lo rfl (ok.le hj) _ st) fun r s' z => ?_
  match r, z with
  | .ok (.ret v), ⟨led', a, hv, b⟩ => exact ⟨hv, lo, led', ⟨a.F, a.N, a.nd, a.g, a.dr, a.os, a.tk⟩, b⟩
end
end Mine
end
section
open PySem PySem.W PyProof.Rows PySem.Spec PySem.Calls
set_option Elab.async false
set_option genInjectivity false
set_option genSizeOf false
set_option linter.unusedVariables false
set_option maxRecDepth 100000
namespace Mine
structure KX where
  k : Addr
  d : Addr
  lf : Addr
  kt : Nat → Tok
/-- the tokenizer's objects -/
abbrev kObjs (w : World) (K : KX) (X : SX) (stv curv : Value) (qa : Addr) (q : List Value) (n : Nat) (r : Led) : Led :=
  (K.k, instObj 762 K.d) :: (K.d, dictOf (kDict w.params K.kt (.ref X.x) .none (.bool false) (.ref K.lf) stv (.bool false) curv (.ref qa)) 8) :: (qa, lst q n) :: r
def tagKvs (g : Tag) (b : Addr) (t1 t2 : Tok) : List (Str × Value) :=
  (Str.ofString "type", .int (if g.close then 4 else 3) t1) :: (Str.ofString "name", .str (S g.name) t2) :: (Str.ofString "data", .ref b) :: (Str.ofString "selfClosing", .bool false) :: (if g.close then [] else [(Str.ofString "selfClosingAcknowledged", .bool false)])
def DataOf (g : Tag) (b : Addr) (o : Obj) : Prop := if (g.given && !g.close) = true then o = emptyDict ∧ (b == sysModules) = false else ∃ n, o = lst [] n
/-- the current token -/
def CurLed (w : World) (cv : Value) : Option Tag → Led → Led → Prop
  | none, r, l => cv = .none ∧ l = r
  | some g, r, l => ∃ a o b ob t1 t2, cv = .ref a ∧ DictIs w a o (tagKvs g b t1 t2) ∧ DataOf g b ob ∧ l = (a, o) :: (b, ob) :: r
inductive All2 {α β : Type} (R : α → β → Prop) : List α → List β → Prop where
  | nil : All2 R [] []
  | cons {a b l m} : R a b → All2 R l m → All2 R (a :: l) (b :: m)
theorem All2.len {α β : Type} {R : α → β → Prop} {l : List α} {m : List β} (h : All2 R l m) : l.length = m.length := by
  induction h with
  | nil => rfl
  | cons _ _ ih => simp [ih]
theorem All2.mono {α β : Type} {R R' : α → β → Prop} {l : List α} {m : List β} (h : All2 R l m) (k : ∀ a b, R a b → R' a b) : All2 R' l m := by
  induction h with
  | nil => exact .nil
  | cons a _ ih => exact .cons (k _ _ a) ih
theorem All2.snoc {α β : Type} {R : α → β → Prop} {l : List α} {m : List β} (h : All2 R l m) {a : α} {b : β} (k : R a b) : All2 R (l ++ [a]) (m ++ [b]) := by
  induction h with
  | nil => exact .cons k .nil
  | cons a _ ih => exact .cons a ih
theorem All2.get {α β : Type} {R : α → β → Prop} {l : List α} {m : List β} (h : All2 R l m) : ∀ (i : Nat) (h1 : i < l.length) (h2 : i < m.length), R l[i] m[i] := by
  induction h with
  | nil => exact fun i h1 => by simp at h1
  | cons a _ ih =>
    intro i h1 h2
    cases i with
    | zero => exact a
    | succ i => exact ih i (by simpa using h1) (by simpa using h2)
/-- a token of the queue -/
inductive ToldTok (w : World) (l : Led) : Value → Told → Prop where
  | two {a o ty s t1 t2} : (a, o) ∈ l → DictIs w a o [(Str.ofString "type", .int ty t1), (Str.ofString "data", .str s t2)] → ToldTok w l (.ref a) (.two ty s)
  | three {a o b o2 ty s x t1 t2 t3} : (a, o) ∈ l → (b, o2) ∈ l → DictIs w a o [(Str.ofString "type", .int ty t1), (Str.ofString "data", .str s t2), (Str.ofString "datavars", .ref b)] →
      DictIs w b o2 [(Str.ofString "data", .str x t3)] → ToldTok w l (.ref a) (.three ty s x)
  | tag {a o b ob g t1 t2} : (a, o) ∈ l → (b, ob) ∈ l → DictIs w a o (tagKvs g b t1 t2) → DataOf g b ob → ToldTok w l (.ref a) (.tag g)
/-- what is told of a token -/
inductive ToldTup (l : Led) : List Value → Told → Prop where
  | two {ty s t1 t2} : ToldTup l [.int ty t1, .str s t2] (.two ty s)
  | three {ty s x t1 t2 t3} : ToldTup l [.int ty t1, .str s t2, .str x t3] (.three ty s x)
  | tag {g b ob t1 t2} : (b, ob) ∈ l → DataOf g b ob → ToldTup l [.int (if g.close then 4 else 3) t1, .str (S g.name) t2, .ref b, .bool false, if g.close then .none else .bool false] (.tag g)
def ToldRep (l : Led) (v : Value) (x : Told) : Prop := ∃ a its, v = .ref a ∧ (a, tup its) ∈ l ∧ ToldTup l its x
def TagRep (l : Led) (v : Value) : Option Tag → Prop
  | none => v = .none
  | some g => ToldRep l v (.tag g)
theorem ToldTok.mono {w : World} {l l' : Led} (k : ∀ p ∈ l, p ∈ l') {v : Value} {x : Told} (h : ToldTok w l v x) : ToldTok w l' v x := by
  cases h with
  | two a b => exact .two (k _ a) b
  | three a b c d => exact .three (k _ a) (k _ b) c d
  | tag a b c d => exact .tag (k _ a) (k _ b) c d
theorem ToldTup.mono {l l' : Led} (k : ∀ p ∈ l, p ∈ l') {v : List Value} {x : Told} (h : ToldTup l v x) : ToldTup l' v x := by
  cases h with
  | two => exact .two
  | three => exact .three
  | tag b d => exact .tag (k _ b) d
theorem ToldRep.mono {l l' : Led} (k : ∀ p ∈ l, p ∈ l') {v : Value} {x : Told} (h : ToldRep l v x) : ToldRep l' v x :=
  let ⟨a, its, e, hm, ht⟩ := h; ⟨a, its, e, k _ hm, ht.mono k⟩
theorem TagRep.mono {l l' : Led} (k : ∀ p ∈ l, p ∈ l') {v : Value} {x : Option Tag} (h : TagRep l v x) : TagRep l' v x := by
  cases x with
  | none => exact h
  | some g => exact ToldRep.mono k h
theorem DataOf.alike {l : Led} {g : Tag} {a b : Addr} {oa ob : Obj} (ha : (a, oa) ∈ l) (hb : (b, ob) ∈ l) (h : DataOf g a oa) (k : DataOf g b ob) {n : Nat} : Alike l (n + 1) (.ref a) (.ref b) := by
  unfold DataOf at h k
  split at h
  · rename_i e
    rw [if_pos e] at k
    obtain ⟨rfl, h⟩ := h; obtain ⟨rfl, k⟩ := k
    exact .dict0 ha hb h k
  · rename_i e
    rw [if_neg e] at k
    obtain ⟨m, rfl⟩ := h; obtain ⟨n, rfl⟩ := k
    exact .lst ha hb rfl fun j h1 => by simp at h1
theorem alike_nil {l : Led} {n : Nat} : ∀ j (h1 : j < ([] : List Value).length) (h2 : j < ([] : List Value).length), Alike l n ([] : List Value)[j] ([] : List Value)[j] := fun j h1 => by simp at h1
theorem alike_cons {l : Led} {n : Nat} {a b : Value} {x y : List Value} (h : Alike l n a b) (k : ∀ j (h1 : j < x.length) (h2 : j < y.length), Alike l n x[j] y[j]) :
    ∀ j (h1 : j < (a :: x).length) (h2 : j < (b :: y).length), Alike l n (a :: x)[j] (b :: y)[j] := fun j h1 h2 => by
  cases j with
  | zero => exact h
  | succ j => exact k j (by simpa using h1) (by simpa using h2)
theorem ToldTup.alike {l : Led} {x : Told} {a b : List Value} (h : ToldTup l a x) (k : ToldTup l b x) : a.length = b.length ∧ ∀ j (h1 : j < a.length) (h2 : j < b.length), Alike l 7 a[j] b[j] := by
  cases h with
  | two => cases k; exact ⟨rfl, alike_cons .int (alike_cons .str alike_nil)⟩
  | three => cases k; exact ⟨rfl, alike_cons .int (alike_cons .str (alike_cons .str alike_nil))⟩
  | tag hb hd => cases k with | tag kb kd => exact ⟨rfl, alike_cons .int (alike_cons .str (alike_cons (hd.alike hb kb kd) (alike_cons .same (alike_cons .same alike_nil))))⟩
theorem Alike.up {l : Led} : ∀ {n : Nat} {a b : Value}, Alike l n a b → Alike l (n + 1) a b
  | _, _, _, .same => .same
  | _, _, _, .int => .int
  | _, _, _, .str => .str
  | _, _, _, .tup a b c d => .tup a b c fun j h1 h2 => (d j h1 h2).up
  | _, _, _, .lst a b c d => .lst a b c fun j h1 h2 => (d j h1 h2).up
  | _, _, _, .dict0 a b c d => .dict0 a b c d
theorem ToldRep.alike {l : Led} {x : Told} {a b : Value} (h : ToldRep l a x) (k : ToldRep l b x) : Alike l 8 a b := by
  obtain ⟨a, xs, rfl, hm, ht⟩ := h
  obtain ⟨b, ys, rfl, km, kt⟩ := k
  obtain ⟨e, z⟩ := ht.alike kt
  exact .tup hm km e z
def callStr : Call → Str
  | .data => Str.ofString "data"
  | .tag => Str.ofString "tag"
  | .close => Str.ofString "close"
  | .name => Str.ofString "name"
  | .bogus => Str.ofString "bogus"
def RowRep (l : Led) (v : Value) (row : Row) : Prop := ∃ a hv tl tvs n t1 t2, v = .ref a ∧ (a, tup [.str (callStr row.call) t1, .bool row.leaves, hv, .int (row.place : Int) t2, .ref tl]) ∈ l ∧ TagRep l hv row.held ∧ (tl, lst tvs n) ∈ l ∧ All2 (ToldRep l) tvs row.told
theorem RowRep.mono {l l' : Led} (k : ∀ p ∈ l, p ∈ l') {v : Value} {x : Row} (h : RowRep l v x) : RowRep l' v x := by
  obtain ⟨a, hv, tl, tvs, n, t1, t2, e, h1, h2, h3, h4⟩ := h
  exact ⟨a, hv, tl, tvs, n, t1, t2, e, k _ h1, h2.mono k, k _ h3, h4.mono fun _ _ z => z.mono k⟩
section
variable {fn : Fn} {C : Cx fn} {lo : Lo} {led led' : Led} {k : Nat} {Q : Value → Lo → Led → Prop}
theorem c_netag (hC : C.Ok k) (hk : 1 ≤ k) {v u : Value} {x : Option Tag} (h : TagRep led v x) (h' : TagRep led u x) (q : Q (.bool false) lo led) : WP C lo led (compareOp .NotEq v u) Q := by
  cases x with
  | none => cases h; cases h'; exact c_nenn q
  | some g =>
    obtain ⟨a, xs, rfl, hm, ht⟩ := h
    obtain ⟨b, ys, rfl, km, kt⟩ := h'
    obtain ⟨e, z⟩ := ht.alike kt
    exact c_net hC hk hm km e (fun j h1 h2 => (z j h1 h2).up) q
theorem c_netold (hC : C.Ok k) (hk : 1 ≤ k) {a b : Addr} {vs us : List Value} {m n : Nat} {ts : List Told} (ha : (a, lst vs m) ∈ led) (hb : (b, lst us n) ∈ led) (h : All2 (ToldRep led) vs ts) (h' : All2 (ToldRep led) us ts) (q : Q (.bool false) lo led) :
    WP C lo led (compareOp .NotEq (.ref a) (.ref b)) Q :=
  c_nel hC hk ha hb (by rw [h.len, h'.len]) (fun j h1 h2 => (h.get j h1 (by rw [← h.len]; exact h1)).alike (h'.get j h2 (by rw [← h.len]; exact h1))) q
end
/-- what a call of a state leaves -/
def Lv (b : Bool) (stv : Value) : Prop := match b with
  | true => ∃ a, stv = .ref a
  | false => stv = .none
def Post (w : World) (K : KX) (X : SX) (qa : Addr) (r : Led) (lv : Bool) (h' : Option Tag) (p' : Nat) (t : List Told) (l' : Led) : Prop :=
  ∃ v' cv' stv' q' n' crest' cr, SLed w X v' (kObjs w K X stv' cv' qa q' n' cr) l' ∧ Part crest' cr ∧ CurLed w cv' h' r crest' ∧ Lv lv stv' ∧ All2 (ToldTok w cr) q' t ∧ Inv X v' p'
end Mine
end
section
open PySem PySem.W PyProof.Rows PySem.Spec PySem.Calls
set_option Elab.async false
set_option linter.unusedVariables false
set_option maxRecDepth 100000
set_option maxHeartbeats 0
namespace Mine
theorem nd1 : [Str.ofString "data"].Nodup := by decide +kernel
theorem nd2 : [Str.ofString "type", Str.ofString "data"].Nodup := by decide +kernel
theorem nd3 : [Str.ofString "type", Str.ofString "data", Str.ofString "datavars"].Nodup := by decide +kernel
theorem nd4 : [Str.ofString "type", Str.ofString "name", Str.ofString "data", Str.ofString "selfClosing"].Nodup := by decide +kernel
theorem nd5 : [Str.ofString "type", Str.ofString "name", Str.ofString "data", Str.ofString "selfClosing", Str.ofString "selfClosingAcknowledged"].Nodup := by decide +kernel
section
variable {g : Tag} {b : Addr} {t1 t2 : Tok}
theorem tv_type : valueAt (tagKvs g b t1 t2) (Str.ofString "type") = some (.int (if g.close then 4 else 3) t1) := by kernel_rfl
theorem tv_name : valueAt (tagKvs g b t1 t2) (Str.ofString "name") = some (.str (S g.name) t2) := by kernel_rfl
theorem tv_data : valueAt (tagKvs g b t1 t2) (Str.ofString "data") = some (.ref b) := by kernel_rfl
theorem tv_sc : valueAt (tagKvs g b t1 t2) (Str.ofString "selfClosing") = some (.bool false) := by kernel_rfl
theorem tv_ack : (valueAt (tagKvs g b t1 t2) (Str.ofString "selfClosingAcknowledged")).getD .none = if g.close then .none else .bool false := by
  obtain ⟨c, n, gv⟩ := g
  cases c <;> kernel_rfl
theorem ts_name {v : List Nat} {t : Tok} : stored (tagKvs g b t1 t2) (Str.ofString "name") (.str (S v) t) = tagKvs { g with name := v } b t1 t := by
  obtain ⟨c, n, gv⟩ := g
  cases c <;> kernel_rfl
theorem ts_data {b' : Addr} {gv : Bool} : stored (tagKvs g b t1 t2) (Str.ofString "data") (.ref b') = tagKvs { g with given := gv } b' t1 t2 := by
  obtain ⟨c, n, gv'⟩ := g
  cases c <;> kernel_rfl
end
theorem S1 (c d : Nat) : (S [c] == S [d]) = decide (c = d) := by rw [S_beq]; simp
/- the rows of signs of the top -/
theorem spaces_lit (w : World) : ∃ l dd sl n, (Mine.K w.params).lookup 22 = some ⟨.type "tuple", dd, .seq l.toArray n, sl⟩ ∧ StrsAre l (([9, 10, 12, 32, 13] : List Nat).map fun c => S [c]) := by
  refine ⟨_, _, _, _, by k_is, ?_⟩
  repeat' constructor
theorem letters_lit (w : World) : ∃ l dd sl n, (Mine.K w.params).lookup 27 = some ⟨.type "tuple", dd, .seq l.toArray n, sl⟩ ∧ StrsAre l (letters.map fun c => S [c]) := by
  refine ⟨_, _, _, _, by k_is, ?_⟩
  repeat' constructor
theorem tags_lit (w : World) : ∃ l dd sl n, (Mine.K w.params).lookup 49 = some ⟨.type "tuple", dd, .seq l.toArray n, sl⟩ ∧ IntsAre l [3, 4, 5] := by
  refine ⟨_, _, _, _, by k_is, ?_⟩
  repeat' constructor
section
variable {fn : Fn} {C : Cx fn} {lo : Lo} {led led' : Led} {k : Nat} {Q : Value → Lo → Led → Prop}
theorem c_spaces (hC : C.Ok k) {c : Nat} {t : Tok} (h : Q (.bool (decide (c ∈ [9, 10, 12, 32, 13]))) lo led) : WP C lo led (compareOp .In (.str (S [c]) t) (.ref 22)) Q := by
  obtain ⟨l, dd, sl, n, hl, hi⟩ := spaces_lit C.w
  exact c_intK hC hl hi (by rw [any_S]; exact h)
theorem c_letters (hC : C.Ok k) {c : Nat} {t : Tok} (h : Q (.bool (decide (c ∈ letters))) lo led) : WP C lo led (compareOp .In (.str (S [c]) t) (.ref 27)) Q := by
  obtain ⟨l, dd, sl, n, hl, hi⟩ := letters_lit C.w
  exact c_intK hC hl hi (by rw [any_S]; exact h)
theorem c_spaces0 (hC : C.Ok k) (h : Q (.bool false) lo led) : WP C lo led (compareOp .In .none (.ref 22)) Q := by
  obtain ⟨l, dd, sl, n, hl, hi⟩ := spaces_lit C.w
  exact c_innK hC hl hi h
theorem c_letters0 (hC : C.Ok k) (h : Q (.bool false) lo led) : WP C lo led (compareOp .In .none (.ref 27)) Q := by
  obtain ⟨l, dd, sl, n, hl, hi⟩ := letters_lit C.w
  exact c_innK hC hl hi h
theorem c_tags (hC : C.Ok k) {i : Int} {t : Tok} (h : Q (.bool ([3, 4, 5].any (· == i))) lo led) : WP C lo led (compareOp .In (.int i t) (.ref 49)) Q := by
  obtain ⟨l, dd, sl, n, hl, hi⟩ := tags_lit C.w
  exact c_intIK hC hl hi h
end
theorem InRow.spaces {w : World} {r : Led} : InRow w (.ref 22) (fun c => decide (c ∈ [9, 10, 12, 32, 13])) r := fun hC hw _ h => by
  subst hw; exact c_spaces hC h
theorem blank_space {c : Nat} (h : c ≠ 13) : decide (c ∈ [9, 10, 12, 32, 13]) = decide (c ∈ blanks) := by
  unfold blanks
  simp only [List.mem_cons, List.not_mem_nil, or_false]
  by_cases h1 : c = 9 <;> by_cases h2 : c = 10 <;> by_cases h3 : c = 12 <;> by_cases h4 : c = 32 <;> simp_all
end Mine
end
section
open PySem PySem.W PyProof.Rows PySem.Spec PySem.Calls
set_option Elab.async false
set_option linter.unusedVariables false
set_option maxRecDepth 100000
namespace Mine
theorem lit_amp : Str.ofString "&" = S [38] := by decide +kernel
theorem lit_lt : Str.ofString "<" = S [60] := by decide +kernel
theorem lit_nul : Str.ofString "\x00" = S [0] := by decide +kernel
theorem lit_bang : Str.ofString "!" = S [33] := by decide +kernel
theorem lit_slash : Str.ofString "/" = S [47] := by decide +kernel
theorem lit_gt : Str.ofString ">" = S [62] := by decide +kernel
theorem lit_ask : Str.ofString "?" = S [63] := by decide +kernel
theorem lit_rep : Str.ofString "\uFFFD" = S [65533] := by decide +kernel
theorem lit_ltgt : Str.ofString "<>" = S [60, 62] := by decide +kernel
theorem lit_ltslash : Str.ofString "</" = S [60, 47] := by decide +kernel
section
variable {fn : Fn} {C : Cx fn} {lo : Lo} {led led' : Led} {k : Nat} {Q : Value → Lo → Led → Prop}
theorem tr_list {D : Addr} {vs : List Value} {n : Nat} {Q : Bool → Lo → Led → Prop} (hl : Has (D, lst vs n) led) (hz : vs.length ≤ 1000) (h : Q (!vs.isEmpty) lo led) : WP C lo led (truthy (.ref D)) Q := fun s hs => by
  refine wpAny_truthy_list (News.isList hs.N hl.mem) (by rw [List.size_toArray]; omega) ?_
  rw [List.isEmpty_toArray]
  exact ⟨lo, led, hs.toks _, h⟩
theorem WP.toT {α : Type} {X : SX} {v : SV} {T : STk} {t : Sem α} {Q : α → Lo → Led → Prop} {r : Led} (hp : PickS C.w X v T led r) (h : WP C lo (sObjT C.w X v T r) t Q) : WP C lo led t Q := h.part (hp.part (Part.refl _))
theorem st_dictA {value slice : Expr} {d : Addr} {o : Obj} {kvs : List (Str × Value)} {x : Str} {t : Tok} {v : Value} (hp : Has (d, o) led) (hd : DictIs C.w d o kvs) (hs : notSlice slice = true) (hl : valueAt kvs x = some v) (h : Q v lo led) :
    WP C lo led (subscriptTail value slice (.ref d) (.str x t)) Q := fun s st =>
  have hD := kda_dict (knd := PySem.strKind PG C.w) st.N hp.mem hd.1
  tail_any hD.typeIs slot_dict_getitem.lookup (wpAny_getItem_of (k := x) (is_str _ _ _) hD.mapOf hl ⟨lo, led, st.toks _, h⟩) (sub_eq hs)
theorem tag_len {g : Tag} {b : Addr} {t1 t2 : Tok} : (tagKvs g b t1 t2).length ≤ 100 := by
  obtain ⟨c, n, gv⟩ := g
  cases c <;> exact Nat.le_of_ble_eq_true rfl
theorem d_setname {a b : Addr} {o : Obj} {g : Tag} {t1 t2 t0 t : Tok} {v : List Nat} {r : Led} {Q : Unit → Lo → Led → Prop} (hp : Pick1 (a, o) led r) (hd : DictIs C.w a o (tagKvs g b t1 t2))
    (h : ∀ o', DictIs C.w a o' (tagKvs { g with name := v } b t1 t) → Q () lo ((a, o') :: r)) : WP C lo led (setItem (.ref a) (.str (Str.ofString "name") t0) (.str (S v) t)) Q :=
  d_set hp hd tag_len fun o' hd' => h o' (by rw [ts_name] at hd'; exact hd')
theorem d_setdata {a b b' : Addr} {o : Obj} {g : Tag} {t1 t2 t0 : Tok} {r : Led} {Q : Unit → Lo → Led → Prop} (hp : Pick1 (a, o) led r) (hd : DictIs C.w a o (tagKvs g b t1 t2))
    (h : ∀ o', DictIs C.w a o' (tagKvs { g with given := true } b' t1 t2) → Q () lo ((a, o') :: r)) : WP C lo led (setItem (.ref a) (.str (Str.ofString "data") t0) (.ref b')) Q :=
  d_set hp hd tag_len fun o' hd' => h o' (by rw [ts_data (gv := true)] at hd'; exact hd')
theorem d_getname {a b : Addr} {o : Obj} {g : Tag} {t1 t2 t0 : Tok} (hp : Has (a, o) led) (hd : DictIs C.w a o (tagKvs g b t1 t2)) (h : Q (.str (S g.name) t2) lo led) : WP C lo led (getItem (.ref a) (.str (Str.ofString "name") t0)) Q :=
  d_get hp hd tv_name h
end
theorem InRow.tup {w : World} {a : Addr} {vs : List Value} {n : Nat} {l : List Nat} {r : Led} (h : Has (a, { cls := .type "tuple", data := .seq vs.toArray n }) r) (hi : StrsAre vs (l.map fun c => S [c])) : InRow w (.ref a) (fun c => decide (c ∈ l)) r :=
  fun hC hw up q => c_intL (up _ h) hi (by rw [any_S]; exact q)
theorem Part.pickS3 {w : World} {X : SX} {v : SV} {T : STk} {led r0 r1 r2 r3 : Led} {p1 p2 p3 : Addr × Obj} (h0 : PickS w X v T led r0) (h1 : Pick1 p1 r0 r1) (h2 : Pick1 p2 r1 r2) (h3 : Pick1 p3 r2 r3) : Part (sObjT w X v T (p1 :: p2 :: p3 :: r3)) led :=
  h0.part (.cons h1 (.cons h2 (.cons h3 (Part.refl _))))
theorem Part.pickS3P {w : World} {X : SX} {v : SV} {T : STk} {led r0 r1 r2 r3 c : Led} {p1 p2 p3 : Addr × Obj} (h0 : PickS w X v T led r0) (h1 : Pick1 p1 r0 r1) (h2 : Pick1 p2 r1 r2) (h3 : Pick1 p3 r2 r3) (hc : Part c r3) : Part (sObjT w X v T (p1 :: p2 :: p3 :: c)) led :=
  h0.part (.cons h1 (.cons h2 (.cons h3 hc)))
theorem Post.ofT {w : World} {K : KX} {X : SX} {qa : Addr} {r : Led} {lv : Bool} {h' : Option Tag} {p' : Nat} {t : List Told} {v : SV} {cv stv : Value} {q : List Value} {n : Nat} {crest cr l : Led}
    (hs : SLed w X v (kObjs w K X stv cv qa q n cr) l) (hp : Part crest cr) (hc : CurLed w cv h' r crest) (hl : Lv lv stv) (ht : All2 (ToldTok w cr) q t) (hI : Inv X v p') : Post w K X qa r lv h' p' t l := ⟨v, cv, stv, q, n, crest, cr, hs, hp, hc, hl, ht, hI⟩
theorem Part.skip {a b : Led} {p : Addr × Obj} (h : Part a b) : Part a (p :: b) := by
  obtain ⟨j, q⟩ := h
  exact ⟨p :: j, (q.cons p).trans List.perm_middle.symm⟩
theorem CurLed.rest {w : World} {cv : Value} {h : Option Tag} {r l : Led} (x : CurLed w cv h r l) : Part r l := by
  cases h with
  | none => obtain ⟨_, rfl⟩ := x; exact Part.refl _
  | some g => obtain ⟨a, o, b, ob, t1, t2, _, _, _, rfl⟩ := x; exact (Part.refl _).skip.skip
theorem va_here {x : Str} {v : Value} {r : List (Str × Value)} : valueAt ((x, v) :: r) x = some v := by simp [valueAt]
theorem va_there {x y : Str} {u v : Value} {r : List (Str × Value)} (h : (x == y) = false) (k : valueAt r y = some v) : valueAt ((x, u) :: r) y = some v := by
  have h' : ¬ x = y := beq_eq_false_iff_ne.mp h
  simpa [valueAt, h'] using k
theorem All2.q1 {α β : Type} {R : α → β → Prop} {a : α} {x : β} (h : R a x) : All2 R ([] ++ [a]) [x] := .cons h .nil
theorem All2.q2 {α β : Type} {R : α → β → Prop} {a b : α} {x y : β} (h : R a x) (k : R b y) : All2 R ([] ++ [a] ++ [b]) [x, y] := .cons h (.cons k .nil)
theorem take_one {M : List Nat} {p e c : Nat} (hc : M[p]? = some c) (he : p + 1 ≤ e) : [c] ++ (M.take e).drop (p + 1) = (M.take e).drop p := by
  have hp : p < M.length := by
    rcases Nat.lt_or_ge p M.length with z | z
    · exact z
    · rw [List.getElem?_eq_none z] at hc; cases hc
  have hpe : p < (M.take e).length := by rw [List.length_take]; omega
  rw [List.drop_eq_getElem_cons hpe, List.getElem_take, List.singleton_append]
  congr 1
  rw [List.getElem?_eq_getElem hp] at hc
  exact (Option.some.inj hc).symm
end Mine
end
section
open PySem PySem.W PyProof.Rows PySem.Spec PySem.Calls
set_option Elab.async false
set_option linter.unusedVariables false
set_option maxRecDepth 100000
namespace Mine
theorem ToldRep.two2 {l : Led} {a : Addr} {ty : Int} {s : Str} {t1 t2 : Tok} (h : (a, tup [.int ty t1, .str s t2]) ∈ l) : ToldRep l (.ref a) (.two ty s) := ⟨a, _, rfl, h, .two⟩
theorem ToldRep.three2 {l : Led} {a : Addr} {ty : Int} {s x : Str} {t1 t2 t3 : Tok} (h : (a, tup [.int ty t1, .str s t2, .str x t3]) ∈ l) : ToldRep l (.ref a) (.three ty s x) := ⟨a, _, rfl, h, .three⟩
theorem lit_empty2 : Str.ofString "" = S [] := by decide +kernel
section
variable {fn : Fn} {C : Cx fn} {lo : Lo} {led led' : Led} {k : Nat}
theorem x_swap2 (hC : C.Ok k) {e1 e2 : Expr} {kk : Nat} {tpos : Pos} {value : Expr} {pos : Pos} {x y : Str} {Q : Flow → Lo → Led → Prop} (hs : swapsWithSole [.Tuple [e1, e2] kk tpos] value pos.line C.env = pure false) (hw : swappedStores [.Tuple [e1, e2] kk tpos] value C.env = pure (some [x, y]))
    (hx : locB fn x = true) (hy : locB fn y = true) (h : WP C lo led (eval value C.env) (fun v lo led => ∃ a u1 u2, v = .ref a ∧ Has (a, tup [u1, u2]) led ∧ Q .next ((x, u1) :: (y, u2) :: lo) led)) :
    WP C lo led (exec (.Assign [.Tuple [e1, e2] kk tpos] value pos) C.env) Q := fun s st => by
  refine Assign_Tuple_swapped (h.go st fun v lo₁ led₁ s₁ st₁ h₁ => ?_) hs hw
  obtain ⟨a, u1, u2, rfl, ha, hq⟩ := h₁
  have ht : IsTup s₁.heap a #[u1, u2] := News.isTup st₁.N (items := #[u1, u2]) (n := 0) ha.mem
  refine unpackItems_tuple (items := #[u1, u2]) hC.hd ht fun h' he => ?_
  have st₂ := st₁.ext he
  show wpAny _ _ (assignInOrder [bindName C.env y, bindName C.env x] [u2, u1]) _ _ _
  refine wpAny_bind (wpAny_holding (bindName_ ((n_store hy ⟨rfl, rfl⟩ : WP C lo₁ led₁ _ (fun _ lo' led' => lo' = (y, u2) :: lo₁ ∧ led' = led₁)).go st₂ fun _ lo' led' s' a b => ?_)))
  obtain ⟨rfl, rfl⟩ := b
  refine wpAny_bind (wpAny_holding (bindName_ ((n_store hx hq : WP C _ _ _ (fun _ => Q .next)).go a fun _ lo' led' s' a b => ?_)))
  exact wpAny_pure ⟨lo', led', a, b⟩
end
end Mine
end
section
open PySem PySem.W PyProof.Rows PySem.Spec PySem.Calls
set_option Elab.async false
set_option linter.unusedVariables false
set_option maxRecDepth 100000
namespace Mine
theorem lit_blanks : Str.ofString " \t\n\x0c" = S blanks := by decide +kernel
theorem lit_stop3 : Str.ofString "&<\x00" = S [38, 60, 0] := by decide +kernel
theorem lit_letters : Str.ofString "abcdefghijklmnopqrstuvwxyzABCDEFGHIJKLMNOPQRSTUVWXYZ" = S letters := by decide +kernel
theorem lit_slashgt : Str.ofString "/>" = S [47, 62] := by decide +kernel
section
variable {fn : Fn} {C : Cx fn} {lo : Lo} {led led' : Led} {k : Nat} {Q : Value → Lo → Led → Prop}
/-- a comprehension over a tuple made on the spot -/
theorem e_comp_tupN (hC : C.Ok k) {elt iter : Expr} {x : Str} {px : Pos} {ifs : List Expr} {scope : Scope} {pos : Pos} (hb : compB scope x = true) (hi : noSet iter = true) (P : List Value → Prop) (J : Addr → List Value → Nat → List Value → Led → Prop)
    (hJl : ∀ ax vs i ys led, J ax vs i ys led → (ax, tup vs) ∈ led)
    (h : WP C lo led (eval iter C.env) (fun v lo' led' => lo' = lo ∧ ∃ ax vs, v = .ref ax ∧ vs.length ≤ 1000 ∧ P vs ∧ J ax vs 0 [] led'))
    (turn : ∀ ax vs, P vs → ∀ i (hi : i < vs.length) ys led I oI c oC D nn, J ax vs i ys led → CObj oC x vs[i] → WP C lo ((I, oI) :: (c, oC) :: (D, lst ys nn) :: led) (tst ifs (compEnv scope c C.env))
      (fun b lo' led' => lo' = lo ∧ Br b (WP C lo led' (eval elt (compEnv scope c C.env)) (fun y lo'' led'' => lo'' = lo ∧ ∃ l, Part ((I, oI) :: (c, oC) :: (D, lst ys nn) :: l) led'' ∧ J ax vs (i + 1) (ys ++ [y]) l))
        (∃ l, Part ((I, oI) :: (c, oC) :: (D, lst ys nn) :: l) led' ∧ J ax vs (i + 1) ys l)))
    (done : ∀ ax vs, P vs → ∀ ys led D nn, ys.length ≤ vs.length → J ax vs vs.length ys led → Q (.ref D) lo ((D, lst ys nn) :: led)) :
    WP C lo led (eval (.ListComp elt [⟨.Name x px, iter, ifs, 0⟩] scope pos) C.env) Q := fun s hs => by
  obtain ⟨hkind, hx, hfree, hcell, hnames⟩ := compB_of hb
  refine wpAny_ListComp hfree hkind hnames (h.go hs fun v lo₁ led₁ s₁ st₁ h₁ => ?_) (fold_no (by cases iter <;> first | rfl | cases hi))
  obtain ⟨rfl, ax, vs, rfl, hl, hP, hJ⟩ := h₁
  have hm := hJl _ _ _ _ _ hJ
  obtain ⟨m, F, kn⟩ := st₁.F
  have hIs := News.isTup st₁.N hm
  have hlt : ax < s₁.heap.objs.size := st₁.lt _ hm
  have hsz : vs.toArray.size = vs.length := by simp
  refine wpAny_pyIter_tuple hIs ?_
  refine comp_core (elt := elt) (iter := iter) (px := px) (ifs := ifs) (pos := pos) (Q := Q) (J ax vs) (Walks.tuple hC.hd s₁.heap.objs.size ax (Nat.ne_of_lt hlt) vs.toArray) (by rw [hsz]; exact hl) (fun i h z => let ⟨o, ho, _⟩ := z.1; ⟨o, ho⟩) (fun b hb => ?_) hb
    (st₁.alloc (F.push _) kn (N := st₁.N.push F _ rfl) st₁.lt st₁.tk) ⟨⟨_, Heap.get?_push_size _ rfl, rfl, rfl⟩, IsTup.push hIs _⟩ hJ
    (fun i v ys led I oI c oC D nn hi' hv hJ' hCo => ?_) (fun ys led D nn hyl hJ' => by rw [hsz] at hyl hJ'; exact done ax vs hP ys led D nn hyl hJ')
  · rcases List.mem_cons.mp hb with rfl | hb
    · exact .inl rfl
    · rw [List.mem_singleton.mp hb]; exact .inr ⟨tup vs, hJl ax vs⟩
  · have hi'' : i < vs.length := by rw [hsz] at hi'; exact hi'
    have hv' : v = vs[i] := by have : vs.toArray[i]? = some vs[i] := by simp [hi'']
                               rw [this] at hv; exact (Option.some.inj hv).symm
    subst hv'
    exact turn ax vs hP i hi'' ys led I oI c oC D nn hJ' hCo
end
theorem ln0 {vs : List Value} (h : vs.length ≤ 900) : vs.length ≤ 1000 := by omega
theorem ln1 {vs : List Value} {a : Value} (h : vs.length ≤ 900) : (vs ++ [a]).length ≤ 1000 := by rw [List.length_append]; simp only [List.length_cons, List.length_nil]; omega
theorem ln2 {vs : List Value} {a b : Value} (h : vs.length ≤ 900) : (vs ++ [a] ++ [b]).length ≤ 1000 := by rw [List.length_append, List.length_append]; simp only [List.length_cons, List.length_nil]; omega
theorem S1n (c d : Nat) : (S [c] != S [d]) = !decide (c = d) := by unfold bne; rw [S1]
theorem ints_snoc {vs : List Value} {ns : List Int} {i : Int} {t : Tok} (h : IntsAre vs ns) : IntsAre (vs ++ [.int i t]) (ns ++ [i]) := by
  induction h with
  | nil => exact .cons _ _ .nil
  | cons n t _ ih => exact .cons _ _ ih
/-- what the table holds so far -/
def Facts (M : List Nat) (tb : Led) (vs : List Value) (rows : List Row) (hv : Value) (h : Option Tag) (p b : Nat) : Prop := All2 (RowRep tb) vs rows ∧ TagRep tb hv h ∧ Chain M 0 none rows p h ∧ rows.length ≤ b
theorem Facts.add {M : List Nat} {tb : Led} {vs : List Value} {rows : List Row} {hv : Value} {h : Option Tag} {p b : Nat} (f : Facts M tb vs rows hv h p b) (news : Led) {row : Row} (hs : Step M p h row) {a tl : Addr} {t1 t2 : Tok} {tvs : List Value} {n : Nat} {hv' : Value} {pl : Int}
    (hpl : pl = (row.place : Int)) (ha : (a, tup [.str (callStr row.call) t1, .bool row.leaves, hv', .int pl t2, .ref tl]) ∈ news ++ tb) (ht : TagRep (news ++ tb) hv' row.held) (hl : (tl, lst tvs n) ∈ news ++ tb) (hx : All2 (ToldRep (news ++ tb)) tvs row.told) :
    Facts M (news ++ tb) (vs ++ [.ref a]) (rows ++ [row]) hv' row.held row.place (b + 1) := by
  obtain ⟨h1, h2, h3, h4⟩ := f
  subst hpl
  refine ⟨(h1.mono fun _ _ z => z.mono fun p hp => List.mem_append_right _ hp).snoc ⟨a, hv', tl, tvs, n, t1, t2, rfl, ha, ht, hl, hx⟩, ht, h3.snoc hs, ?_⟩
  rw [List.length_append]; simp only [List.length_cons, List.length_nil]; omega
theorem Facts.le {M : List Nat} {tb : Led} {vs : List Value} {rows : List Row} {hv : Value} {h : Option Tag} {p b b' : Nat} (f : Facts M tb vs rows hv h p b) (hb : b ≤ b') : Facts M tb vs rows hv h p b' :=
  ⟨f.1, f.2.1, f.2.2.1, Nat.le_trans f.2.2.2 hb⟩
theorem Facts.len {M : List Nat} {tb : Led} {vs : List Value} {rows : List Row} {hv : Value} {h : Option Tag} {p b : Nat} (f : Facts M tb vs rows hv h p b) : vs.length ≤ b := by rw [f.1.len]; exact f.2.2.2
/-- the same held -/
theorem Facts.tag {M : List Nat} {tb news : Led} {vs : List Value} {rows : List Row} {hv : Value} {h : Option Tag} {p b : Nat} (f : Facts M tb vs rows hv h p b) : TagRep (news ++ tb) hv h := f.2.1.mono fun p hp => List.mem_append_right _ hp
theorem Facts.addS {M : List Nat} {tb : Led} {vs : List Value} {rows : List Row} {hv : Value} {h : Option Tag} {p b : Nat} (f : Facts M tb vs rows hv h p b) (news : Led) {row : Row} (hs : Step M p h row) (hh : row.held = h) {a tl : Addr} {t1 t2 : Tok} {tvs : List Value} {n : Nat} {pl : Int}
    (hpl : pl = (row.place : Int)) (ha : (a, tup [.str (callStr row.call) t1, .bool row.leaves, hv, .int pl t2, .ref tl]) ∈ news ++ tb) (hl : (tl, lst tvs n) ∈ news ++ tb) (hx : All2 (ToldRep (news ++ tb)) tvs row.told) :
    Facts M (news ++ tb) (vs ++ [.ref a]) (rows ++ [row]) hv h row.place (b + 1) := by
  have z := f.add news hs hpl ha (by rw [hh]; exact f.tag) hl hx
  rw [hh] at z; exact z
theorem letter_fine : ∀ c ∈ letters, c ∉ blanks ++ [47, 62] := by decide
theorem letter_pos : ∀ c ∈ letters, c ≠ 0 := by decide
theorem noNul_mem {l : List Nat} {c : Nat} (h : c ∈ noNul l) : c ∈ l ∨ c = 65533 := by
  unfold noNul at h
  obtain ⟨x, hx, rfl⟩ := List.mem_map.mp h
  split
  · exact .inr rfl
  · exact .inl hx
theorem nm_facts {M nm : List Nat} {e qe : Nat} (hnm : noNul ((M.take qe).drop e) = nm) (h1 : e ≤ qe) (h2 : qe ≤ M.length) : nm.length = qe - e ∧ (∀ n, ∀ c ∈ nm.take n, c ∈ M ∨ c = 65533) ∧
    (∀ k ck, e ≤ k → k < qe → M[k]? = some ck → nm.take (k + 1 - e) = nm.take (k - e) ++ [if ck = 0 then 65533 else ck]) := by
  subst hnm
  refine ⟨?_, fun n c hc => ?_, fun k ck k1 k2 hk => ?_⟩
  · unfold noNul; rw [List.length_map, List.length_drop, List.length_take]; omega
  · rcases noNul_mem (List.mem_of_mem_take hc) with z | z
    · exact .inl (List.mem_of_mem_take (List.mem_of_mem_drop z))
    · exact .inr z
  · rw [show k + 1 - e = (k - e) + 1 by omega, List.take_add_one]
    congr 1
    have : (noNul ((M.take qe).drop e))[k - e]? = some (if ck = 0 then 65533 else ck) := by
      unfold noNul
      rw [List.getElem?_map, List.getElem?_drop, show e + (k - e) = k by omega, List.getElem?_take_of_lt k2, hk]; rfl
    rw [this]; rfl
theorem name_ne (cl : Bool) : (callStr (if cl = true then Call.close else Call.tag) != Str.ofString "name") = true := by cases cl <;> decide +kernel
theorem name_eq : (callStr Call.name != Str.ofString "name") = false := by decide +kernel
theorem one_or {M : List Nat} {e : Nat} (he : e ≤ M.length) : ((M.take (e + 1)).drop e = [] ∧ e = M.length) ∨ ∃ c, M[e]? = some c ∧ (M.take (e + 1)).drop e = [c] ∧ e < M.length := by
  rcases Nat.lt_or_ge e M.length with z | z
  · refine .inr ⟨M[e], List.getElem?_eq_getElem z, ?_, z⟩
    rw [List.drop_take, Nat.add_sub_cancel_left, List.drop_eq_getElem_cons z]; rfl
  · refine .inl ⟨?_, by omega⟩
    rw [List.drop_eq_nil_of_le]; rw [List.length_take]; omega
/-- names that stand once, all of them among ns -/
def BasedIn (B B' : Lo) (ns : List Str) : Prop := ∀ q ∈ B', B.lookup q.1 = some q.2 ∧ ns.contains q.1 = true
abbrev Based (B : Lo) (ns : List Str) : Prop := BasedIn B B ns
theorem BasedIn.nil {B : Lo} {ns : List Str} : BasedIn B [] ns := fun _ h => nomatch h
theorem BasedIn.cons {B B' : Lo} {ns : List Str} {x : Str} {v : Value} (h : (B.lookup x) = some v) (k : ns.contains x = true) (r : BasedIn B B' ns) : BasedIn B ((x, v) :: B') ns := fun q hq => by
  rcases List.mem_cons.mp hq with rfl | hq
  · exact ⟨h, k⟩
  · exact r q hq
theorem Fewer.base {B : Lo} {ns : List Str} (h : Based B ns) : Fewer B B := fun q hq => (h q hq).1
theorem Fewer.over {B lo : Lo} {ns : List Str} {x : Str} {v : Value} (h : Based B ns) (hx : ns.contains x = false) (k : Fewer B lo) : Fewer B ((x, v) :: lo) := fun q hq => by
  rw [List.lookup_cons]
  have hn : (q.1 == x) = false := beq_eq_false_iff_ne.mpr fun e => by rw [← e, (h q hq).2] at hx; cases hx
  rw [hn]
  exact k q hq
end Mine
end
section
open PySem PySem.W PyProof.Rows PySem.Spec PySem.Calls
set_option Elab.async false
set_option linter.unusedVariables false
set_option maxRecDepth 100000
set_option maxHeartbeats 0
namespace Mine
/-- the pieces -/
def pieces : List (List Nat) := [[60], [60, 47], [97], [62], [47], [60, 33], [60, 63], [32], [0], [66], [60, 84, 100], [60, 47, 116, 68], [10], [13, 10], [13], [8490], [38], [49], [12], [120, 32, 121], [60, 112, 62], [60, 47, 81, 62], [1], [33], [63], [9], [201], [60, 62], [60, 47, 62]]
theorem pieces_lit (w : World) : ∃ l dd sl n, (Mine.K w.params).lookup 767 = some ⟨.type "list", dd, .seq l.toArray n, sl⟩ ∧ StrsAre l (pieces.map S) := by
  have e : pieces.map S = [Str.ofString "<", Str.ofString "</", Str.ofString "a", Str.ofString ">", Str.ofString "/", Str.ofString "<!", Str.ofString "<?", Str.ofString " ", Str.ofString "\x00", Str.ofString "B", Str.ofString "<Td", Str.ofString "</tD", Str.ofString "\n", Str.ofString "\r\n", Str.ofString "\r", Str.ofString "\u212a", Str.ofString "&", Str.ofString "1", Str.ofString "\x0c", Str.ofString "x y", Str.ofString "<p>", Str.ofString "</Q>", Str.ofString "\x01", Str.ofString "!", Str.ofString "?", Str.ofString "\t", Str.ofString "\u00c9", Str.ofString "<>", Str.ofString "</>"] := by decide +kernel
  rw [e]
  refine ⟨_, _, _, _, by k_is, ?_⟩
  repeat (first | exact StrsAre.nil | refine StrsAre.cons _ _ ?_)
section
variable {fn : Fn} {C : Cx fn} {lo : Lo} {led led' : Led} {k : Nat} {Q : Value → Lo → Led → Prop}
theorem b_fdiv {a b : Int} {t u : Tok} (hb : b ≠ 0) (hs : b.natAbs < 1073741824) (h : ∀ t, Q (.int (a.fdiv b) t) lo led) : WP C lo led (binaryOp .FloorDiv (.int a t) (.int b u)) Q := fun s st => by
  exact PyProof.Rows.floordiv_int hb ⟨lo, led, st.toks _, h _⟩ (Or.inl (PyProof.noPylong_small hs))
theorem strs_at {l : List Value} {ys : List Str} (h : StrsAre l ys) : ∀ (i : Nat) (hi : i < ys.length), ∃ t, l[i]? = some (.str ys[i] t) := by
  induction h with
  | nil => exact fun i hi => by simp at hi
  | cons y t _ ih =>
    intro i hi
    cases i with
    | zero => exact ⟨t, rfl⟩
    | succ i => obtain ⟨t, e⟩ := ih i (by simpa using hi); exact ⟨t, by simpa using e⟩
theorem st_pieces (hC : C.Ok k) {value slice : Expr} {n : Int} {u : Tok} (hs : notSlice slice = true) (h : ∀ t, Q (.str (S (pieces.getD (n.fmod 29).toNat [])) t) lo led) :
    WP C lo led (subscriptTail value slice (.ref 767) (.int (n.fmod 29) u)) Q := fun s st => by
  obtain ⟨m, F, kn⟩ := st.F
  obtain ⟨l, dd, sl, nn, hl, hi⟩ := pieces_lit C.w
  have hI := lstK (hC.X.keeps F.keep) hl
  have h0 : 0 ≤ n.fmod 29 := Int.fmod_nonneg_of_pos _ (by decide)
  have h1 : n.fmod 29 < 29 := Int.fmod_lt_of_pos _ (by decide)
  have hlen : pieces.length = 29 := by decide
  obtain ⟨t, e⟩ := strs_at hi (n.fmod 29).toNat (by rw [List.length_map, hlen]; omega)
  rw [List.getElem_map] at e
  have e2 : pieces.getD (n.fmod 29).toNat [] = pieces[(n.fmod 29).toNat]'(by rw [hlen]; omega) := by rw [List.getD_eq_getElem?_getD, List.getElem?_eq_getElem (by rw [hlen]; omega)]; rfl
  have q := h t
  rw [e2] at q
  exact tail_any hI.typeIs slot_list_getitem.lookup (wpAny_getItem_list hI h0 (by omega) (by simpa using e) ⟨lo, led, st, q⟩) (sub_eq hs)
/-- the head of the script -/
theorem e_slice_base (hC : C.Ok k) {value upper : Expr} {p pos : Pos} {sa : Addr} {vs : List Value} {ns : List Int} (hl : C.h₀.IsList sa vs.toArray) (hi : IntsAre vs ns) (hz : vs.length ≤ 1000) (hg : ∀ r, letTemporaryGo value (.ref sa) r = pure ())
    (h : WP C lo led (eval value C.env) (fun o lo led => o = .ref sa ∧ WP C lo led (eval upper C.env) (fun b lo led => ∃ t, b = .int 14 t ∧ ∀ a us n, IntsAre us (ns.take 14) → Q (.ref a) lo ((a, lst us n) :: led)))) :
    WP C lo led (eval (.Subscript value (.Slice none (some upper) none p) pos) C.env) Q := fun s hs => by
  refine Subscript_ (h.go hs fun o lo₁ led₁ s₁ st₁ h₁ => ?_)
  obtain ⟨rfl, h₁⟩ := h₁
  refine wpAny_Slice (evalPart_none_step (evalPart_some_step (h₁.go st₁ fun b lo₂ led₂ s₂ st₂ h₂ => evalPart_none_step ?_)))
  obtain ⟨t, rfl, hq⟩ := h₂
  obtain ⟨m, F, kn⟩ := st₂.F
  have hI : s₂.heap.IsList sa vs.toArray := by obtain ⟨o, ho, r⟩ := hl; exact ⟨o, F.keep _ _ ho, r⟩
  have hpick := slice_ints_uptoW hi (y := 14) (by decide)
  have hns : s₂.heap.objs.size + 1 = s₂.heap.objs.size + 1 := rfl
  refine slice_list (lo := none) (hi := some 14) (items := vs.toArray) F st₂.N hI .none (.int 14 t) (fun h' F' N' => ?_) rfl (fun r => hg r) (by rw [List.size_toArray, sizeLine_eq]; omega)
  refine ⟨lo₂, _, ⟨⟨m, F', kn⟩, N', nodup_new st₂.nd (fun p hp => Nat.lt_succ_of_lt (st₂.lt p hp)), st₂.g, st₂.dr, st₂.os, st₂.tk⟩, ?_⟩
  have e : slicePick vs.toArray none (some 14) none = (slicePick vs.toArray none (some 14) none).toList.toArray := by simp
  rw [e]
  exact hq _ _ 0 hpick
end
end Mine
namespace Mine
section
variable {fn : Fn} {C : Cx fn} {lo : Lo} {led led' : Led} {k : Nat} {Q : Value → Lo → Led → Prop}
theorem a_setP (hC : C.Ok k) {x Cl d : Addr} {es : List DictEntry} {es' : Tok → List DictEntry} {n n' : Nat} {name : Str} {v : Value} {r : Led} {Q : Unit → Lo → Led → Prop} (hx : Has (x, instObj Cl d) led) (hp : Pick1 (d, dictOf es n) led r)
    (hc : setB (Mine.K C.w.params) Cl name = true) (hl : (getL name es).isSome = true) (e : ∀ t, (putL name (PyData.keyHash C.w.params name) (.str name t) v es, putN name es n) = (es' t, n'))
    (hz : ∀ t, (es' t).length ≤ 1000) (h : ∀ t, Q () lo ((d, dictOf (es' t) n') :: r)) : WP C lo led (setAttr (.ref x) name v) Q :=
  WP.pick1 hp (a_set hC (Has.of_mem (hp.perm.mem_iff.mp hx.mem)) hc hl e (fun t => .here) hz h)
end
section
variable {P : Params}
theorem mb105 : methB (Mine.K P) 166 (Str.ofString "reset") 105 = true := by kernel_rfl
theorem mb112 : methB (Mine.K P) 166 (Str.ofString "openStream") 112 = true := by kernel_rfl
end
/-- the tokenizer's own dict before its queue is set -/
def kDict7 (P : Params) (kt : Nat → Tok) (v0 v1 v2 v3 v4 v5 v6 : Value) : List DictEntry :=
  [ent P "stream" (kt 0) v0, ent P "parser" (kt 1) v1, ent P "escapeFlag" (kt 2) v2, ent P "lastFourChars" (kt 3) v3, ent P "state" (kt 4) v4, ent P "escape" (kt 5) v5, ent P "currentToken" (kt 6) v6]
def sv0 : SV := ⟨[], 0, 0, 0, 0, false, 0⟩
theorem inv0 (X : SX) : Inv X sv0 0 := by
  refine ⟨[], ?_, rfl, Nat.le_refl _, rfl, rfl, ?_, Nat.zero_le _⟩
  · show mend X.T = [] ++ ([] ++ mend ([] ++ X.T.drop 0)); simp
  · show 0 = (X.T.take 0).count 1; simp
section
variable {P : Params} {kt : Nat → Tok} {v0 v1 v2 v3 v4 v5 v6 : Value}
theorem k7g0 : getL (Str.ofString "stream") (kDict7 P kt v0 v1 v2 v3 v4 v5 v6) = some (some v0) := by kernel_rfl
end
end Mine
end
section
open PySem PySem.W PyProof.Rows PySem.Spec PySem.Calls
set_option Elab.async false
set_option linter.unusedVariables false
set_option maxRecDepth 100000
set_option maxHeartbeats 0
set_option compiler.extract_closed false
namespace Mine
local macro_rules | `(tactic| ktf_step) => `(tactic| (repeat (first | with_reducible exact lk_here | with_reducible assumption | ((with_reducible apply lk_there); kernel_rfl))))
local macro_rules | `(tactic| ktr_step) => `(tactic| (repeat (with_reducible first | exact Chg.here | exact Chg.sd | apply Chg.skipS | apply Chg.skip | apply Chg.inB | apply Chg.skipB)))
local macro_rules | `(tactic| ked_read) => `(tactic| (repeat (with_reducible first | exact Has.here | exact Has.sd | exact Has.se | exact Has.of_mem (by assumption) | apply Has.skipS | apply Has.skip | apply Has.inB | apply Has.skipB)))
local macro_rules | `(tactic| kd_p1) => `(tactic| (repeat (first | with_reducible exact Pick1.here | ((with_reducible first | refine' Pick1.skipS ?_ | refine' Pick1.skip ?_ | refine' Pick1.skipB ?_); rotate_left))))
local macro_rules | `(tactic| kwd_inv) => `(tactic| (repeat (first | (with_reducible first | exact Pick.all | exact Pick.here) | ((with_reducible first | refine' Pick.skip ?_ | refine' Pick.skipB ?_); rotate_left))))
local macro_rules | `(tactic| kd_adr) => `(tactic| (repeat (first | with_reducible exact Fewer.refl_nil | with_reducible exact Fewer.base (by assumption) | ((with_reducible refine' Fewer.over ?hb ?hx ?_); (case hb => assumption); (case hx => kernel_rfl)) | ((with_reducible refine' Fewer.cons ?hf ?_); (case hf => ktf_step)))))
local macro_rules | `(tactic| kwd_less) => `(tactic| (repeat (first | (with_reducible first | exact Part.refl _ | exact Part.nil) | ((with_reducible refine' PickS.part ?p ?_); (case p => keq_hits)) | ((with_reducible refine' Part.cons ?p ?_); (case p => kd_p1)) | ((with_reducible refine' Part.app ?p ?_); (case p => kwd_inv)) | ((with_reducible refine' Part.one ?p); (case p => kwd_inv)))))
local macro_rules | `(tactic| keq_hits) => `(tactic| (repeat (first | with_reducible exact PickS.here | ((with_reducible first | refine' PickS.skip ?_ | refine' PickS.skipB ?_); rotate_right))))
local macro_rules | `(tactic| keq_rows) => `(tactic| ((with_reducible refine' Part.pickS3 ?h0 ?h1 ?h2 ?h3); (case h0 => keq_hits); (case h1 => kd_p1); (case h2 => kd_p1); (case h3 => kd_p1)))
local macro_rules | `(tactic| kwd_rel) => `(tactic| ((case ho => k_is); (case hcd => k_is); (case hbind => (intro s _; exact BindsTo.of_eq (by kernel_rfl))); (case hloc => kernel_rfl); (case hfl => decide +kernel)))
local macro_rules | `(tactic| tb_rel) => `(tactic| first
  | ((with_reducible show WP _ _ _ (eval _ (compEnv _ _ _)) _); first
      | ((with_reducible refine' v_local ?hb ?hc ?ho ?_); (case hb => kernel_rfl); (case ho => assumption); (case hc => ked_read))
      | ((with_reducible first | refine v_int ?_ | refine v_str ?_); intro _)
      | (with_reducible first | refine v_binop ?_ | refine v_sub ?_ | refine v_ifexp ?_)
      | ((with_reducible first | refine v_call ?hb ?_); (case hb => decide +kernel))
      | ((with_reducible refine' v_global ?hC ?hb ?he ?_); (case hC => assumption); (case hb => kernel_rfl); (case he => k_is))
      | ((with_reducible refine' v_builtin ?hC ?hb ?he ?hv ?hn ?_); (case hC => assumption); (case hb => kernel_rfl); (case he => k_is); (case hv => boot_fast); (case hn => decide)))
  | ((with_reducible show WP _ _ _ (eval _ _) _); first
      | ((with_reducible refine' e_local ?hb ?hv ?_); (case hb => kernel_rfl); (case hv => ktf_step))
      | ((with_reducible first | refine e_int ?_ | refine e_str ?_); intro _)
      | ((with_reducible first | refine e_attr ?hb ?_); (case hb => kernel_rfl))
      | ((with_reducible first | refine e_call ?hb ?_); (case hb => decide +kernel))
      | (with_reducible first | refine e_binop ?_ | refine e_slice ?_ | refine e_sub ?_ | refine e_none ?_ | refine e_bool ?_)
      | ((with_reducible refine' e_replace ?hC ?hb ?hl ?hbl ?_); (case hC => assumption); (case hb => decide +kernel); (case hl => decide +kernel); (case hbl => decide +kernel))
      | ((with_reducible refine' e_mcall ?hb ?ha ?hl ?_); (case hb => kernel_rfl); (case ha => kernel_rfl); (case hl => kernel_rfl))
      | ((with_reducible first | refine e_cmp ?hb ?_); (case hb => decide +kernel))
      | (with_reducible first | refine e_chainK ?_)
      | ((with_reducible first | refine e_chain ?hb ?_); (case hb => decide +kernel))
      | (with_reducible first | refine e_or ?_ | refine e_or1 ?_ | refine e_ifexp ?_ | refine e_tuple ?_ | refine e_list ?_)
      | ((with_reducible refine' e_dict0 ?hC ?_); (case hC => assumption); intro d9 hd9)
      | ((with_reducible refine' e_dict ?hC ?hs ?hall ?hl ?h0 ?hlen ?_); (case hC => assumption); (case hs => decide +kernel); (case hall => decide +kernel); (case hl => rfl); (case h0 => (intro h9; cases h9)); (case hlen => exact Nat.le_of_ble_eq_true rfl); intro d9 o9 hd9)
      | (with_reducible first | refine e_uop ?_)
      | ((with_reducible refine' e_global ?hC ?hb ?he ?_); (case hC => assumption); (case hb => kernel_rfl); (case he => k_is))
      | ((with_reducible refine' e_builtin ?hC ?hb ?he ?hv ?hn ?_); (case hC => assumption); (case hb => kernel_rfl); (case he => k_is); (case hv => boot_fast); (case hn => decide)))
  | (with_reducible first | refine seq_next ?_ | refine x_cons ?_ | refine x_nil ?_)
  | ((with_reducible show WP _ _ _ (exec _ _) _); first
      | ((with_reducible refine' x_assign ?hc ?hb ?_); (case hc => kernel_rfl); (case hb => kernel_rfl))
      | ((with_reducible first | refine x_setattr ?hb ?_ | refine x_unpack ?hb ?_ | refine x_setitem ?hb ?_ | refine x_augitem ?hb ?_); (case hb => kernel_rfl))
      | (with_reducible first | refine x_if ?_ | refine x_ret ?_)
      | ((with_reducible refine' x_aug ?hb ?_); (case hb => kernel_rfl))
      | (with_reducible first | refine x_augattr ?_)
      | ((with_reducible refine' x_expr ?hC ?hc ?_); (case hC => assumption); (case hc => kernel_rfl))
      | (with_reducible first | refine x_break ?_ | refine x_assert ?_))
  | ((with_reducible show WP _ _ _ (isTrue _ (compEnv _ _ _) _) _); ((with_reducible first | refine vt_cmp ?hb ?_ | refine vt_chain ?hb ?_); (case hb => decide +kernel)))
  | ((with_reducible show WP _ _ _ (isTrue _ _ _) _); first
      | ((with_reducible first | refine t_cmp ?hb ?_ | refine t_chain ?hb ?_); (case hb => decide +kernel))
      | (with_reducible first | refine t_not ?_ | refine t_and ?_ | refine t_or ?_ | refine t_and_nil ?_ | refine t_or_nil ?_)
      | ((with_reducible first | refine t_plain ?hb ?_); (case hb => kernel_rfl)))
  | (with_reducible first | refine seq_ret ?_ | refine asg_cons ?_ | refine asg_nil ?_)
  | ((with_reducible show allStrKeys _ = true ∧ _); refine' ⟨rfl, ?hn, _, ?hp, ?_⟩; (case hn => (first | exact nd2 | exact nd3 | exact nd1 | exact nd4 | exact nd5)); (case hp => kd_p1); intro o9 hd9)
  | ((with_reducible show List.length _ ≤ _ ∧ _); (refine ⟨Nat.le_of_ble_eq_true rfl, ?_⟩); intro _)
  | ((with_reducible show ∃ _ _ _ _, _); refine ⟨_, _, _, _, rfl, rfl, ?_⟩)
  | (with_reducible first | refine seq_brk ?_)
  | ((with_reducible show Br true _ _); refine Br.T rfl ?_)
  | ((with_reducible show Br false _ _); refine Br.F rfl ?_)
  | ((with_reducible show WP _ _ _ _ _); first
      | ((with_reducible first | refine s_more ?hb ?_ | refine vs_more ?hb ?_); (case hb => kernel_rfl))
      | (with_reducible first | refine s_none ?_ | refine vs_none ?_ | refine ts_nil ?_ | refine pr_nil ?_ | refine pr_cons ?_)
      | ((with_reducible refine' st_types ?hC ?hs ?he ?_); (case hC => assumption); (case hs => rfl); (case he => k_is))
      | ((with_reducible refine' st_dictA ?hp ?hd ?hs ?hl ?_); (case hp => ked_read); (case hd => assumption); (case hs => rfl); (case hl => (first | (with_reducible first | exact tv_type | exact tv_name | exact tv_data | exact tv_sc) | (repeat (first | with_reducible exact va_here | ((with_reducible refine' va_there ?h9 ?_); (case h9 => decide +kernel); rotate_left))))))
      | ((with_reducible refine' c_indict ?hp ?hd ?_); (case hp => ked_read); (case hd => assumption))
      | ((with_reducible refine' a_bound ?hC ?hx ?hd ?hc ?hl ?_); (case hC => assumption); (case hx => ked_read); (case hd => ked_read); (case hl => (first | ((with_reducible refine sgn _ ?hn); decide +kernel) | with_reducible exact tgr | ((with_reducible refine kgn _ ?hn); decide +kernel))); (case hc => (with_reducible first | exact bb304 | exact bb311 | exact bb353 | exact bb605 | exact bb360 | exact bb367 | exact bb598 | exact bb535 | exact bb591 | exact bb148)); intro q9)
      | (with_reducible first | refine ts_one ?_)
      | ((with_reducible refine' n_local ?hb ?hv ?_); (case hb => kernel_rfl); (case hv => ktf_step))
      | ((with_reducible refine' a_get ?hC ?hx ?hd ?hc ?hl ?hv ?_); (case hC => assumption); (case hx => ked_read); (case hd => ked_read); (case hl => (with_reducible first | exact sg3 | exact sg4 | exact sg5 | exact sg6 | exact sg7 | exact sg8 | exact sg9 | exact sg2 | exact sg0 | exact tg0 | exact tg1 | exact kg0 | exact kg1 | exact kg2 | exact kg3 | exact k7g0)); (case hc => kernel_rfl); (case hv => rfl))
      | ((with_reducible refine' a_set0 ?hC ?hx ?U ?e ?hl ?hc ?hz ?_); (case hC => assumption); (case hx => ked_read); (case U => ktr_step); (case e => (intro _; (with_reducible first | exact sp3 | exact sp4 | exact sp5 | exact sp7 | exact sp8 | exact sp9 | exact tp1 | exact kp1 | exact kp2))); (case hl => rfl); (case hc => kernel_rfl); (case hz => exact Nat.le_of_ble_eq_true (by kernel_rfl)))
      | ((with_reducible first | refine c_bi1 ?hb ?_); (case hb => decide +kernel))
      | ((with_reducible first | refine c_bi0 ?hb ?_); (case hb => decide +kernel))
      | ((with_reducible refine' c_fn1 ?hC ?hk ?ha ?_); (case hC => assumption); (case hk => kernel_rfl); (case ha => decide +kernel))
      | ((with_reducible refine' c_fn0 ?hC ?hk ?ha ?_); (case hC => assumption); (case hk => kernel_rfl); (case ha => decide +kernel))
      | ((with_reducible first | refine vc_bi0 ?hb ?_); (case hb => decide +kernel))
      | ((with_reducible refine' vc_fn0 ?hC ?hk ?ha ?_); (case hC => assumption); (case hk => kernel_rfl); (case ha => decide +kernel))
      | (with_reducible first | refine c_les ?_)
      | ((with_reducible first | refine c_ty ?hb ?_); (case hb => decide +kernel))
      | ((with_reducible refine' f_append ?U ?hz ?_); (case U => ktr_step); (case hz => (first | assumption | exact ln0 (by assumption) | exact ln1 (by assumption) | exact Nat.le_of_ble_eq_true rfl | (simp only [List.length_append] at *; omega) | omega)))
      | ((with_reducible first | refine f_ord ?_); intro _)
      | (with_reducible first | refine tr_bool ?_ | refine tr_none ?_)
      | ((with_reducible first | refine b_add ?_ | refine b_sub ?_ | refine u_neg ?_); intro _)
      | ((with_reducible refine' b_mod ?hb ?_); (case hb => decide); intro _)
      | ((with_reducible refine' c_intI ?hl ?hi ?_); (case hl => ked_read); (case hi => (repeat constructor)))
      | ((with_reducible first | refine i_add ?_ | refine i_sub ?_); intro _)
      | (with_reducible first | refine c_eqs ?_ | refine c_nes ?_ | refine c_neb ?_ | refine c_eq ?_ | refine c_ne ?_ | refine c_lt ?_ | refine c_le ?_ | refine c_ge ?_ | refine c_gt ?_ | refine c_eq_ns ?_ | refine c_eqb ?_)
      | ((with_reducible refine' a_unpack ?hC ?hl ?hn ?hp ?_); (case hC => assumption); (case hl => ked_read); (case hn => rfl); (case hp => decide +kernel))
      | ((with_reducible refine' as_name ?hb ?_); (case hb => kernel_rfl))
      | (with_reducible first | refine as_attr ?_ | refine p_none ?_ | refine p_some ?_)
      | ((with_reducible first | refine c_is_self ?hp ?_ | refine c_isnot_self ?hp ?_); (case hp => rfl))
      | ((with_reducible first | refine c_is ?hp ?hne ?_ | refine c_isnot ?hp ?hne ?_); (case hp => rfl); (case hne => (intro h9; cases h9))))
  | (intro pl; first | (with_reducible first | refine m_count ?_ | refine m_rfind ?_ | refine m_split ?_ | refine m_join ?_) | ((with_reducible refine' m_append ?hl ?_); (case hl => ked_read)) | ((with_reducible refine' m_inst ?hC ?hx ?hd ?hc ?hl ?_); (case hC => assumption); (case hx => ked_read); (case hd => ked_read); (case hl => (first | ((with_reducible refine sgn _ ?hn); decide +kernel) | with_reducible exact tgr | ((with_reducible refine kgn _ ?hn); decide +kernel))); (case hc => (with_reducible first | exact mb119 | exact mb126 | exact mb133 | exact mb141 | exact mb156 | exact mb163 | exact mb70 | exact mb297 | exact mb304 | exact mb353 | exact mb360 | exact mb367 | exact mb598)))))
local macro_rules | `(tactic| tb_start) => `(tactic| repeat tb_rel)
local macro_rules | `(tactic| ked_reads) => `(tactic| repeat ((fail_if_success (with_reducible show WP _ _ _ (exec (Stmt.If _ _ _ _) _) _)); tb_rel))
section
theorem col_le (l : List Nat) : col l ≤ l.length := by
  unfold col
  exact Nat.le_trans (List.takeWhile_prefix _).length_le (by rw [List.length_reverse]; exact Nat.le_refl _)
theorem col_lt {l : List Nat} (h : 10 ∈ l) : col l < l.length := by
  refine Nat.lt_of_le_of_ne (col_le l) fun e => ?_
  have e' : (l.reverse.takeWhile (· != 10)) = l.reverse := (List.takeWhile_prefix _).eq_of_length (by rw [List.length_reverse]; exact e)
  have := List.all_takeWhile (p := (· != 10)) (l := l.reverse)
  rw [e', List.all_eq_true] at this
  have q := this 10 (List.mem_reverse.mpr h)
  simp at q
theorem lastNl_none {l : List Nat} (h : lastNl l = -1) : 10 ∉ l := fun hm => by
  have := col_lt hm
  rw [lastNl, if_pos hm] at h
  omega
theorem lit_nl : Str.ofString "\n" = S [10] := by decide +kernel
theorem position_ok {w : World} {x d : Addr} {kt : Nat → Tok} {v0 v1 v2 v4 v5 v6 v9 : Value} {c : List Nat} {pl pc j : Int} {t3 t7 t8 tj : Tok} {r : Led} {n : Nat} {Q : Value → Led → Prop}
    (hj : j = (n : Int)) (hn : n ≤ c.length) (hz : c.length ≤ 1000)
    (q : ∀ a ta tb, Q (.ref a) ((a, { cls := .type "tuple", data := .seq [.int (pl + ((c.take n).count 10 : Nat)) ta, .int (if 10 ∈ c.take n then (col (c.take n) : Int) else pc + n) tb].toArray }) :: (x, instObj 166 d) :: (d, dictOf (sDict w.params kt v0 v1 v2 (.str (S c) t3) v4 v5 v6 (.int pl t7) (.int pc t8) v9) 10) :: r)) :
    Meets 1 w 119 [.ref x, .int j tj] ((x, instObj 166 d) :: (d, dictOf (sDict w.params kt v0 v1 v2 (.str (S c) t3) v4 v5 v6 (.int pl t7) (.int pc t8) v9) 10) :: r) Q := by
  refine' meets_of [(Str.ofString "self", .ref x), (Str.ofString "offset", .int j tj)] ?ho ?hcd ?hbind ?hloc ?hfl ?_
  case ho => k_is
  case hcd => k_is
  case hbind => intro s _; exact BindsTo.of_eq (by kernel_rfl)
  case hloc => kernel_rfl
  case hfl => decide +kernel
  intro C hw hC
  subst hw
  dsimp only [revd]
  tb_start
  with_reducible refine f_count n lit_nl hj hn ?_
  intro _
  tb_start
  with_reducible refine f_rfind n lit_nl hj hn ?_
  intro _
  tb_start
  refine ⟨fun hb => ?_, fun hb => ?_⟩
  · tb_start
    refine ⟨_, Part.refl _, ?_⟩
    have e : pc + j = if 10 ∈ c.take n then (col (c.take n) : Int) else pc + n := by
      rw [if_neg (lastNl_none (by simpa using hb)), hj]
    rw [e]; exact q _ _ _
  · tb_start
    refine ⟨_, Part.refl _, ?_⟩
    have hm : 10 ∈ c.take n := Classical.byContradiction fun h => by simp [lastNl, h] at hb
    have e : j - (lastNl (c.take n) + 1) = if 10 ∈ c.take n then (col (c.take n) : Int) else pc + n := by
      rw [if_pos hm, lastNl, if_pos hm, List.length_take, hj]; omega
    rw [e]; exact q _ _ _
end
section
theorem read_ok {w : World} {tx td : Addr} {kt : Nat → Tok} {T : List Nat} {tt tp ts : Tok} {p m : Nat} {sz : Int} {r : Led} {Q : Value → Led → Prop} (hm : sz = (m : Int)) (hp : p ≤ T.length) (hz : T.length ≤ 1000)
    (q : ∀ t t', Q (.str (S ((T.take (p + m)).drop p)) t) ((tx, instObj 73 td) :: (td, dictOf (tDict w.params kt (.str (S T) tt) (.int ((p : Int) + ((T.take (p + m)).drop p).length) t')) 2) :: r)) :
    Meets 1 w 70 [.ref tx, .int sz ts] ((tx, instObj 73 td) :: (td, dictOf (tDict w.params kt (.str (S T) tt) (.int (p : Int) tp)) 2) :: r) Q := by
  refine' meets_of [(Str.ofString "self", .ref tx), (Str.ofString "size", .int sz ts)] ?ho ?hcd ?hbind ?hloc ?hfl ?_
  kwd_rel
  intro C hw hC; subst hw; dsimp only [revd]
  tb_start
  refine sl_ss p (p + m) rfl (by omega) hz ?_
  intro _
  tb_start
  have hl : ((T.take (p + m)).drop p).length ≤ 1000 := by rw [List.length_drop, List.length_take]; omega
  refine f_lens hl ?_
  intro _
  tb_start
  exact ⟨_, Part.refl _, q _ _⟩
theorem position2_ok {w : World} {x d : Addr} {kt : Nat → Tok} {v0 v1 v2 v4 v6 v9 : Value} {c : List Nat} {pl pc : Int} {t3 t5 t7 t8 : Tok} {r : Led} {n : Nat} {Q : Value → Led → Prop}
    (hn : n ≤ c.length) (hz : c.length ≤ 1000)
    (q : ∀ a ta tb, Q (.ref a) ((a, tup [.int (pl + ((c.take n).count 10 : Nat) + 1) ta, .int (if 10 ∈ c.take n then (col (c.take n) : Int) else pc + n) tb]) :: (x, instObj 166 d) :: (d, dictOf (sDict w.params kt v0 v1 v2 (.str (S c) t3) v4 (.int (n : Int) t5) v6 (.int pl t7) (.int pc t8) v9) 10) :: r)) :
    Meets 2 w 126 [.ref x] ((x, instObj 166 d) :: (d, dictOf (sDict w.params kt v0 v1 v2 (.str (S c) t3) v4 (.int (n : Int) t5) v6 (.int pl t7) (.int pc t8) v9) 10) :: r) Q := by
  refine' meets_of [(Str.ofString "self", .ref x)] ?ho ?hcd ?hbind ?hloc ?hfl ?_
  kwd_rel
  intro C hw hC; subst hw; dsimp only [revd]
  tb_start
  refine Meets.at hC (by omega) (position_ok rfl hn hz fun a ta tb => ?_) fun _ _ h => h
  tb_start
  refine' ⟨_, ?hp, q _ _ _⟩
  case hp => kwd_less
/-- signs that the texts hold: all but one of them fine -/
def Fine (c : Nat) : Prop := c = 0 ∨ c = 9 ∨ c = 10 ∨ c = 12 ∨ c = 13 ∨ (32 ≤ c ∧ c ≤ 126) ∨ (160 ≤ c ∧ c ≤ 55295)
local macro_rules | `(tactic| ktd_rel) => `(tactic| first
  | (refine Br.T (by first | rfl | (simp only [Bool.and_eq_true, Bool.or_eq_true, decide_eq_true_eq, beq_iff_eq, bne_iff_ne, ne_eq]; omega)) ?_)
  | (refine Br.F (by first | rfl | (simp only [Bool.and_eq_false_iff, Bool.or_eq_false_iff, decide_eq_false_iff_not, beq_eq_false_iff_ne, bne_eq_false_iff_eq, ne_eq]; omega)) ?_))
theorem invalid_ok {w : World} {c : Nat} {t : Tok} {r : Led} {Q : Value → Led → Prop} (hc : c = 1 ∨ Fine c) (q : Q (.bool (decide (c = 1))) r) : Meets 1 w 84 [.int (c : Int) t] r Q := by
  refine' meets_of [(Str.ofString "codepoint", .int (c : Int) t)] ?ho ?hcd ?hbind ?hloc ?hfl ?_
  kwd_rel
  intro C hw hC; subst hw; dsimp only [revd]
  rcases hc with rfl | hc
  · repeat (first | tb_rel | ktd_rel)
    exact ⟨_, Part.refl _, q⟩
  · unfold Fine at hc
    have hm : (c : Int).fmod 65536 = c := by rw [Int.fmod_eq_emod_of_nonneg _ (by decide)]; omega
    repeat (first | tb_rel | ktd_rel | (rw [hm]) | (simp only [List.any_cons, List.any_nil, Bool.or_false]))
    have e1 : (decide ((55296 : Int) ≤ c) && decide ((c : Int) ≤ 57343)) = decide (c = 1) := by
      rw [decide_eq_false (show ¬ c = 1 by omega)]
      simp only [Bool.and_eq_false_iff, decide_eq_false_iff_not]; omega
    rw [e1]
    refine' ⟨_, ?hp, q⟩
    case hp => kwd_less
theorem chars_ok {w : World} {x d e : Addr} {kt : Nat → Tok} {v0 v1 v2 v3 v4 v5 v7 v8 v9 : Value} {D : List Nat} {t : Tok} {r : Led} {n : Nat} {vs : List Value} {Q : Value → Led → Prop} (hD : ∀ c ∈ D, c = 1 ∨ Fine c) (hz : D.length ≤ 200) (hv : vs.length ≤ 200)
    (q : ∀ us n', us.length = D.count 1 → (∀ u ∈ us, ∃ t, u = Value.str (Str.ofString "invalid-codepoint") t) → Q .none ((x, instObj 166 d) :: (d, dictOf (sDict w.params kt v0 v1 v2 v3 v4 v5 (.ref e) v7 v8 v9) 10) :: (e, lst (vs ++ us) n') :: r)) :
    Meets 2 w 148 [.ref x, .str (S D) t] ((x, instObj 166 d) :: (d, dictOf (sDict w.params kt v0 v1 v2 v3 v4 v5 (.ref e) v7 v8 v9) 10) :: (e, lst vs n) :: r) Q := by
  refine' meets_of [(Str.ofString "self", .ref x), (Str.ofString "data", .str (S D) t)] ?ho ?hcd ?hbind ?hloc ?hfl ?_
  kwd_rel
  intro C hw hC; subst hw; dsimp only [revd]
  refine x_cons ?_
  refine x_for_str hC (by decide +kernel) (by decide +kernel) D (fun i lo led => lo = [(Str.ofString "data", Value.str (S D) t), (Str.ofString "self", Value.ref x)] ∧ ∃ us n', us.length = (D.take i).count 1 ∧ (∀ u ∈ us, ∃ t, u = Value.str (Str.ofString "invalid-codepoint") t) ∧
    led = (x, instObj 166 d) :: (d, dictOf (sDict C.w.params kt v0 v1 v2 v3 v4 v5 (.ref e) v7 v8 v9) 10) :: (e, lst (vs ++ us) n') :: r) ?_ ?_ ?_
  · tb_start
    exact ⟨⟨_, rfl⟩, rfl, [], n, by simp, (fun _ h => nomatch h), by rw [List.append_nil]⟩
  · rintro i hi t' lo led I o ⟨rfl, us, n', hu, hall, rfl⟩
    have hlen : us.length ≤ 200 := by rw [hu]; exact Nat.le_trans List.count_le_length (by rw [List.length_take]; omega)
    have hvs : (vs ++ us).length ≤ 1000 := by rw [List.length_append]; omega
    tb_start
    refine Meets.at hC (by omega) (invalid_ok (hD _ (List.getElem_mem hi)) ?_) fun _ _ h => h
    tb_start
    have ec : (D.take (i + 1)).count 1 = (D.take i).count 1 + (if D[i] = 1 then 1 else 0) := by rw [count_take_succ]; simp [hi]
    refine ⟨fun hb => ?_, fun hb => ?_⟩
    · tb_start
      refine' ⟨_, _, ?hf, ?hp, rfl, us ++ [_], n' + 1, ?h1, ?h2, rfl⟩
      case hf => kd_adr
      case hp => (rw [List.append_assoc]; kwd_less)
      case h1 => rw [List.length_append, ec, if_pos (by simpa using hb), hu]; rfl
      case h2 =>
        intro u h
        rcases List.mem_append.mp h with h | h
        · exact hall u h
        · rw [List.mem_singleton.mp h]; exact ⟨_, rfl⟩
    · tb_start
      refine' ⟨_, _, ?hf, ?hp, rfl, us, n', ?h1, hall, rfl⟩
      case hf => kd_adr
      case hp => kwd_less
      case h1 => rw [ec, if_neg (by simpa using hb), hu]; rfl
  · rintro lo led ⟨rfl, us, n', hu, hall, rfl⟩
    tb_start
    exact ⟨_, Part.refl _, q us n' (by rw [hu, List.take_length]) hall⟩
end
section
local macro_rules | `(tactic| ktd_rel) => `(tactic| first
  | (refine Br.T (by first | rfl | (simp only [Bool.not_eq_true', Bool.not_eq_false', Bool.and_eq_true, Bool.or_eq_true, bne_eq_false_iff_eq, decide_eq_true_eq, beq_iff_eq, bne_iff_ne, ne_eq]; omega)) ?_)
  | (refine Br.F (by first | rfl | (simp only [Bool.not_eq_true', Bool.not_eq_false', bne_iff_ne, Bool.and_eq_false_iff, Bool.or_eq_false_iff, decide_eq_false_iff_not, beq_eq_false_iff_ne, bne_eq_false_iff_eq, ne_eq]; omega)) ?_))
theorem lit_empty : Str.ofString "" = S [] := by decide +kernel
theorem lit_cr : Str.ofString "\r" = S [13] := by decide +kernel
theorem lit_crlf : Str.ofString "\r\n" = S [13, 10] := by decide +kernel
inductive RcA (X : SX) (m : Nat) (l : Led) (lo : Lo) (led : Led) : Prop
  | mk (t : Tok) (e1 : lo = [(Str.ofString "chunkSize", .int (m : Int) t), (Str.ofString "self", .ref X.x)]) (e2 : led = l) : RcA X m l lo led
inductive RcB (w : World) (X : SX) (v : SV) (m : Nat) (D0 : List Nat) (errs : List Value) (n : Nat) (r : Led) (lo : Lo) (led : Led) : Prop
  | mk (u u3 u4 u5 u7 u8 up : Tok) (e1 : lo = [(Str.ofString "data", .str (S (rcData X v m)) u), (Str.ofString "self", .ref X.x)]) (e2 : rcData X v m ≠ []) (e3 : led = sObjs w X [] 0 0 (v.pl + ↑(List.count 10 v.chunk)) (if 10 ∈ v.chunk then ↑(col v.chunk) else v.pc + ↑v.chunk.length) .none ((v.place : Int) + D0.length) u3 u4 u5 u7 u8 up errs n r) : RcB w X v m D0 errs n r lo led
inductive RcC (w : World) (X : SX) (v : SV) (m : Nat) (D0 : List Nat) (errs : List Value) (n : Nat) (r : Led) (lo : Lo) (led : Led) : Prop
  | mk (u u3 u4 u5 u7 u8 u9 up : Tok) (e1 : lo = [(Str.ofString "data", .str (S (if holds13 (rcData X v m) then (rcData X v m).dropLast else rcData X v m)) u), (Str.ofString "self", .ref X.x)]) (e2 : led = sObjs w X [] 0 0 (v.pl + ↑(List.count 10 v.chunk)) (if 10 ∈ v.chunk then ↑(col v.chunk) else v.pc + ↑v.chunk.length) (if holds13 (rcData X v m) then .str (S [13]) u9 else .none) ((v.place : Int) + D0.length) u3 u4 u5 u7 u8 up errs n r) : RcC w X v m D0 errs n r lo led
theorem readChunk_ok {w : World} {X : SX} {v : SV} {m : Nat} {l r : Led} {Q : Value → Led → Prop} {args : List Value} {av : Value} (ha : args = [.ref X.x, av] ∧ (∃ t, av = .int (m : Int) t) ∨ args = [.ref X.x] ∧ av = .none ∧ m = 10240)
    (hl : SLed w X v r l) (hT : ∀ c ∈ X.T, c = 1 ∨ Fine c) (hz : X.T.length ≤ 100) (hc : v.chunk.length ≤ 100) (hp : v.place ≤ X.T.length) (hne : v.ne ≤ 100)
    (q : ∀ l', SLed w X (rcSV X v m) r l' → Q (.bool (!(rcData X v m).isEmpty)) l') : Meets 3 w 141 args l Q := by
  obtain ⟨t3, t4, t5, t7, t8, t9, tp, n, errs, he1, he2, rfl⟩ := hl
  refine' meets_of [(Str.ofString "self", .ref X.x), (Str.ofString "chunkSize", av)] ?ho ?hcd ?hbind ?hloc ?hfl ?_
  case ho => k_is
  case hcd => k_is
  case hbind =>
    intro s hK
    rcases ha with ⟨rfl, t, rfl⟩ | ⟨rfl, rfl, rfl⟩
    · exact binds_K hK rfl (by k_is) rfl rfl rfl
    · exact binds_K hK rfl (by k_is) rfl rfl rfl
  case hloc => kernel_rfl
  case hfl => decide +kernel
  intro C hw hC; subst hw; dsimp only [revd]
  refine x_cons (x_if_j (RcA X m (sObjs C.w X v.chunk v.chunk.length v.off v.pl v.pc (if v.buf then .str (S [13]) t9 else .none) v.place t3 t4 t5 t7 t8 tp errs n r)) ?_ ?_)
  · rcases ha with ⟨rfl, t, rfl⟩ | ⟨rfl, rfl, rfl⟩
    · tb_start
      refine' ⟨_, _, ?hf, ?hp, t, rfl, rfl⟩
      case hf => kd_adr
      case hp => kwd_less
    · tb_start
      refine' a_cls' hC ?hx ?hd ?ha ?hg ?hh ?hn ?hv ?hc ?hl ?_
      case hx => exact Has.here
      case hd => exact Has.skip Has.here
      case ha => k_is
      case hg => kernel_rfl
      case hh => kernel_rfl
      case hn => kernel_rfl
      case hv => rfl
      case hc => decide +kernel
      case hl => exact sgn _ (by decide +kernel)
      tb_start
      refine' ⟨_, _, ?hf, ?hp, 624, rfl, rfl⟩
      case hf => exact Fewer.cons lk_here (by kd_adr)
      case hp => kwd_less
  · rintro lo led ⟨t, rfl, rfl⟩
    tb_start
    refine Meets.at hC (by omega) (position_ok (n := v.chunk.length) rfl (Nat.le_refl _) (by omega) fun a ta tb => ?_) fun _ _ h => h
    rw [List.take_length]
    tb_start
    refine WP.pick (l := [(X.tx, _), (X.td, _)]) (.skip (.skip (.skip .here))) ?_
    simp only [List.cons_append, List.nil_append]
    refine Meets.at hC (by omega) (read_ok (p := v.place) (m := m) rfl hp (by omega) fun u u' => ?_) fun _ _ h => h
    rw [lit_empty]
    refine seq_next ?_
    generalize hD0 : (X.T.take (v.place + m)).drop v.place = D0
    have hD0l : D0.length ≤ 100 := by rw [← hD0, List.length_drop, List.length_take]; omega
    refine x_cons (x_if_j (RcB C.w X v m D0 errs n r) ?_ ?_)
    · tb_start
      have hrc : rcData X v m = (if v.buf then [13] else []) ++ D0 := by rw [← hD0]; rfl
      cases hb : v.buf with
      | true =>
        simp only [hb, if_true]
        tb_start
        refine tr_str (a := [13]) (by decide) ?_
        ktd_rel
        tb_start
        refine b_adds (by simp; omega) fun _ => ?_
        tb_start
        refine' ⟨_, _, ?hf, ?hp, _, _, _, _, _, _, _, rfl, ?hn, rfl⟩
        case hf => (rw [show rcData X v m = [13] ++ D0 by rw [hrc, hb]; rfl]; kd_adr)
        case hp => kwd_less
        case hn => rw [hrc, hb]; simp
      | false =>
        simp only [hb, Bool.false_eq_true, if_false]
        tb_start
        refine tr_str (by omega) ?_
        by_cases h0 : D0 = []
        · subst h0
          ktd_rel
          tb_start
          have e0 : rcData X v m = [] := by rw [hrc, hb]; rfl
          have eq := q
          rw [e0] at eq
          refine' ⟨_, ?hp, eq _ (SLed.mk ?h1 ?h2 ?h3 ?h4 ?h5 ?h6 ?h7 ?h8 he2)⟩
          case hp => kwd_less
          case h1 => simp [rcSV, e0, holds13, mend_nil]
          case h2 => simp [rcSV, e0, holds13, mend_nil]
          case h3 => rfl
          case h4 => rfl
          case h5 => rfl
          case h6 => exact ⟨0, by simp [rcSV, e0, holds13]⟩
          case h7 => simp [rcSV, hD0]
          case h8 => simp [rcSV, e0, holds13, he1]
        · have hp0 : 0 < D0.length := List.length_pos_iff.mpr h0
          ktd_rel
          tb_start
          refine' ⟨_, _, ?hf, ?hp, _, _, _, _, _, _, _, rfl, ?hn, rfl⟩
          case hf => (rw [show rcData X v m = D0 by rw [hrc, hb]; rfl]; kd_adr)
          case hp => kwd_less
          case hn => rw [hrc, hb]; simpa using h0
    · rintro lo led ⟨u, u3, u4, u5, u7, u8, up, rfl, hn0, rfl⟩
      have hDl : (rcData X v m).length ≤ 101 := by rw [rcData, hD0, List.length_append]; split <;> simp <;> omega
      refine seq_next (x_cons (x_if_j (RcC C.w X v m D0 errs n r) ?_ ?_))
      · tb_start
        refine f_lens (by omega) fun _ => ?_
        tb_start
        have hall : ∀ c ∈ rcData X v m, c = 13 ∨ c = 1 ∨ Fine c := by
          intro c hm
          rw [rcData, List.mem_append] at hm
          rcases hm with hm | hm
          · revert hm; split <;> simp_all
          · exact .inr (hT _ (List.mem_of_mem_take (List.mem_of_mem_drop hm)))
        generalize hDD : rcData X v m = D at hn0 hDl hall ⊢
        have hgl : D.getLast? = some (D.getLast hn0) := List.getLast?_eq_getLast _
        refine ⟨fun hb => ?_, fun hb => ?_⟩
        · tb_start
          refine st_str_last rfl hn0 (by omega) fun _ => ?_
          tb_start
          by_cases h13 : D.getLast hn0 = 13
          · have hh : holds13 D = true := by
              unfold holds13
              rw [decide_eq_true (show 1 < D.length by have := of_decide_eq_true hb; omega), decide_eq_true (show D.getLast? = some 13 by rw [hgl, h13])]; rfl
            ktd_rel
            tb_start
            refine st_str_last (by decide +kernel) hn0 (by omega) fun _ => ?_
            tb_start
            refine sl_last hn0 (by omega) fun _ => ?_
            tb_start
            refine' ⟨_, _, ?hf, ?hp, _, _, _, _, _, _, _, _, rfl, rfl⟩
            case hf => (rw [hDD, hh]; simp only [if_true]; kd_adr)
            case hp => (rw [hDD, hh]; simp only [if_true]; rw [h13]; kwd_less)
          · have hh : holds13 D = false := by
              unfold holds13
              rw [decide_eq_false (show ¬ D.getLast? = some 13 by rw [hgl]; simpa using h13)]; exact Bool.and_false _
            have hfl := (hall _ (List.getLast_mem hn0)).resolve_left h13
            unfold Fine at hfl
            repeat (first | tb_rel | ktd_rel)
            refine' ⟨_, _, ?hf, ?hp, _, _, _, _, _, _, 0, _, rfl, rfl⟩
            case hf => (rw [hDD, hh]; simp only [Bool.false_eq_true, if_false]; kd_adr)
            case hp => (rw [hDD, hh]; simp only [Bool.false_eq_true, if_false]; kwd_less)
        · tb_start
          have h13 : holds13 D = false := by
            unfold holds13
            rw [decide_eq_false (show ¬ 1 < D.length by have := of_decide_eq_false hb; omega)]; rfl
          refine' ⟨_, _, ?hf, ?hp, _, _, _, _, _, _, 0, _, rfl, rfl⟩
          case hf => (rw [hDD, h13]; simp only [Bool.false_eq_true, if_false]; kd_adr)
          case hp => (rw [hDD, h13]; simp only [Bool.false_eq_true, if_false]; kwd_less)
      · rintro lo led ⟨u, u3, u4, u5, u7, u8, u9, up, rfl, rfl⟩
        generalize hD2 : (if holds13 (rcData X v m) then (rcData X v m).dropLast else rcData X v m) = D2
        have hD2l : D2.length ≤ 101 := by rw [← hD2]; split <;> (try rw [List.length_dropLast]) <;> omega
        have hD2a : ∀ c ∈ D2, c = 1 ∨ Fine c := by
          intro c hm
          have hm' : c ∈ rcData X v m := by
            rw [← hD2] at hm
            revert hm; split
            · exact fun h => List.dropLast_subset _ h
            · exact id
          rw [rcData, List.mem_append] at hm'
          rcases hm' with hm' | hm'
          · right; right; right; right; right; left
            revert hm'; split <;> simp
          · exact hT _ (List.mem_of_mem_take (List.mem_of_mem_drop hm'))
        tb_start
        refine tr_meth (by repeat (first | exact Has.here | apply Has.skip)) ?_
        tb_start
        intro pl
        refine m_own hC (by repeat (first | exact Has.here | apply Has.skip)) (by repeat (first | exact Has.here | apply Has.skip)) (by kernel_rfl) sg0 rfl ?_
        refine c_meth hC (g := 148) (self := .ref X.x) (by repeat (first | exact Has.here | apply Has.skip)) (by kernel_rfl) (by decide +kernel) (by simp) ?_
        tb_start
        refine ⟨by repeat (first | exact Has.here | apply Has.skip), ?_⟩
        refine WP.pick1 (p := (X.e, _)) (.skip (.skip (.skip (.skip .here)))) (WP.pick1 (p := (X.d, _)) (.skip (.skip .here)) (WP.pick1 (p := (X.x, _)) (.skip (.skip .here)) ?_))
        refine Meets.methAt hC (by omega) (by repeat (first | exact Has.here | apply Has.skip)) (chars_ok hD2a (by omega) (by omega) fun us n' hu hua => ?_) fun _ _ h => h
        tb_start
        refine ⟨_, _, rfl, by omega, fun t' => ?_⟩
        rw [show Txt.replace (S D2) (Str.ofString "\r\n") (Str.ofString "\n") = S (crlf D2) from by rw [lit_crlf, lit_nl, replace_pair]]
        tb_start
        have hcl : (crlf D2).length ≤ D2.length := crlf_len D2
        refine ⟨_, _, rfl, by omega, fun t'' => ?_⟩
        rw [show Txt.replace (S (crlf D2)) (Str.ofString "\r") (Str.ofString "\n") = S (mend D2) from by rw [lit_cr, lit_nl, replace_S]; rfl]
        have hml : (mend D2).length ≤ D2.length := by rw [mend, List.length_map]; exact hcl
        tb_start
        refine f_lens (by omega) fun _ => ?_
        tb_start
        have eb : (!(rcData X v m).isEmpty) = true := by cases hr : rcData X v m with | nil => exact absurd hr hn0 | cons _ _ => rfl
        rw [eb] at q
        refine' ⟨_, ?hp, q _ (SLed.mk ?h1 ?h2 ?h3 ?h4 ?h5 ?h6 ?h7 ?h8 ?h9)⟩
        case hp => kwd_less
        case h1 => simp only [rcSV, hD2]
        case h2 => simp only [rcSV, hD2]
        case h3 => rfl
        case h4 => rfl
        case h5 => rfl
        case h6 => exact ⟨u9, rfl⟩
        case h7 => simp only [rcSV, hD0]; rfl
        case h8 => simp only [rcSV, hD2, List.length_append, he1, hu]
        case h9 =>
          intro z hz'
          rcases List.mem_append.mp hz' with hz' | hz'
          · exact he2 _ hz'
          · exact hua _ hz'
end
section
local macro_rules | `(tactic| ktd_rel) => `(tactic| first
  | (refine Br.T (by first | rfl | (simp only [Bool.not_eq_true', Bool.not_eq_false', Bool.and_eq_true, Bool.or_eq_true, bne_eq_false_iff_eq, decide_eq_true_eq, beq_iff_eq, bne_iff_ne, ne_eq]; omega)) ?_)
  | (refine Br.F (by first | rfl | (simp only [Bool.not_eq_true', Bool.not_eq_false', bne_iff_ne, Bool.and_eq_false_iff, Bool.or_eq_false_iff, decide_eq_false_iff_not, beq_eq_false_iff_ne, bne_eq_false_iff_eq, ne_eq]; omega)) ?_))
inductive ChJ (w : World) (X : SX) (r : Led) (p : Nat) (lo : Lo) (led : Led) : Prop
  | mk (v' : SV) (e1 : lo = [(Str.ofString "self", .ref X.x)]) (e2 : SLed w X v' r led) (e3 : Inv X v' p) (e4 : v'.off < v'.chunk.length) : ChJ w X r p lo led
theorem char_ok {w : World} {X : SX} {v : SV} {p : Nat} {l r : Led} {Q : Value → Led → Prop}
    (hl : SLed w X v r l) (hT : ∀ c ∈ X.T, c = 1 ∨ Fine c) (hz : X.T.length ≤ 100) (hI : Inv X v p)
    (q0 : ∀ l' v', p = (mend X.T).length → SLed w X v' r l' → Inv X v' p → Q .none l')
    (q1 : ∀ c l' v' t, (mend X.T)[p]? = some c → SLed w X v' r l' → Inv X v' (p + 1) → 1 ≤ v'.off → Q (.str (S [c]) t) l') : Meets 4 w 133 [.ref X.x] l Q := by
  obtain ⟨t3, t4, t5, t7, t8, t9, tp, n, errs, he1, he2, rfl⟩ := hl
  refine' meets_of [(Str.ofString "self", .ref X.x)] ?ho ?hcd ?hbind ?hloc ?hfl ?_
  kwd_rel
  intro C hw hC; subst hw; dsimp only [revd]
  have hcl := hI.chunk_le
  refine x_cons (x_if_j (ChJ C.w X r p) ?_ ?_)
  · tb_start
    refine ⟨fun hb => ?_, fun hb => ?_⟩
    · have hoff : v.off = v.chunk.length := by
        have := of_decide_eq_true hb
        obtain ⟨_, _, _, h3, _⟩ := hI
        omega
      tb_start
      refine Meets.at hC (by omega) (readChunk_ok (X := X) (v := v) (m := 10240) (.inr ⟨rfl, rfl, rfl⟩) (SLed.mk rfl rfl rfl rfl rfl ⟨t9, rfl⟩ rfl he1 he2) hT hz (by omega) hI.place_le (by have := hI.ne_le; omega) fun l' hl' => ?_) fun _ _ h => h
      have hI' := hI.rc (m := 10240) (by omega) hoff
      tb_start
      refine ⟨fun hb2 => ?_, fun hb2 => ?_⟩
      · have hnil : rcData X v 10240 = [] := by simpa using hb2
        have hend := hI.done hoff (rc_empty (by omega) hI hnil)
        tb_start
        exact ⟨_, Part.refl _, q0 _ _ hend hl' hI'⟩
      · have hne : rcData X v 10240 ≠ [] := by intro e; rw [e] at hb2; cases hb2
        tb_start
        exact ⟨_, _, by kd_adr, Part.refl _, _, rfl, hl', hI', List.length_pos_iff.mpr (rc_chunk hne)⟩
    · tb_start
      exact ⟨_, _, by kd_adr, Part.refl _, v, rfl, SLed.mk rfl rfl rfl rfl rfl ⟨t9, rfl⟩ rfl he1 he2, hI, by have := of_decide_eq_false hb; omega⟩
  · rintro lo led ⟨v', rfl, ⟨t3, t4, t5, t7, t8, t9, tp, n, errs, he1, he2, rfl⟩, hI', hlt⟩
    have hcl' := hI'.chunk_le
    obtain ⟨hn, hI2⟩ := hI'.next hlt
    tb_start
    refine st_str v'.off rfl rfl hlt (by omega) fun _ => ?_
    tb_start
    refine' ⟨_, ?hp, q1 _ _ { v' with off := v'.off + 1 } _ hn (SLed.mk ?h1 ?h2 ?h3 ?h4 ?h5 ?h6 ?h7 he1 he2) hI2 (Nat.le_add_left _ _)⟩
    case hp => kwd_less
    case h1 => rfl
    case h2 => rfl
    case h3 => rfl
    case h4 => rfl
    case h5 => rfl
    case h6 => exact ⟨t9, rfl⟩
    case h7 => rfl
theorem unget_none {w : World} {X : SX} {l : Led} {Q : Value → Led → Prop} (q : Q .none l) : Meets 1 w 163 [.ref X.x, .none] l Q := by
  refine' meets_of [(Str.ofString "self", .ref X.x), (Str.ofString "char", .none)] ?ho ?hcd ?hbind ?hloc ?hfl ?_
  kwd_rel
  intro C hw hC; subst hw; dsimp only [revd]
  tb_start
  exact ⟨_, Part.refl _, q⟩
theorem unget_ok {w : World} {X : SX} {v : SV} {p c : Nat} {t : Tok} {l r : Led} {Q : Value → Led → Prop}
    (hl : SLed w X v r l) (hz : X.T.length ≤ 100) (hI : Inv X v (p + 1)) (ho : 1 ≤ v.off) (hc : (mend X.T)[p]? = some c)
    (q : ∀ l' v', SLed w X v' r l' → Inv X v' p → Q .none l') : Meets 1 w 163 [.ref X.x, .str (S [c]) t] l Q := by
  obtain ⟨t3, t4, t5, t7, t8, t9, tp, n, errs, he1, he2, rfl⟩ := hl
  have hcl := hI.chunk_le
  obtain ⟨hl', hn, hI'⟩ := hI.back ho
  refine' meets_of [(Str.ofString "self", .ref X.x), (Str.ofString "char", .str (S [c]) t)] ?ho ?hcd ?hbind ?hloc ?hfl ?_
  kwd_rel
  intro C hw hC; subst hw; dsimp only [revd]
  tb_start
  ktd_rel
  tb_start
  refine st_str (v.off - 1) rfl (by omega) hl' (by omega) fun _ => ?_
  tb_start
  have ec : v.chunk[v.off - 1] = c := by rw [hn] at hc; exact Option.some.inj hc
  refine ⟨by rw [ec]; exact beq_self_eq_true _, ?_⟩
  tb_start
  refine' ⟨_, ?hp, q _ { v with off := v.off - 1 } (SLed.mk ?h1 ?h2 ?h3 ?h4 ?h5 ?h6 ?h7 he1 he2) hI'⟩
  case hp => kwd_less
  case h1 => rfl
  case h2 => rfl
  case h3 => (show (v.off : Int) - 1 = ((v.off - 1 : Nat) : Int)); omega
  case h4 => rfl
  case h5 => rfl
  case h6 => exact ⟨t9, rfl⟩
  case h7 => rfl
end
section
local macro_rules | `(tactic| ktd_rel) => `(tactic| first
  | (refine Br.T (by first | rfl | (simp only [Bool.not_eq_true', Bool.not_eq_false', Bool.and_eq_true, Bool.or_eq_true, bne_eq_false_iff_eq, decide_eq_true_eq, beq_iff_eq, bne_iff_ne, ne_eq]; omega)) ?_)
  | (refine Br.F (by first | rfl | (simp only [Bool.not_eq_true', Bool.not_eq_false', bne_iff_ne, Bool.and_eq_false_iff, Bool.or_eq_false_iff, decide_eq_false_iff_not, beq_eq_false_iff_ne, bne_eq_false_iff_eq, ne_eq]; omega)) ?_))
theorem u76 {i o p j : Nat} (ho : o ≤ i) (h1 : j < p + (i - o)) (h2 : p ≤ j) : o + (j - p) < i := by omega
theorem u80 {p j o : Nat} (h : p ≤ j) : p + (o + (j - p) - o) = j := by rw [Nat.add_sub_cancel_left, Nat.add_sub_of_le h]
theorem u154 {a b c : Nat} (h : a = b + 1) (k : b + c ≤ 101) : a ≤ 102 := by omega
theorem u167 {a b c d : Nat} (h : a = b + 1) (k : b + c ≤ 101) (l : d < c) : a + d ≤ 101 := by omega
theorem u179 {e m p s x : Nat} (h : m ≤ x) (hx : x ≤ 100) (hs : s ≤ 102) : min e m - p + s ≤ 1000 := by omega
inductive UntJ (w : World) (X : SX) (a : Addr) (o : Bool) (row : Value) (r : Led) (p : Nat) (f : Nat → Bool) (n : Nat) (lo : Lo) (led : Led) : Prop
  | mk (v' : SV) (p' : Nat) (ps : List (List Nat)) (vs : List Value) (nn : Nat) (l' : Led) (e1 : lo = [(Str.ofString "rv", .ref a), (Str.ofString "opposite", .bool o), (Str.ofString "characters", row), (Str.ofString "self", .ref X.x)]) (e2 : led = (a, lst vs nn) :: l') (e3 : SLed w X v' r l') (e4 : Inv X v' p') (e5 : StrsAre vs (ps.map S)) (e6 : ps.flatten = ((mend X.T).take p').drop p) (e7 : p ≤ p') (e8 : ∀ i, p ≤ i → i < p' → ∃ c, (mend X.T)[i]? = some c ∧ (f c == o) = true) (e9 : ps.length + n ≤ 101) (e10 : n = (rest X v').length) : UntJ w X a o row r p f n lo led
inductive UntE (w : World) (X : SX) (a : Addr) (o : Bool) (r : Led) (p : Nat) (f : Nat → Bool) (lo : Lo) (led : Led) : Prop
  | mk (v' : SV) (e : Nat) (ps : List (List Nat)) (vs : List Value) (nn : Nat) (l' : Led) (e1 : lo = [(Str.ofString "rv", .ref a), (Str.ofString "self", .ref X.x)]) (e2 : led = (a, lst vs nn) :: l') (e3 : SLed w X v' r l') (e4 : Inv X v' e) (e5 : StrsAre vs (ps.map S)) (e6 : ps.length ≤ 102) (e7 : ps.flatten = ((mend X.T).take e).drop p) (e8 : UpTo (fun c => f c == o) (mend X.T) p e) : UntE w X a o r p f lo led
inductive UntI (X : SX) (a : Addr) (o : Bool) (row : Value) (f : Nat → Bool) (v' : SV) (ob : Obj) (l : Led) (n : Nat) (lo : Lo) (led : Led) : Prop
  | mk (i : Nat) (te : Tok) (e1 : lo = ((Str.ofString "end", .int (i : Int) te) :: [(Str.ofString "rv", .ref a), (Str.ofString "opposite", .bool o), (Str.ofString "characters", row), (Str.ofString "self", .ref X.x)])) (e2 : led = (a, ob) :: l) (e3 : v'.off ≤ i) (e4 : i ≤ v'.chunk.length) (e5 : n = v'.chunk.length - i) (e6 : ∀ j, v'.off ≤ j → j < i → ∃ c, v'.chunk[j]? = some c ∧ (f c == o) = true) : UntI X a o row f v' ob l n lo led
inductive UntF (X : SX) (a : Addr) (o : Bool) (row : Value) (f : Nat → Bool) (v' : SV) (ob : Obj) (l : Led) (lo : Lo) (led : Led) : Prop
  | mk (i : Nat) (te : Tok) (e1 : lo = ((Str.ofString "end", .int (i : Int) te) :: [(Str.ofString "rv", .ref a), (Str.ofString "opposite", .bool o), (Str.ofString "characters", row), (Str.ofString "self", .ref X.x)])) (e2 : led = (a, ob) :: l) (e3 : v'.off ≤ i) (e4 : i ≤ v'.chunk.length) (e5 : ∀ j, v'.off ≤ j → j < i → ∃ c, v'.chunk[j]? = some c ∧ (f c == o) = true) (e6 : i = v'.chunk.length ∨ ∃ c, v'.chunk[i]? = some c ∧ (f c == o) = false) : UntF X a o row f v' ob l lo led
theorem until_ok {w : World} {X : SX} {v : SV} {p : Nat} {l r : Led} {f : Nat → Bool} {o : Bool} {row : Value} {args : List Value} {Q : Value → Led → Prop}
    (ha : args = [.ref X.x, row, .bool o] ∨ args = [.ref X.x, row] ∧ o = false) (hrow : InRow w row f r)
    (hl : SLed w X v r l) (hT : ∀ c ∈ X.T, c = 1 ∨ Fine c) (hz : X.T.length ≤ 100) (hI : Inv X v p)
    (q : ∀ e l' v' t, UpTo (fun c => f c == o) (mend X.T) p e → SLed w X v' r l' → Inv X v' e → Q (.str (S (((mend X.T).take e).drop p)) t) l') : Meets 4 w 156 args l Q := by
  have hrl : (rest X v).length ≤ 101 := by unfold rest; rw [List.length_append, List.length_drop]; split <;> simp <;> omega
  have hml := mend_len X.T
  refine' meets_of [(Str.ofString "self", .ref X.x), (Str.ofString "characters", row), (Str.ofString "opposite", .bool o)] ?ho ?hcd ?hbind ?hloc ?hfl ?_
  case ho => k_is
  case hcd => k_is
  case hbind =>
    intro s hK
    rcases ha with rfl | ⟨rfl, rfl⟩
    · exact binds_K hK rfl (by k_is) rfl rfl rfl
    · exact binds_K hK rfl (by k_is) rfl rfl rfl
  case hloc => kernel_rfl
  case hfl => decide +kernel
  intro C hw hC; subst hw; dsimp only [revd]
  tb_start
  rename_i a
  refine x_while_j (UntJ C.w X a o row r p f)
    (UntE C.w X a o r p f) (rest X v).length
    ⟨v, p, [], [], _, l, rfl, rfl, hl, hI, .nil, by rw [List.drop_take, Nat.sub_self]; rfl, Nat.le_refl _, fun i h1 h2 => by omega, by simpa using hrl, rfl⟩ ?_ ?_
  · rintro n lo led ⟨v', p', ps, vs, nn, l', rfl, rfl, hsl, hI', hst, hfl, hpp, hgood, hlen, rfl⟩
    obtain ⟨sT, hsT, rfl⟩ := hsl.fold
    have hcl := hI'.chunk_le
    have hofl : v'.off ≤ v'.chunk.length := by obtain ⟨_, _, _, h3, _⟩ := hI'; exact h3
    tb_start
    refine x_while_j (UntI X a o row f v' (lst vs nn) (sObjT C.w X v' sT r))
      (UntF X a o row f v' (lst vs nn) (sObjT C.w X v' sT r))
      (v'.chunk.length - v'.off) ⟨v'.off, _, rfl, rfl, Nat.le_refl _, hofl, rfl, fun j h1 h2 => by omega⟩ ?_ ?_
    · rintro n lo led ⟨i, te, rfl, rfl, h1, h2, rfl, h3⟩
      tb_start
      refine ⟨fun hb => ?_, fun hb => ?_⟩
      · have hi : i < v'.chunk.length := by have := bne_iff_ne.mp hb; omega
        tb_start
        refine st_str i rfl rfl hi (by omega) fun _ => ?_
        tb_start
        refine hrow hC rfl (fun _ h => .skip (.skip (.skip (.skip (.skip (.skip (.skip h))))))) ?_
        tb_start
        refine ⟨fun hb2 => ?_, fun hb2 => ?_⟩
        · tb_start
          refine' ⟨v'.chunk.length - (i + 1), Nat.sub_lt_sub_left hi (Nat.lt_succ_self i), _, _, ?hf, ?hp, i + 1, _, rfl, rfl, Nat.le_succ_of_le h1, hi, rfl, ?hg⟩
          case hf => (rw [show ((i + 1 : Nat) : Int) = (i : Int) + 1 from rfl]; kd_adr)
          case hp => kwd_less
          intro j j1 j2
          rcases Nat.lt_or_ge j i with z | z
          · exact h3 j j1 z
          · have : j = i := Nat.le_antisymm (Nat.le_of_lt_succ j2) z
            subst this
            exact ⟨_, List.getElem?_eq_getElem hi, hb2⟩
        · tb_start
          refine' ⟨_, _, ?hf, ?hp, i, te, rfl, rfl, h1, h2, h3, .inr ⟨_, List.getElem?_eq_getElem hi, hb2⟩⟩
          case hf => kd_adr
          case hp => kwd_less
      · tb_start
        refine' ⟨_, _, ?hf, ?hp, i, te, rfl, rfl, h1, h2, h3, .inl ?_⟩
        case hf => kd_adr
        case hp => kwd_less
        have := bne_eq_false_iff_eq.mp hb; omega
    · rintro lo led ⟨i, te, rfl, rfl, h1, h2, h3, h4⟩
      obtain ⟨hIi, hpart, hcs⟩ := hI'.part h1 h2
      have hg2 : ∀ j, p ≤ j → j < p' + (i - v'.off) → ∃ c, (mend X.T)[j]? = some c ∧ (f c == o) = true := by
        intro j j1 j2
        rcases Nat.lt_or_ge j p' with z | z
        · exact hgood j j1 z
        · obtain ⟨c, e1, e2⟩ := h3 (v'.off + (j - p')) (Nat.le_add_right _ _) (u76 h1 j2 z)
          have hj : v'.off + (j - p') < v'.chunk.length := Nat.lt_of_lt_of_le (u76 h1 j2 z) h2
          refine ⟨c, ?_, e2⟩
          have := hcs (v'.off + (j - p')) (Nat.le_add_right _ _) hj
          rw [show p' + (v'.off + (j - p') - v'.off) = j from u80 z] at this
          rw [this, ← e1, List.getElem?_eq_getElem hj]
      have hfl2 : (ps ++ [(v'.chunk.take i).drop v'.off]).flatten = ((mend X.T).take (p' + (i - v'.off))).drop p := by
        rw [List.flatten_append, hfl, ← hpart]
        simp only [List.flatten_cons, List.flatten_nil, List.append_nil]
        rw [List.drop_take, List.drop_take, List.drop_take, show p' + (i - v'.off) - p = (p' - p) + (i - v'.off) from Nat.sub_add_comm hpp, List.take_add, List.drop_drop, show p + (p' - p) = p' from Nat.add_sub_of_le hpp, Nat.add_sub_cancel_left]
      have hst2 : ∀ t, StrsAre (vs ++ [.str (S ((v'.chunk.take i).drop v'.off)) t]) ((ps ++ [(v'.chunk.take i).drop v'.off]).map S) := fun t => by
        rw [List.map_append]; exact strs_snoc hst
      have hvl : vs.length ≤ 1000 := by rw [strs_len hst, List.length_map]; omega
      refine seq_next (x_cons (x_if_j (fun lo led => i = v'.chunk.length ∧ lo = [(Str.ofString "rv", .ref a), (Str.ofString "opposite", .bool o), (Str.ofString "characters", row), (Str.ofString "self", .ref X.x)] ∧
        led = (a, lst vs nn) :: sObjT C.w X v' sT r) ?_ ?_))
      · tb_start
        refine ⟨fun hb => ?_, fun hb => ?_⟩
        · have hio : i = v'.off := by have := eq_of_beq hb; omega
          tb_start
          refine ⟨fun hb2 => ?_, fun hb2 => ?_⟩
          · tb_start
            have hne : ¬ i = v'.chunk.length := by have := bne_iff_ne.mp hb2; omega
            obtain ⟨c, e1, e2⟩ := h4.resolve_left hne
            refine' ⟨_, _, ?hf, ?hp, v', p', ps, vs, nn, _, rfl, rfl, SLed.ofT hsT, hI', hst, by omega, hfl, hpp, hI'.le, hgood, .inr ⟨c, ?_, e2⟩⟩
            case hf => kd_adr
            case hp => kwd_less
            have := hcs i h1 (by omega)
            rw [show p' + (i - v'.off) = p' by omega] at this
            rw [this, ← e1, List.getElem?_eq_getElem (by omega)]
          · tb_start
            refine' ⟨_, _, ?hf, ?hp, by have := bne_eq_false_iff_eq.mp hb2; omega, rfl, rfl⟩
            case hf => kd_adr
            case hp => kwd_less
        · tb_start
          refine ⟨fun hb2 => ?_, fun hb2 => ?_⟩
          · tb_start
            refine sl_ss v'.off i rfl rfl (by omega) fun _ => ?_
            tb_start
            have hne : ¬ i = v'.chunk.length := by have := bne_iff_ne.mp hb2; omega
            obtain ⟨c, e1, e2⟩ := h4.resolve_left hne
            refine' ⟨_, _, ?hf, ?hp, { v' with off := i }, p' + (i - v'.off), _, _, nn + 1, _, rfl, rfl, SLed.mk ?g1 ?g2 ?g3 ?g4 ?g5 ?g6 ?g7 hsT.1 hsT.2, hIi, hst2 _, ?_, hfl2, Nat.le_trans hpp (Nat.le_add_right _ _), hIi.le, hg2, .inr ⟨c, ?_, e2⟩⟩
            case hf => kd_adr
            case hp => kwd_less
            case g1 => rfl
            case g2 => rfl
            case g3 => rfl
            case g4 => rfl
            case g5 => rfl
            case g6 => exact ⟨sT.t9, rfl⟩
            case g7 => rfl
            · rw [List.length_append]; simp only [List.length_cons, List.length_nil]; omega
            · have := hcs i h1 (by omega)
              rw [this, ← e1, List.getElem?_eq_getElem (by omega)]
          · tb_start
            refine' ⟨_, _, ?hf, ?hp, by have := bne_eq_false_iff_eq.mp hb2; omega, rfl, rfl⟩
            case hf => kd_adr
            case hp => kwd_less
      · rintro lo led ⟨hil, rfl, rfl⟩
        tb_start
        refine sl_sn v'.off rfl hofl (by omega) fun tq => ?_
        tb_start
        have ed : (v'.chunk.take i).drop v'.off = v'.chunk.drop v'.off := by rw [hil, List.take_length]
        rw [ed] at hfl2 hst2
        have hst3 := hst2 tq
        generalize hps : ps ++ [v'.chunk.drop v'.off] = ps2 at hfl2 hst3
        have hpl : ps2.length = ps.length + 1 := by rw [← hps, List.length_append]; rfl
        generalize vs ++ [Value.str (S (List.drop v'.off v'.chunk)) tq] = vs2 at hst3 ⊢
        have hI3 : Inv X (rcSV X v' 10240) (p' + (i - v'.off)) := by
          have z := hIi.rc (m := 10240) (by omega) hil
          exact z
        refine WP.part (led' := sObjT C.w X v' sT ((a, lst vs2 (nn + 1)) :: r)) ?_ (by kwd_less)
        refine Meets.at hC (by omega) (readChunk_ok (X := X) (v := v') (m := 10240) (.inr ⟨rfl, rfl, rfl⟩) (SLed.ofT hsT) hT hz (by omega) hI'.place_le (by have := hI'.ne_le; omega) fun l' hl' => ?_) fun _ _ h => h
        obtain ⟨u3, u4, u5, u7, u8, u9, up, n8, errs', he1', he2', rfl⟩ := hl'
        tb_start
        refine ⟨fun hb2 => ?_, fun hb2 => ?_⟩
        · have hnil : rcData X v' 10240 = [] := by simpa using hb2
          have hend := hIi.done hil (rc_empty (m := 10240) (by omega) hIi hnil)
          tb_start
          refine' ⟨_, _, ?hf, ?hp, rcSV X v' 10240, p' + (i - v'.off), ps2, vs2, nn + 1, _, rfl, rfl, SLed.mk ?g1 ?g2 ?g3 ?g4 ?g5 ?g6 ?g7 he1' he2', hI3, hst3, u154 hpl hlen, hfl2, Nat.le_trans hpp (Nat.le_add_right _ _), hIi.le, hg2, .inl hend⟩
          case hf => kd_adr
          case hp => kwd_less
          case g1 => rfl
          case g2 => rfl
          case g3 => rfl
          case g4 => rfl
          case g5 => rfl
          case g6 => exact ⟨u9, rfl⟩
          case g7 => rfl
        · have hne : rcData X v' 10240 ≠ [] := by intro e; rw [e] at hb2; cases hb2
          have hlt := rc_rest hne
          tb_start
          refine' ⟨_, hlt, _, _, ?hf, ?hp, rcSV X v' 10240, p' + (i - v'.off), ps2, vs2, nn + 1, _, rfl, rfl, SLed.mk ?g1 ?g2 ?g3 ?g4 ?g5 ?g6 ?g7 he1' he2', hI3, hst3, hfl2, Nat.le_trans hpp (Nat.le_add_right _ _), hg2, u167 hpl hlen hlt, rfl⟩
          case hf => kd_adr
          case hp => kwd_less
          case g1 => rfl
          case g2 => rfl
          case g3 => rfl
          case g4 => rfl
          case g5 => rfl
          case g6 => exact ⟨u9, rfl⟩
          case g7 => rfl
  · rintro lo led ⟨v', e, ps, vs, nn, l', rfl, rfl, hl', hI', hst, hlen, hfl, hu⟩
    tb_start
    refine f_join .here hst (by rw [hfl, List.length_drop, List.length_take]; exact u179 hml hz hlen) fun _ => ?_
    rw [hfl]
    tb_start
    exact ⟨l', by kwd_less, q e l' v' _ hu hl' hI'⟩
end
section
local macro_rules | `(tactic| ktd_rel) => `(tactic| first
  | (refine Br.T (by first | rfl | (simp only [Bool.not_eq_true', Bool.not_eq_false', Bool.and_eq_true, Bool.or_eq_true, bne_eq_false_iff_eq, decide_eq_true_eq, beq_iff_eq, bne_iff_ne, ne_eq]; omega)) ?_)
  | (refine Br.F (by first | rfl | (simp only [Bool.not_eq_true', Bool.not_eq_false', bne_iff_ne, Bool.and_eq_false_iff, Bool.or_eq_false_iff, decide_eq_false_iff_not, beq_eq_false_iff_ne, bne_eq_false_iff_eq, ne_eq]; omega)) ?_))
theorem lit_A : Str.ofString "A" = S [65] := by decide +kernel
theorem lit_Z : Str.ofString "Z" = S [90] := by decide +kernel
theorem strs_take {vs : List Value} {l : List Nat} {i : Nat} (hi : i < l.length) {c : Nat} {t : Tok} (h : StrsAre vs ((l.take i).map fun c => S [smallC c])) (e : c = smallC l[i]) : StrsAre (vs ++ [.str (S [c]) t]) ((l.take (i + 1)).map fun c => S [smallC c]) := by
  rw [List.take_add_one, List.getElem?_eq_getElem hi, List.map_append, e]
  exact strs_snoc h
theorem lower_ok {w : World} {l : List Nat} {t : Tok} {r : Led} {Q : Value → Led → Prop} (hz : l.length ≤ 100) (hc : ∀ c ∈ l, c ≤ 65535) (q : ∀ t, Q (.str (S (l.map smallC)) t) r) : Meets 1 w 42 [.str (S l) t] r Q := by
  refine' meets_of [(Str.ofString "text", .str (S l) t)] ?ho ?hcd ?hbind ?hloc ?hfl ?_
  kwd_rel
  intro C hw hC; subst hw; dsimp only [revd]
  tb_start
  refine e_comp_str hC (by decide +kernel) (by decide +kernel) l (by omega) (fun i ys led => led = r ∧ StrsAre ys ((l.take i).map fun c => S [smallC c])) ?_ ?_ ?_
  · tb_start
    exact ⟨rfl, ⟨_, rfl⟩, rfl, .nil⟩
  · rintro i hi t' ys led I oI c oC D nn ⟨rfl, hys⟩ hCo
    tb_rel
    refine ⟨rfl, Br.T rfl ?_⟩
    tb_start
    rw [lit_A]
    tb_start
    refine ⟨fun h1 => ?_, fun h1 => ?_⟩
    · tb_start
      rw [lit_Z]
      tb_start
      have g1 := of_decide_eq_true h1
      refine ⟨fun h2 => ?_, fun h2 => ?_⟩
      · have g2 := of_decide_eq_true h2
        tb_start
        refine f_chr (by omega) (by omega) fun t => ⟨rfl, _, Part.refl _, rfl, strs_take hi hys ?_⟩
        unfold smallC; rw [if_pos ⟨g1, g2⟩]; omega
      · have g2 := of_decide_eq_false h2
        tb_start
        exact ⟨rfl, _, Part.refl _, rfl, strs_take hi hys (by unfold smallC; rw [if_neg (by omega)])⟩
    · have g1 := of_decide_eq_false h1
      tb_start
      exact ⟨rfl, _, Part.refl _, rfl, strs_take hi hys (by unfold smallC; rw [if_neg (by omega)])⟩
  · rintro ys led D nn hyl ⟨rfl, hys⟩
    tb_start
    rw [List.take_length] at hys
    have e : (l.map fun c => S [smallC c]) = (l.map fun c => [smallC c]).map S := by rw [List.map_map]; rfl
    have ef : (l.map fun c => [smallC c]).flatten = l.map smallC := by clear hys hyl e q hz hc; induction l with | nil => rfl | cons a r ih => simp [ih]
    rw [e] at hys
    refine f_join .here hys (by rw [ef, List.length_map, List.length_map]; omega) fun t => ?_
    rw [ef]
    tb_start
    exact ⟨_, by kwd_less, q _⟩
theorem small_ok {w : World} {l : List Nat} {t : Tok} {r : Led} {Q : Value → Led → Prop} (hz : l.length ≤ 100) (hc : ∀ c ∈ l, c ≤ 65535) (q : ∀ t, Q (.str (S (l.map smallC)) t) r) : Meets 1 w 772 [.str (S l) t] r Q := by
  refine' meets_of [(Str.ofString "word", .str (S l) t)] ?ho ?hcd ?hbind ?hloc ?hfl ?_
  kwd_rel
  intro C hw hC; subst hw; dsimp only [revd]
  tb_start
  refine e_comp_str hC (by decide +kernel) (by decide +kernel) l (by omega) (fun i ys led => led = r ∧ StrsAre ys ((l.take i).map fun c => S [smallC c])) ?_ ?_ ?_
  · tb_start
    exact ⟨rfl, ⟨_, rfl⟩, rfl, .nil⟩
  · rintro i hi t' ys led I oI c oC D nn ⟨rfl, hys⟩ hCo
    tb_rel
    refine ⟨rfl, Br.T rfl ?_⟩
    tb_start
    rw [lit_A]
    tb_start
    refine ⟨fun h1 => ?_, fun h1 => ?_⟩
    · tb_start
      rw [lit_Z]
      tb_start
      have g1 := of_decide_eq_true h1
      refine ⟨fun h2 => ?_, fun h2 => ?_⟩
      · have g2 := of_decide_eq_true h2
        tb_start
        refine f_chr (by omega) (by omega) fun t => ⟨rfl, _, Part.refl _, rfl, strs_take hi hys ?_⟩
        unfold smallC; rw [if_pos ⟨g1, g2⟩]; omega
      · have g2 := of_decide_eq_false h2
        tb_start
        exact ⟨rfl, _, Part.refl _, rfl, strs_take hi hys (by unfold smallC; rw [if_neg (by omega)])⟩
    · have g1 := of_decide_eq_false h1
      tb_start
      exact ⟨rfl, _, Part.refl _, rfl, strs_take hi hys (by unfold smallC; rw [if_neg (by omega)])⟩
  · rintro ys led D nn hyl ⟨rfl, hys⟩
    tb_start
    rw [List.take_length] at hys
    have e : (l.map fun c => S [smallC c]) = (l.map fun c => [smallC c]).map S := by rw [List.map_map]; rfl
    have ef : (l.map fun c => [smallC c]).flatten = l.map smallC := by clear hys hyl e q hz hc; induction l with | nil => rfl | cons a r ih => simp [ih]
    rw [e] at hys
    refine f_join .here hys (by rw [ef, List.length_map, List.length_map]; omega) fun t => ?_
    rw [ef]
    tb_start
    exact ⟨_, by kwd_less, q _⟩
end
section
theorem CurLed.ext {w : World} {cv : Value} {h : Option Tag} {r l : Led} (x : CurLed w cv h r l) (p : Addr × Obj) : ∃ l', CurLed w cv h (p :: r) l' ∧ Part l' (p :: l) := by
  cases h with
  | none => obtain ⟨e, rfl⟩ := x; exact ⟨_, ⟨e, rfl⟩, Part.refl _⟩
  | some g =>
    obtain ⟨a, o, b, ob, t1, t2, e1, e2, e3, rfl⟩ := x
    exact ⟨_, ⟨a, o, b, ob, t1, t2, e1, e2, e3, rfl⟩, .cons (.skip .here) (.cons (.skip .here) (Part.refl _))⟩
theorem CurLed.drop {w : World} {cv : Value} {h : Option Tag} {r l : Led} {p : Addr × Obj} (x : CurLed w cv h (p :: r) l) : ∃ l', CurLed w cv h r l' ∧ Part (p :: l') l := by
  cases h with
  | none => obtain ⟨e, rfl⟩ := x; exact ⟨_, ⟨e, rfl⟩, Part.refl _⟩
  | some g =>
    obtain ⟨a, o, b, ob, t1, t2, e1, e2, e3, rfl⟩ := x
    exact ⟨_, ⟨a, o, b, ob, t1, t2, e1, e2, e3, rfl⟩, .cons (.skip (.skip .here)) (Part.refl _)⟩
theorem CurLed.told {w : World} {cv : Value} {g : Tag} {r l led : Led} (x : CurLed w cv (some g) r l) (hs : ∀ p ∈ l, p ∈ led) : ToldTok w led cv (.tag g) := by
  obtain ⟨a, o, b, ob, t1, t2, rfl, e2, e3, rfl⟩ := x
  exact .tag (hs _ (.head _)) (hs _ (.tail _ (.head _))) e2 e3
theorem SLed.mem {w : World} {X : SX} {v : SV} {r l : Led} (h : SLed w X v r l) {p : Addr × Obj} (hp : p ∈ r) : p ∈ l := by
  obtain ⟨t3, t4, t5, t7, t8, t9, tp, n, errs, _, _, rfl⟩ := h
  exact .tail _ (.tail _ (.tail _ (.tail _ (.tail _ (.tail _ hp)))))
theorem crlf_count : ∀ l : List Nat, (crlf l).count 1 = l.count 1 := by
  intro l
  induction l using crlf.induct with
  | case1 r ih => rw [crlf_pair, List.count_cons, List.count_cons, List.count_cons, ih]; rfl
  | case2 a r h ih =>
    rw [crlf_cons (fun z => by obtain ⟨rfl, z⟩ := z; match r, z with | b :: r', z => exact h r' rfl (by simpa using z)), List.count_cons, List.count_cons, ih]
  | case3 => rfl
theorem mend_count (l : List Nat) : (mend l).count 1 = l.count 1 := by
  rw [mend, ← crlf_count l]
  generalize crlf l = m
  induction m with
  | nil => rfl
  | cons a r ih =>
    rw [List.map_cons, List.count_cons, List.count_cons, ih]
    by_cases h : a = 13
    · subst h; rfl
    · rw [if_neg h]
theorem Inv.all {X : SX} {v : SV} (h : Inv X v (mend X.T).length) : v.ne = (mend X.T).count 1 := by
  obtain ⟨prev, h1, h2, h3, h4, h5, h6, h7⟩ := h
  have e : (mend (rest X v)).length = 0 := by
    have := congrArg List.length h1
    rw [List.length_append, List.length_append] at this
    omega
  have e2 : rest X v = [] := Decidable.byContradiction fun z => mend_ne z (List.length_eq_zero_iff.mp e)
  have e3 : X.T.drop v.place = [] := by unfold rest at e2; exact (List.append_eq_nil_iff.mp e2).2
  have e4 : X.T.length ≤ v.place := List.drop_eq_nil_iff.mp e3
  rw [h6, mend_count, List.take_of_length_le e4]
theorem Part.left {a b : Led} : Part a (a ++ b) := ⟨b, .refl _⟩
theorem Part.pick9P {led r1 r2 r3 r4 r5 r6 r7 r8 r9 c : Led} {p1 p2 p3 p4 p5 p6 p7 p8 p9 : Addr × Obj} (h1 : Pick1 p1 led r1) (h2 : Pick1 p2 r1 r2) (h3 : Pick1 p3 r2 r3) (h4 : Pick1 p4 r3 r4) (h5 : Pick1 p5 r4 r5) (h6 : Pick1 p6 r5 r6) (h7 : Pick1 p7 r6 r7) (h8 : Pick1 p8 r7 r8) (h9 : Pick1 p9 r8 r9) (hc : Part c r9) :
    Part (p1 :: p2 :: p3 :: p4 :: p5 :: p6 :: p7 :: p8 :: p9 :: c) led := .cons h1 (.cons h2 (.cons h3 (.cons h4 (.cons h5 (.cons h6 (.cons h7 (.cons h8 (.cons h9 hc))))))))
section
variable {fn : Fn} {C : Cx fn} {lo : Lo} {led led' : Led} {k : Nat}
theorem WP.gen {α : Type} {t : Sem α} {Q : α → Lo → Led → Prop} (h : ∀ L, L = led → WP C lo L t Q) : WP C lo led t Q := h led rfl
/-- for over a list of tuples that the head makes -/
theorem x_for_tupsN (hC : C.Ok k) {elts : List Expr} {kk : Nat} {px : Pos} {iter : Expr} {body : List Stmt} {pos : Pos} {Q : Flow → Lo → Led → Prop} (hi : noSet iter = true) (P : Addr → List Value → Nat → Prop) (hr : ∀ ax vs n, P ax vs n → ∀ v ∈ vs, ∃ a, v = .ref a) (J : Addr → List Value → Nat → Nat → Lo → Led → Prop)
    (hJl : ∀ ax vs n i lo led, J ax vs n i lo led → (ax, lst vs n) ∈ led)
    (h : WP C lo led (eval iter C.env) (fun v lo led => ∃ ax vs n, v = .ref ax ∧ P ax vs n ∧ Less (J ax vs n 0) lo led))
    (turn : ∀ ax vs n, P ax vs n → ∀ i (hi : i < vs.length) lo led I o, J ax vs n i lo led → WP C lo ((I, o) :: led) (assign (.Tuple elts kk px) C.env vs[i]) (fun _ lo led => WP C lo led (execs body C.env) (Turn (J ax vs n (i + 1)) I o Q)))
    (done : ∀ ax vs n, P ax vs n → ∀ lo led, J ax vs n vs.length lo led → Q .next lo led) : WP C lo led (exec (.For (.Tuple elts kk px) iter body [] pos) C.env) Q := fun s hs => by
  refine wpAny_For (h.go hs fun v lo₁ led₁ s₁ st₁ h₁ => ?_) (fold_no (by cases iter <;> first | rfl | cases hi))
  obtain ⟨ax, vs, n, rfl, hP, lo₂, led₂, hf, hp, hJ⟩ := h₁
  replace st₁ := st₁.less hf hp
  obtain ⟨m, F, kn⟩ := st₁.F
  have hm := hJl _ _ _ _ _ _ hJ
  have hIs : s₁.heap.IsList ax vs.toArray := News.isList st₁.N hm
  have hlt : ax < s₁.heap.objs.size := st₁.lt _ hm
  have hsz : vs.toArray.size = vs.length := by simp
  refine wpAny_pyIter_list hIs ?_
  refine for_core (J ax vs n) (Walks.list hC.hd s₁.heap.objs.size ax (Nat.ne_of_lt hlt) vs.toArray) (fun i h z => let ⟨o, ho, _⟩ := z.1; ⟨o, ho⟩) (fun b hb => ?_) (fun i v s R hv hst hR => ?_)
    (st₁.alloc (F.push _) kn (N := st₁.N.push F _ rfl) st₁.lt st₁.tk) ⟨⟨_, Heap.get?_push_size _ rfl, rfl, rfl⟩, hIs.push _⟩ hJ
    (fun i v lo led o' hi' hv hJ' => ?_) (fun lo led hJ' => done ax vs n hP lo led (by rwa [hsz] at hJ'))
  · rcases List.mem_cons.mp hb with rfl | hb
    · exact .inl rfl
    · rw [List.mem_singleton.mp hb]; exact .inr ⟨lst vs n, hJl ax vs n⟩
  · have hv' : v ∈ vs := by have := List.mem_of_getElem? (l := vs) (i := i) (a := v) (by simpa using hv); exact this
    obtain ⟨T, rfl⟩ := hr ax vs n hP v hv'
    exact wpAny_letOwnedTupleGo_listiter hst.1 hR
  · have hi'' : i < vs.length := by rw [hsz] at hi'; exact hi'
    have hv' : v = vs[i] := by have : vs.toArray[i]? = some vs[i] := by simp [hi'']
                               rw [this] at hv; exact (Option.some.inj hv).symm
    subst hv'
    exact turn ax vs n hP i hi'' lo led _ o' hJ'
end
theorem ints_at {us : List Value} {N : List Int} (h : IntsAre us N) : us.length = N.length ∧ ∀ (i : Nat) (h1 : i < us.length) (h2 : i < N.length), ∃ t, us[i] = .int N[i] t := by
  induction h with
  | nil => exact ⟨rfl, fun i h1 => by simp at h1⟩
  | cons n t _ ih =>
    refine ⟨by simp [ih.1], fun i h1 h2 => ?_⟩
    cases i with
    | zero => exact ⟨t, rfl⟩
    | succ i => exact ih.2 i (by simpa using h1) (by simpa using h2)
/-- the text that the law builds -/
def pick (n : Int) : List Nat := pieces.getD (n.fmod 29).toNat []
def built (N : List Int) : List Nat := (N.map pick).flatten
theorem pieces_fine : ∀ p ∈ pieces, p.length ≤ 4 ∧ ∀ c ∈ p, c = 1 ∨ Fine c := by unfold Fine; decide
theorem pick_fine (n : Int) : (pick n).length ≤ 4 ∧ ∀ c ∈ pick n, c = 1 ∨ Fine c := by
  unfold pick
  rw [List.getD_eq_getElem?_getD]
  cases h : pieces[(n.fmod 29).toNat]? with
  | none => exact ⟨Nat.zero_le _, fun _ h => nomatch h⟩
  | some p => exact pieces_fine p (List.mem_of_getElem? h)
theorem built_len : ∀ N : List Int, (built N).length ≤ 4 * N.length
  | [] => Nat.le_refl _
  | n :: r => by
    have h1 := (pick_fine n).1
    have h2 := built_len r
    unfold built at h2 ⊢
    rw [List.map_cons, List.flatten_cons, List.length_append, List.length_cons]
    omega
theorem built_fine (N : List Int) : ∀ c ∈ built N, c = 1 ∨ Fine c := fun c hc => by
  unfold built at hc
  obtain ⟨p, hp, hcp⟩ := List.mem_flatten.mp hc
  obtain ⟨n, _, rfl⟩ := List.mem_map.mp hp
  exact (pick_fine n).2 c hcp
theorem same_fn {K : Frag} {f : Addr} {name qual name' qual' : Str} {params params' : Arguments} {body body' : List Stmt} {scope scope' : Scope} {dV kV doc pm cdv ct oc dV' kV' doc' pm' cdv' ct' oc' : Value} {an od an' od' : Option Addr} {osl osl' : Array (Option Value)} {G : Prop}
    (h2 : K.lookup f = some ⟨oc, od, .func (fnOf name qual params body scope dV kV doc pm an cdv ct), osl⟩) (h1 : K.lookup f = some ⟨oc', od', .func (fnOf name' qual' params' body' scope' dV' kV' doc' pm' an' cdv' ct'), osl'⟩)
    (k : qual = qual' → body = body' → scope = scope' → G) : G := by
  rw [h1] at h2
  have e := Option.some.inj h2
  simp only [Obj.mk.injEq, Data.func.injEq, fnOf] at e
  obtain ⟨_, _, e, _⟩ := e
  injection e with _ a1 _ a2 a3
  injection a2 with a2
  exact k a1.symm a2.symm a3.symm
end
section
local macro_rules | `(tactic| ktd_rel) => `(tactic| first
  | (refine Br.T (by first | rfl | decide +kernel) ?_)
  | (refine Br.F (by first | rfl | decide +kernel) ?_))
theorem data_ok {w : World} {K : KX} {X : SX} {v : SV} {p : Nat} {h : Option Tag} {cv : Value} {qa : Addr} {n : Nat} {crest r l : Led} {Q : Value → Led → Prop}
    (hl : SLed w X v (kObjs w K X .none cv qa [] n crest) l) (hcur : CurLed w cv h r crest) (hT : ∀ c ∈ X.T, c = 1 ∨ Fine c) (hz : X.T.length ≤ 100) (hI : Inv X v p)
    (q0 : ∀ l', p = (mend X.T).length → Post w K X qa r false h p [] l' → Q (.bool false) l')
    (q : ∀ lv p' t l', SData (mend X.T) p h lv h p' t → Post w K X qa r lv h p' t l' → Q (.bool true) l') : Meets 5 w 304 [.ref K.k] l Q := by
  obtain ⟨sT, hsT, rfl⟩ := hl.fold
  refine' meets_of [(Str.ofString "self", .ref K.k)] ?ho ?hcd ?hbind ?hloc ?hfl ?_
  kwd_rel
  intro C hw hC; subst hw; dsimp only [revd]
  tb_start
  refine Meets.at hC (by omega) (char_ok (X := X) (v := v) (p := p) (SLed.ofT hsT) hT hz hI ?_ ?_) fun _ _ h => h
  · rintro l' v' hend hsl hI'
    obtain ⟨sT, hsT, rfl⟩ := hsl.fold
    tb_start
    refine' ⟨_, ?hp, q0 _ hend (Post.ofT (SLed.ofT hsT) ?hpart hcur rfl .nil hI')⟩
    case hp => keq_rows
    case hpart => kwd_less
  · rintro c l' v' t hc hsl hI' ho
    obtain ⟨sT, hsT, rfl⟩ := hsl.fold
    tb_start
    rw [lit_amp, S1]
    refine ⟨fun h1 => ?_, fun h1 => ?_⟩
    · have h1 := of_decide_eq_true h1; subst h1
      tb_start
      refine' ⟨_, ?hp, q _ _ _ _ (.amp hc) (Post.ofT (SLed.ofT hsT) ?hpart hcur ⟨_, rfl⟩ .nil hI')⟩
      case hp => keq_rows
      case hpart => kwd_less
    have n1 := of_decide_eq_false h1
    tb_start
    rw [lit_lt, S1]
    refine ⟨fun h1 => ?_, fun h1 => ?_⟩
    · have h1 := of_decide_eq_true h1; subst h1
      tb_start
      refine' ⟨_, ?hp, q _ _ _ _ (.lt hc) (Post.ofT (SLed.ofT hsT) ?hpart hcur ⟨_, rfl⟩ .nil hI')⟩
      case hp => keq_rows
      case hpart => kwd_less
    have n2 := of_decide_eq_false h1
    tb_start
    rw [lit_nul, S1]
    refine ⟨fun h1 => ?_, fun h1 => ?_⟩
    · have h1 := of_decide_eq_true h1; subst h1
      tb_start
      refine' ⟨_, ?hp, q _ _ _ _ (.nul hc) (Post.ofT (SLed.ofT hsT) ?hpart hcur rfl (.q2 (.two ?m1 ?d1) (.two ?m2 ?d2)) hI')⟩
      case hp => keq_rows
      case hpart => kwd_less
      case d1 => assumption
      case d2 => assumption
      case m1 => exact Has.mem (by ked_read)
      case m2 => exact Has.mem (by ked_read)
    have n3 := of_decide_eq_false h1
    tb_start
    refine c_spaces hC ?_
    tb_start
    refine ⟨fun h1 => ?_, fun h1 => ?_⟩
    · have hb : decide (c ∈ blanks) = true := by rw [← blank_space (fun e => mend_no13 X.T (e ▸ List.mem_of_getElem? hc))]; exact h1
      tb_start
      refine' WP.toT (X := X) ?hp ?_
      case hp => keq_hits
      refine Meets.at hC (by omega) (until_ok (X := X) (v := v') (p := p + 1) (row := .ref 22) (o := true) (.inl rfl) InRow.spaces (SLed.ofT hsT) hT hz hI' ?_) fun _ _ h => h
      rintro e l' v'' t'' hu hsl hI''
      obtain ⟨sT, hsT, rfl⟩ := hsl.fold
      have hu2 : UpTo (fun c => decide (c ∈ blanks)) (mend X.T) p e := (hu.congr fun c hm => by rw [beq_true]; exact blank_space (fun e => mend_no13 X.T (e ▸ hm))).back hc hb
      have hml := mend_len X.T
      tb_start
      refine b_adds (by rw [List.length_drop, List.length_take]; simp only [List.length_cons, List.length_nil]; omega) fun t''' => ?_
      rw [take_one hc hu.1]
      tb_start
      refine' ⟨_, ?hp, q _ _ _ _ (.blank hc (of_decide_eq_true hb) hu2) (Post.ofT (SLed.ofT hsT) ?hpart hcur rfl (.q1 (.two ?m1 ?d1)) hI'')⟩
      case hp => keq_rows
      case hpart => kwd_less
      case d1 => assumption
      case m1 => exact Has.mem (by ked_read)
    · have hb : decide (c ∈ blanks) = false := by rw [← blank_space (fun e => mend_no13 X.T (e ▸ List.mem_of_getElem? hc))]; exact h1
      tb_start
      refine' WP.toT (X := X) ?hp ?_
      case hp => keq_hits
      refine Meets.at hC (by omega) (until_ok (X := X) (v := v') (p := p + 1) (o := false) (.inr ⟨rfl, rfl⟩) (InRow.tup (l := [38, 60, 0]) .here (by repeat' constructor)) (SLed.ofT hsT) hT hz hI' ?_) fun _ _ h => h
      rintro e l' v'' t'' hu hsl hI''
      obtain ⟨sT, hsT, rfl⟩ := hsl.fold
      have hu2 : UpTo (fun c => !decide (c ∈ [38, 60, 0])) (mend X.T) p e := (hu.congr fun c hm => by rw [beq_false]).back hc (by simp [n1, n2, n3])
      have hml := mend_len X.T
      tb_start
      refine b_adds (by rw [List.length_drop, List.length_take]; simp only [List.length_cons, List.length_nil]; omega) fun t''' => ?_
      rw [take_one hc hu.1]
      tb_start
      refine' ⟨_, ?hp, q _ _ _ _ (.text hc (of_decide_eq_false hb) n1 n2 n3 hu2) (Post.ofT (SLed.ofT hsT) ?hpart hcur rfl (.q1 (.two ?m1 ?d1)) hI'')⟩
      case hp => keq_rows
      case hpart => kwd_less
      case d1 => assumption
      case m1 => exact Has.mem (by ked_read)
end
section
local macro_rules | `(tactic| ktd_rel) => `(tactic| first
  | (refine Br.T (by first | rfl | decide +kernel) ?_)
  | (refine Br.F (by first | rfl | decide +kernel) ?_))
theorem tag_ok {w : World} {K : KX} {X : SX} {v : SV} {p : Nat} {h : Option Tag} {cv : Value} {qa : Addr} {n : Nat} {crest r l : Led} {Q : Value → Led → Prop}
    (hl : SLed w X v (kObjs w K X .none cv qa [] n crest) l) (hcur : CurLed w cv h r crest) (hT : ∀ c ∈ X.T, c = 1 ∨ Fine c) (hz : X.T.length ≤ 100) (hI : Inv X v p)
    (q : ∀ lv h' p' t l', STag (mend X.T) p h lv h' p' t → Post w K X qa r lv h' p' t l' → Q (.bool true) l') : Meets 5 w 353 [.ref K.k] l Q := by
  obtain ⟨sT, hsT, rfl⟩ := hl.fold
  refine' meets_of [(Str.ofString "self", .ref K.k)] ?ho ?hcd ?hbind ?hloc ?hfl ?_
  kwd_rel
  intro C hw hC; subst hw; dsimp only [revd]
  tb_start
  refine Meets.at hC (by omega) (char_ok (X := X) (v := v) (p := p) (SLed.ofT hsT) hT hz hI ?_ ?_) fun _ _ h => h
  · rintro l' v' hend hsl hI'
    obtain ⟨sT, hsT, rfl⟩ := hsl.fold
    tb_start
    refine c_letters0 hC ?_
    tb_start
    refine Meets.at hC (by omega) (unget_none ?_) fun _ _ h => h
    tb_start
    refine' ⟨_, ?hp, q _ _ _ _ _ (.end hend) (Post.ofT (SLed.ofT hsT) ?hpart hcur ⟨_, rfl⟩ (.q2 (.two ?m1 ?d1) (.two ?m2 ?d2)) hI')⟩
    case hp => keq_rows
    case hpart => kwd_less
    case d1 => assumption
    case d2 => (rw [← lit_lt]; assumption)
    case m1 => exact Has.mem (by ked_read)
    case m2 => exact Has.mem (by ked_read)
  · rintro c l' v' t hc hsl hI' ho
    obtain ⟨sT, hsT, rfl⟩ := hsl.fold
    tb_start
    rw [lit_bang, S1]
    refine ⟨fun h1 => ?_, fun h1 => ?_⟩
    · have h1 := of_decide_eq_true h1; subst h1
      tb_start
      refine' ⟨_, ?hp, q _ _ _ _ _ (.bang hc) (Post.ofT (SLed.ofT hsT) ?hpart hcur ⟨_, rfl⟩ .nil hI')⟩
      case hp => keq_rows
      case hpart => kwd_less
    have n1 := of_decide_eq_false h1
    tb_start
    rw [lit_slash, S1]
    refine ⟨fun h1 => ?_, fun h1 => ?_⟩
    · have h1 := of_decide_eq_true h1; subst h1
      tb_start
      refine' ⟨_, ?hp, q _ _ _ _ _ (.slash hc) (Post.ofT (SLed.ofT hsT) ?hpart hcur ⟨_, rfl⟩ .nil hI')⟩
      case hp => keq_rows
      case hpart => kwd_less
    have n2 := of_decide_eq_false h1
    tb_start
    refine c_letters hC ?_
    tb_start
    refine ⟨fun h1 => ?_, fun h1 => ?_⟩
    · have h1 := of_decide_eq_true h1
      tb_start
      refine' ⟨_, ?hp, q _ _ _ _ _ (.letter hc h1) (Post.ofT (h' := some ⟨false, [c], false⟩) (SLed.ofT hsT) ?hpart ⟨_, _, _, _, _, _, rfl, ?d1, ⟨0, rfl⟩, rfl⟩ ⟨_, rfl⟩ .nil hI')⟩
      case hp => keq_rows
      case d1 => assumption
      case hpart => exact Part.cons (.skip .here) (Part.cons (.skip .here) (Part.skip hcur.rest))
    have n3 := of_decide_eq_false h1
    tb_start
    rw [lit_gt, S1]
    refine ⟨fun h1 => ?_, fun h1 => ?_⟩
    · have h1 := of_decide_eq_true h1; subst h1
      tb_start
      refine' ⟨_, ?hp, q _ _ _ _ _ (.gt hc) (Post.ofT (SLed.ofT hsT) ?hpart hcur ⟨_, rfl⟩ (.q2 (.two ?m1 ?d1) (.two ?m2 ?d2)) hI')⟩
      case hp => keq_rows
      case hpart => kwd_less
      case d1 => assumption
      case d2 => (rw [← lit_ltgt]; assumption)
      case m1 => exact Has.mem (by ked_read)
      case m2 => exact Has.mem (by ked_read)
    have n4 := of_decide_eq_false h1
    tb_start
    rw [lit_ask, S1]
    refine ⟨fun h1 => ?_, fun h1 => ?_⟩
    · have h1 := of_decide_eq_true h1; subst h1
      tb_start
      refine' WP.toT (X := X) ?hp ?_
      case hp => keq_hits
      refine Meets.at hC (by omega) (unget_ok (X := X) (v := v') (p := p) (SLed.ofT hsT) hz hI' ho hc ?_) fun _ _ h => h
      rintro l' v'' hsl hI''
      obtain ⟨sT, hsT, rfl⟩ := hsl.fold
      tb_start
      refine' ⟨_, ?hp, q _ _ _ _ _ (.ask hc) (Post.ofT (SLed.ofT hsT) ?hpart hcur ⟨_, rfl⟩ (.q1 (.two ?m1 ?d1)) hI'')⟩
      case hp => keq_rows
      case hpart => kwd_less
      case d1 => assumption
      case m1 => exact Has.mem (by ked_read)
    have n5 := of_decide_eq_false h1
    tb_start
    refine' WP.toT (X := X) ?hp ?_
    case hp => keq_hits
    refine Meets.at hC (by omega) (unget_ok (X := X) (v := v') (p := p) (SLed.ofT hsT) hz hI' ho hc ?_) fun _ _ h => h
    rintro l' v'' hsl hI''
    obtain ⟨sT, hsT, rfl⟩ := hsl.fold
    tb_start
    refine' ⟨_, ?hp, q _ _ _ _ _ (.other hc n2 n3 n1 n4 n5) (Post.ofT (SLed.ofT hsT) ?hpart hcur ⟨_, rfl⟩ (.q2 (.two ?m1 ?d1) (.two ?m2 ?d2)) hI'')⟩
    case hp => keq_rows
    case hpart => kwd_less
    case d1 => assumption
    case d2 => (rw [← lit_lt]; assumption)
    case m1 => exact Has.mem (by ked_read)
    case m2 => exact Has.mem (by ked_read)
end
section
local macro_rules | `(tactic| ktd_rel) => `(tactic| first
  | (refine Br.T (by first | rfl | decide +kernel) ?_)
  | (refine Br.F (by first | rfl | decide +kernel) ?_))
theorem close_ok {w : World} {K : KX} {X : SX} {v : SV} {p : Nat} {h : Option Tag} {cv : Value} {qa : Addr} {n : Nat} {crest r l : Led} {Q : Value → Led → Prop}
    (hl : SLed w X v (kObjs w K X .none cv qa [] n crest) l) (hcur : CurLed w cv h r crest) (hT : ∀ c ∈ X.T, c = 1 ∨ Fine c) (hz : X.T.length ≤ 100) (hI : Inv X v p)
    (q : ∀ lv h' p' t l', SClose (mend X.T) p h lv h' p' t → Post w K X qa r lv h' p' t l' → Q (.bool true) l') : Meets 5 w 360 [.ref K.k] l Q := by
  obtain ⟨sT, hsT, rfl⟩ := hl.fold
  refine' meets_of [(Str.ofString "self", .ref K.k)] ?ho ?hcd ?hbind ?hloc ?hfl ?_
  kwd_rel
  intro C hw hC; subst hw; dsimp only [revd]
  tb_start
  refine Meets.at hC (by omega) (char_ok (X := X) (v := v) (p := p) (SLed.ofT hsT) hT hz hI ?_ ?_) fun _ _ h => h
  · rintro l' v' hend hsl hI'
    obtain ⟨sT, hsT, rfl⟩ := hsl.fold
    tb_start
    refine c_letters0 hC ?_
    tb_start
    refine' ⟨_, ?hp, q _ _ _ _ _ (.end hend) (Post.ofT (SLed.ofT hsT) ?hpart hcur ⟨_, rfl⟩ (.q2 (.two ?m1 ?d1) (.two ?m2 ?d2)) hI')⟩
    case hp => keq_rows
    case hpart => kwd_less
    case d1 => assumption
    case d2 => (rw [← lit_ltslash]; assumption)
    case m1 => exact Has.mem (by ked_read)
    case m2 => exact Has.mem (by ked_read)
  · rintro c l' v' t hc hsl hI' ho
    obtain ⟨sT, hsT, rfl⟩ := hsl.fold
    tb_start
    refine c_letters hC ?_
    tb_start
    refine ⟨fun h1 => ?_, fun h1 => ?_⟩
    · have h1 := of_decide_eq_true h1
      tb_start
      refine' ⟨_, ?hp, q _ _ _ _ _ (.letter hc h1) (Post.ofT (h' := some ⟨true, [c], false⟩) (SLed.ofT hsT) ?hpart ⟨_, _, _, _, _, _, rfl, ?d1, ⟨0, rfl⟩, rfl⟩ ⟨_, rfl⟩ .nil hI')⟩
      case hp => keq_rows
      case d1 => assumption
      case hpart => exact Part.cons (.skip .here) (Part.cons (.skip .here) (Part.skip hcur.rest))
    have n1 := of_decide_eq_false h1
    tb_start
    rw [lit_gt, S1]
    refine ⟨fun h1 => ?_, fun h1 => ?_⟩
    · have h1 := of_decide_eq_true h1; subst h1
      tb_start
      refine' ⟨_, ?hp, q _ _ _ _ _ (.gt hc) (Post.ofT (SLed.ofT hsT) ?hpart hcur ⟨_, rfl⟩ (.q1 (.two ?m1 ?d1)) hI')⟩
      case hp => keq_rows
      case hpart => kwd_less
      case d1 => assumption
      case m1 => exact Has.mem (by ked_read)
    have n2 := of_decide_eq_false h1
    tb_start
    refine' WP.toT (X := X) ?hp ?_
    case hp => keq_hits
    refine Meets.at hC (by omega) (unget_ok (X := X) (v := v') (p := p) (SLed.ofT hsT) hz hI' ho hc ?_) fun _ _ h => h
    rintro l' v'' hsl hI''
    obtain ⟨sT, hsT, rfl⟩ := hsl.fold
    tb_start
    refine' ⟨_, ?hp, q _ _ _ _ _ (.other hc n1 n2) (Post.ofT (SLed.ofT hsT) ?hpart hcur ⟨_, rfl⟩ (.q1 (.three ?m1 ?m2 ?d1 ?d2)) hI'')⟩
    case hp => keq_rows
    case hpart => kwd_less
    case d1 => assumption
    case d2 => assumption
    case m1 => exact Has.mem (by ked_read)
    case m2 => exact Has.mem (by ked_read)
end
section
local macro_rules | `(tactic| ktd_rel) => `(tactic| first
  | (refine Br.T (by first | rfl | decide +kernel) ?_)
  | (refine Br.F (by first | rfl | decide +kernel) ?_))
theorem dict_gt : decide ((([] : List (Str × Value)).length : Int) < (([] : List Value).length : Int)) = false := by decide +kernel
theorem emit_ok {w : World} {K : KX} {X : SX} {v : SV} {p : Nat} {b : Bool} {nm : List Nat} {cv : Value} {qa : Addr} {n : Nat} {crest r l : Led} {Q : Value → Led → Prop}
    (hl : SLed w X v (kObjs w K X .none cv qa [] n crest) l) (hcur : CurLed w cv (some ⟨b, nm, false⟩) r crest) (hz : nm.length ≤ 100) (hnm : ∀ c ∈ nm, c ≤ 65535) (hI : Inv X v p)
    (q : ∀ l', Post w K X qa r true (some ⟨b, nm.map smallC, true⟩) p [.tag ⟨b, nm.map smallC, true⟩] l' → Q .none l') : Meets 3 w 297 [.ref K.k] l Q := by
  obtain ⟨sT, hsT, rfl⟩ := hl.fold
  obtain ⟨a, o, bb, ob, t1, t2, rfl, hd, hdat, rfl⟩ := hcur
  obtain ⟨dn, rfl⟩ := hdat
  refine' meets_of [(Str.ofString "self", .ref K.k)] ?ho ?hcd ?hbind ?hloc ?hfl ?_
  kwd_rel
  intro C hw hC; subst hw; dsimp only [revd]
  cases b
  · tb_start
    refine c_tags hC ?_
    tb_start
    ktd_rel
    tb_start
    refine Meets.at hC (by omega) (lower_ok hz hnm fun t => ?_) fun _ _ h => h
    tb_start
    refine' d_setname ?hp hd fun o1 hd1 => ?_
    case hp => kd_p1
    tb_start
    ktd_rel
    tb_start
    refine f_dict0 hC (by ked_read) fun d hs => ?_
    tb_start
    refine f_lenl (by ked_read) (Nat.zero_le _) fun _ => ?_
    tb_start
    refine f_lend (by ked_read) ⟨empty_dict, hs⟩ (Nat.zero_le _) fun _ => ?_
    tb_start
    refine Br.F dict_gt ?_
    tb_start
    refine' d_setdata ?hp hd1 fun o2 hd2 => ?_
    case hp => kd_p1
    tb_start
    ktd_rel
    tb_start
    refine' ⟨_, ?hp, q _ (Post.ofT (SLed.ofT hsT) ?hpart ⟨_, _, _, _, _, _, rfl, hd2, ⟨rfl, hs⟩, rfl⟩ ⟨_, rfl⟩ (.q1 (.tag ?m1 ?m2 hd2 ⟨rfl, hs⟩)) hI)⟩
    case hp => keq_rows
    case hpart => kwd_less
    case m1 => exact Has.mem (by ked_read)
    case m2 => exact Has.mem (by ked_read)
  · tb_start
    refine c_tags hC ?_
    tb_start
    ktd_rel
    tb_start
    refine Meets.at hC (by omega) (lower_ok hz hnm fun t => ?_) fun _ _ h => h
    tb_start
    refine' d_setname ?hp hd fun o1 hd1 => ?_
    case hp => kd_p1
    tb_start
    ktd_rel
    tb_start
    ktd_rel
    tb_start
    refine tr_list (by ked_read) (Nat.zero_le _) ?_
    ktd_rel
    tb_start
    have hd2 : DictIs C.w a o1 (tagKvs ⟨true, nm.map smallC, true⟩ bb t1 t) := hd1
    refine' ⟨_, ?hp, q _ (Post.ofT (SLed.ofT hsT) ?hpart ⟨_, _, _, _, _, _, rfl, hd2, ⟨dn, rfl⟩, rfl⟩ ⟨_, rfl⟩ (.q1 (.tag ?m1 ?m2 hd2 ⟨dn, rfl⟩)) hI)⟩
    case hp => keq_rows
    case hpart => kwd_less
    case m1 => exact Has.mem (by ked_read)
    case m2 => exact Has.mem (by ked_read)
end
section
local macro_rules | `(tactic| ktd_rel) => `(tactic| first
  | (refine Br.T (by first | rfl | decide +kernel) ?_)
  | (refine Br.F (by first | rfl | decide +kernel) ?_))
theorem bogus_ok {w : World} {K : KX} {X : SX} {v : SV} {p : Nat} {h : Option Tag} {cv : Value} {qa : Addr} {n : Nat} {crest r l : Led} {Q : Value → Led → Prop}
    (hl : SLed w X v (kObjs w K X .none cv qa [] n crest) l) (hcur : CurLed w cv h r crest) (hT : ∀ c ∈ X.T, c = 1 ∨ Fine c) (hz : X.T.length ≤ 100) (hI : Inv X v p)
    (q : ∀ lv h' p' t l', SBogus (mend X.T) p h lv h' p' t → Post w K X qa r lv h' p' t l' → Q (.bool true) l') : Meets 5 w 598 [.ref K.k] l Q := by
  obtain ⟨sT, hsT, rfl⟩ := hl.fold
  refine' meets_of [(Str.ofString "self", .ref K.k)] ?ho ?hcd ?hbind ?hloc ?hfl ?_
  kwd_rel
  intro C hw hC; subst hw; dsimp only [revd]
  have hml := mend_len X.T
  tb_start
  rw [lit_gt]
  refine Meets.at hC (by omega) (until_ok (X := X) (v := v) (p := p) (o := false) (.inr ⟨rfl, rfl⟩) InRow.str (SLed.ofT hsT) hT hz hI ?_) fun _ _ h => h
  rintro e l' v'' t'' hu hsl hI''
  obtain ⟨sT, hsT, rfl⟩ := hsl.fold
  have hu2 : UpTo (fun c => !decide (c ∈ [62])) (mend X.T) p e := hu.congr fun c hm => by rw [beq_false]
  have hlen : (((mend X.T).take e).drop p).length ≤ 100 := by rw [List.length_drop, List.length_take]; omega
  tb_start
  refine ⟨_, _, rfl, by omega, fun t' => ?_⟩
  rw [show Txt.replace (S (((mend X.T).take e).drop p)) (Str.ofString "\x00") (Str.ofString "\uFFFD") = S (noNul (((mend X.T).take e).drop p)) from by rw [lit_nul, lit_rep, replace_S]; rfl]
  tb_start
  refine' WP.toT (X := X) ?hp ?_
  case hp => keq_hits
  refine Meets.at hC (by omega) (char_ok (X := X) (v := v'') (p := e) (SLed.ofT hsT) hT hz hI'' ?_ ?_) fun _ _ h => h
  · rintro l' v' hend hsl hI'
    obtain ⟨sT, hsT, rfl⟩ := hsl.fold
    tb_start
    refine' ⟨_, ?hp, q _ _ _ _ _ (.mk hu2) (Post.ofT (SLed.ofT hsT) ?hpart hcur ⟨_, rfl⟩ (.q1 (.two ?m1 ?d1)) ?hI)⟩
    case hp => keq_rows
    case hpart => kwd_less
    case d1 => assumption
    case m1 => exact Has.mem (by ked_read)
    case hI => (rw [show min (e + 1) (mend X.T).length = e by omega]; exact hI')
  · rintro c l' v' t hc hsl hI' ho
    obtain ⟨sT, hsT, rfl⟩ := hsl.fold
    have hlt : e < (mend X.T).length := by
      rcases Nat.lt_or_ge e (mend X.T).length with z | z
      · exact z
      · rw [List.getElem?_eq_none z] at hc; cases hc
    tb_start
    refine' ⟨_, ?hp, q _ _ _ _ _ (.mk hu2) (Post.ofT (SLed.ofT hsT) ?hpart hcur ⟨_, rfl⟩ (.q1 (.two ?m1 ?d1)) ?hI)⟩
    case hp => keq_rows
    case hpart => kwd_less
    case d1 => assumption
    case m1 => exact Has.mem (by ked_read)
    case hI => (rw [show min (e + 1) (mend X.T).length = e + 1 by omega]; exact hI')
end
section
local macro_rules | `(tactic| ktd_rel) => `(tactic| first
  | (refine Br.T (by first | rfl | decide +kernel) ?_)
  | (refine Br.F (by first | rfl | decide +kernel) ?_))
theorem name_ok {w : World} {K : KX} {X : SX} {v : SV} {p : Nat} {b : Bool} {nm : List Nat} {cv : Value} {qa : Addr} {n : Nat} {crest r l : Led} {Q : Value → Led → Prop}
    (hl : SLed w X v (kObjs w K X .none cv qa [] n crest) l) (hcur : CurLed w cv (some ⟨b, nm, false⟩) r crest) (hT : ∀ c ∈ X.T, c = 1 ∨ Fine c) (hz : X.T.length ≤ 100) (hnl : nm.length ≤ 100) (hnm : ∀ c ∈ nm, c ≤ 65535) (hI : Inv X v p)
    (q : ∀ lv h' p' t l', SName (mend X.T) p b nm lv h' p' t → Post w K X qa r lv h' p' t l' → Q (.bool true) l') : Meets 5 w 367 [.ref K.k] l Q := by
  obtain ⟨sT, hsT, rfl⟩ := hl.fold
  obtain ⟨a, o, bb, ob, t1, t2, rfl, hd, hdat, rfl⟩ := hcur
  refine' meets_of [(Str.ofString "self", .ref K.k)] ?ho ?hcd ?hbind ?hloc ?hfl ?_
  kwd_rel
  intro C hw hC; subst hw; dsimp only [revd]
  tb_start
  refine Meets.at hC (by omega) (char_ok (X := X) (v := v) (p := p) (SLed.ofT hsT) hT hz hI ?_ ?_) fun _ _ h => h
  · rintro l' v' hend hsl hI'
    obtain ⟨sT, hsT, rfl⟩ := hsl.fold
    tb_start
    refine c_spaces0 hC ?_
    tb_start
    refine' ⟨_, ?hp, q _ _ _ _ _ (.end hend) (Post.ofT (SLed.ofT hsT) ?hpart ⟨a, o, bb, ob, t1, t2, rfl, hd, hdat, rfl⟩ ⟨_, rfl⟩ (.q1 (.two ?m1 ?d1)) hI')⟩
    case hp => keq_rows
    case hpart => kwd_less
    case d1 => assumption
    case m1 => exact Has.mem (by ked_read)
  · rintro c l' v' t hc hsl hI' ho
    obtain ⟨sT, hsT, rfl⟩ := hsl.fold
    have h13 : c ≠ 13 := fun e => mend_no13 X.T (e ▸ List.mem_of_getElem? hc)
    tb_start
    refine c_spaces hC ?_
    tb_start
    refine ⟨fun h1 => ?_, fun h1 => ?_⟩
    · rw [blank_space h13] at h1
      have h1 := of_decide_eq_true h1
      tb_start
      refine' ⟨_, ?hp, q _ _ _ _ _ (.stop hc (List.mem_append_left _ h1) (fun e => absurd (e ▸ h1) (by decide +kernel))) (Post.ofT (SLed.ofT hsT) ?hpart ⟨a, o, bb, ob, t1, t2, rfl, hd, hdat, rfl⟩ ⟨_, rfl⟩ .nil hI')⟩
      case hp => keq_rows
      case hpart => kwd_less
    rw [blank_space h13] at h1
    have n1 := of_decide_eq_false h1
    tb_start
    rw [lit_gt, S1]
    refine ⟨fun h1 => ?_, fun h1 => ?_⟩
    · have h1 := of_decide_eq_true h1; subst h1
      tb_start
      refine Meets.at hC (by omega) (emit_ok (X := X) (v := v') (SLed.ofT hsT) ⟨a, o, bb, ob, t1, t2, rfl, hd, hdat, rfl⟩ hnl hnm hI' ?_) fun _ _ h => h
      intro l' hpost
      tb_start
      exact ⟨_, Part.refl _, q _ _ _ _ _ (.gt hc) hpost⟩
    have n2 := of_decide_eq_false h1
    tb_start
    rw [lit_slash, S1]
    refine ⟨fun h1 => ?_, fun h1 => ?_⟩
    · have h1 := of_decide_eq_true h1; subst h1
      tb_start
      refine' ⟨_, ?hp, q _ _ _ _ _ (.stop hc (by decide +kernel) (by decide)) (Post.ofT (SLed.ofT hsT) ?hpart ⟨a, o, bb, ob, t1, t2, rfl, hd, hdat, rfl⟩ ⟨_, rfl⟩ .nil hI')⟩
      case hp => keq_rows
      case hpart => kwd_less
    have n3 := of_decide_eq_false h1
    have n4 : c ∉ ender := by
      unfold ender
      rw [List.mem_append]
      simp only [List.mem_cons, List.not_mem_nil, or_false]
      rintro (h | h | h)
      · exact n1 h
      · exact n3 h
      · exact n2 h
    tb_start
    rw [lit_nul, S1]
    refine ⟨fun h1 => ?_, fun h1 => ?_⟩
    · have h1 := of_decide_eq_true h1; subst h1
      tb_start
      refine d_getname (by ked_read) hd ?_
      tb_start
      rw [lit_rep]
      refine i_adds (a := nm) (by simp only [List.length_cons, List.length_nil]; omega) fun t => ?_
      refine' d_setname ?hp hd fun o1 hd1 => ?_
      case hp => kd_p1
      tb_start
      refine' ⟨_, ?hp, q _ _ _ _ _ (.nul hc) (Post.ofT (SLed.ofT hsT) ?hpart ⟨a, _, bb, ob, _, _, rfl, hd1, hdat, rfl⟩ rfl (.q1 (.two ?m1 ?d1)) hI')⟩
      case hp => keq_rows
      case hpart => kwd_less
      case d1 => assumption
      case m1 => exact Has.mem (by ked_read)
    have n5 := of_decide_eq_false h1
    tb_start
    refine d_getname (by ked_read) hd ?_
    tb_start
    refine i_adds (a := nm) (by simp only [List.length_cons, List.length_nil]; omega) fun t => ?_
    refine' d_setname ?hp hd fun o1 hd1 => ?_
    case hp => kd_p1
    tb_start
    refine' ⟨_, ?hp, q _ _ _ _ _ (.char hc n4 n5) (Post.ofT (SLed.ofT hsT) ?hpart ⟨a, _, bb, ob, _, _, rfl, hd1, hdat, rfl⟩ rfl .nil hI')⟩
    case hp => keq_rows
    case hpart => kwd_less
end
section
local macro_rules | `(tactic| ktd_rel) => `(tactic| first
  | (refine Br.T (by first | rfl | decide +kernel) ?_)
  | (refine Br.F (by first | rfl | decide +kernel) ?_))
theorem end_ok {w : World} {M row : List Nat} {o : Bool} {p : Nat} {tm tp tr : Tok} {pv : Int} {r : Led} {Q : Value → Led → Prop} (hz : M.length ≤ 200) (hp : p ≤ M.length) (hpv : pv = (p : Int))
    (q : ∀ e t, UpTo (fun c => decide (c ∈ row) == o) M p e → Q (.int (e : Int) t) r) : Meets 1 w 779 [.str (S M) tm, .int pv tp, .str (S row) tr, .bool o] r Q := by
  subst hpv
  refine' meets_of [(Str.ofString "mended", .str (S M) tm), (Str.ofString "place", .int (p : Int) tp), (Str.ofString "row", .str (S row) tr), (Str.ofString "inside", .bool o)] ?ho ?hcd ?hbind ?hloc ?hfl ?_
  kwd_rel
  intro C hw hC; subst hw; dsimp only [revd]
  refine x_cons ?_
  refine x_while_j (fun n lo led => ∃ (i : Nat) (t : Tok), lo = [(Str.ofString "inside", .bool o), (Str.ofString "row", .str (S row) tr), (Str.ofString "place", .int (i : Int) t), (Str.ofString "mended", .str (S M) tm)] ∧ led = r ∧ p ≤ i ∧ i ≤ M.length ∧ n = M.length - i ∧ ∀ j, p ≤ j → j < i → ∃ c, M[j]? = some c ∧ (decide (c ∈ row) == o) = true)
    (fun lo led => ∃ (e : Nat) (t : Tok), lo = [(Str.ofString "place", .int (e : Int) t)] ∧ led = r ∧ UpTo (fun c => decide (c ∈ row) == o) M p e) (M.length - p) ⟨p, tp, rfl, rfl, Nat.le_refl _, hp, rfl, fun j h1 h2 => by omega⟩ ?_ ?_
  · rintro n lo led ⟨i, t, rfl, rfl, h1, h2, rfl, h3⟩
    tb_start
    refine f_lens (by omega) fun _ => ?_
    tb_start
    refine ⟨fun hb => ?_, fun hb => ?_⟩
    · have hi : i < M.length := by have := of_decide_eq_true hb; omega
      tb_start
      refine st_str i rfl rfl hi (by omega) fun _ => ?_
      tb_start
      refine c_ins ?_
      tb_start
      refine ⟨fun hb2 => ?_, fun hb2 => ?_⟩
      · tb_start
        refine' ⟨M.length - (i + 1), by omega, _, _, ?hf, Part.refl _, i + 1, _, rfl, rfl, by omega, by omega, rfl, ?hg⟩
        case hf => (rw [show ((i + 1 : Nat) : Int) = (i : Int) + 1 from rfl]; kd_adr)
        intro j j1 j2
        rcases Nat.lt_or_ge j i with z | z
        · exact h3 j j1 z
        · have : j = i := by omega
          subst this
          exact ⟨_, List.getElem?_eq_getElem hi, hb2⟩
      · tb_start
        exact ⟨_, _, by kd_adr, Part.refl _, i, t, rfl, rfl, h1, h2, h3, .inr ⟨_, List.getElem?_eq_getElem hi, hb2⟩⟩
    · tb_start
      exact ⟨_, _, by kd_adr, Part.refl _, i, t, rfl, rfl, h1, h2, h3, .inl (by have := of_decide_eq_false hb; omega)⟩
  · rintro lo led ⟨e, t, rfl, rfl, hu⟩
    tb_start
    exact ⟨_, Part.refl _, q e t hu⟩
theorem lit_nl2 : Str.ofString "\n" = S [10] := by decide +kernel
theorem spot_ok {w : World} {M : List Nat} {p : Nat} {pv : Int} {tm tp : Tok} {r : Led} {Q : Value → Led → Prop} (hz : M.length ≤ 200) (hp : p ≤ M.length) (hpv : pv = (p : Int))
    (q : ∀ a t t', Q (.ref a) ((a, tup [.int (((M.take p).count 10 : Nat) + 1) t, .int (col (M.take p) : Nat) t']) :: r)) : Meets 1 w 786 [.str (S M) tm, .int pv tp] r Q := by
  subst hpv
  refine' meets_of [(Str.ofString "mended", .str (S M) tm), (Str.ofString "place", .int (p : Int) tp)] ?ho ?hcd ?hbind ?hloc ?hfl ?_
  kwd_rel
  intro C hw hC; subst hw; dsimp only [revd]
  have hl : (M.take p).length ≤ 200 := by rw [List.length_take]; omega
  have hcnt : (M.take p).count 10 ≤ 200 := Nat.le_trans List.count_le_length hl
  have hcol := col_le (M.take p)
  tb_start
  refine sl_ns p rfl hp (by omega) fun _ => ?_
  tb_start
  refine f_split lit_nl2 (by omega) fun D vs n hvl hlast => ?_
  obtain ⟨hne, z, t, hz1, hz2⟩ := hlast
  tb_start
  refine f_lenl (by ked_read) (by omega) fun _ => ?_
  tb_start
  refine st_list_last (by decide +kernel) (fun _ => rfl) (by ked_read) hne (by omega) ?_
  rw [hz1]
  tb_start
  refine f_lens (by omega) fun _ => ?_
  tb_start
  rw [hvl, hz2]
  have e : (((M.take p).count 10 + 1 : Nat) : Int) = ((M.take p).count 10 : Nat) + 1 := by push_cast; rfl
  rw [e]
  exact ⟨_, Part.cons .here (Part.refl _).skip, q _ _ _⟩
end
section
local macro_rules | `(tactic| ktd_rel) => `(tactic| first
  | (refine Br.T (by first | rfl | decide +kernel) ?_)
  | (refine Br.F (by first | rfl | decide +kernel) ?_))
theorem tagf_ok {w : World} {cl gv : Bool} {nm : List Nat} {tn th : Tok} {r : Led} {hd : Str} {Q : Value → Led → Prop} (hh : hd = S (if cl then [60, 47] else [60]))
    (q : ∀ a its b ob, ToldTup [(b, ob)] its (.tag ⟨cl, nm, gv⟩) → Q (.ref a) ((a, tup its) :: (b, ob) :: r)) : Meets 1 w 800 [.str hd th, .str (S nm) tn, .bool gv] r Q := by
  subst hh
  refine' meets_of [(Str.ofString "head", .str (S (if cl then [60, 47] else [60])) th), (Str.ofString "name", .str (S nm) tn), (Str.ofString "given", .bool gv)] ?ho ?hcd ?hbind ?hloc ?hfl ?_
  kwd_rel
  intro C hw hC; subst hw; dsimp only [revd]
  cases cl with
  | true =>
    simp only [if_true]
    tb_start
    rw [lit_ltslash]
    refine Br.T (beq_self_eq_true _) ?_
    tb_start
    refine' ⟨_, Part.refl _, q _ _ _ _ (ToldTup.tag (g := ⟨true, nm, gv⟩) (.head _) ?hd)⟩
    case hd => (unfold DataOf; rw [if_neg (by simp)]; exact ⟨0, rfl⟩)
  | false =>
    simp only [Bool.false_eq_true, if_false]
    tb_start
    rw [lit_ltslash]
    refine Br.F (by rw [S_beq]; rfl) ?_
    cases gv with
    | true =>
      tb_start
      rename_i hs9 _
      refine' ⟨_, Part.refl _, q _ _ _ _ (ToldTup.tag (g := ⟨false, nm, true⟩) (.head _) ⟨rfl, ?_⟩)⟩
      assumption
    | false =>
      tb_start
      refine' ⟨_, Part.refl _, q _ _ _ _ (ToldTup.tag (g := ⟨false, nm, false⟩) (.head _) ⟨0, rfl⟩)⟩
end
section
local macro_rules | `(tactic| ktd_rel) => `(tactic| first
  | (refine Br.T (by first | rfl | decide +kernel) ?_)
  | (refine Br.F (by first | rfl | decide +kernel) ?_))
theorem bare_ok {w : World} {M : List Nat} {e : Nat} {cl : Bool} {hd fv : Str} {th tf : Tok} {h : Option Tag} {r : Led} {Q : Value → Led → Prop} (hh : hd = S (if cl then [60, 47] else [60])) (hf : fv = S ((M.take (e + 1)).drop e)) (he : e ≤ M.length)
    (hnl : ∀ c, M[e]? = some c → c ∉ letters ∧ (cl = false → c ≠ 47))
    (q : ∀ a tl tvs n told eaten noted tb t, eaten ≤ 1 → e + eaten ≤ M.length → (if cl then SClose M e h true h (e + eaten) told else STag M e h true h (e + eaten) told) → (tl, lst tvs n) ∈ tb → All2 (ToldRep tb) tvs told →
      Q (.ref a) ((a, tup [.ref tl, .int (eaten : Nat) t, .bool noted]) :: (tb ++ r))) : Meets 1 w 807 [.str hd th, .str fv tf] r Q := by
  subst hh
  refine' meets_of [(Str.ofString "head", .str (S (if cl then [60, 47] else [60])) th), (Str.ofString "first", .str fv tf)] ?ho ?hcd ?hbind ?hloc ?hfl ?_
  kwd_rel
  intro C hw hC; subst hw; dsimp only [revd]
  refine x_cons ?_
  refine' x_swap2 hC (x := Str.ofString "sign") (y := Str.ofString "fault") ?hs ?hw ?hx ?hy ?_
  case hs => rfl
  case hw => kernel_rfl
  case hx => decide +kernel
  case hy => decide +kernel
  tb_start
  refine ⟨_, _, _, rfl, .here, ?_⟩
  have hcase : ((M.take (e + 1)).drop e = [] ∧ e = M.length) ∨ ∃ c, M[e]? = some c ∧ (M.take (e + 1)).drop e = [c] ∧ e < M.length := by
    rcases Nat.lt_or_ge e M.length with z | z
    · refine .inr ⟨M[e], List.getElem?_eq_getElem z, ?_, z⟩
      rw [List.drop_take, Nat.add_sub_cancel_left, List.drop_eq_getElem_cons z]; rfl
    · refine .inl ⟨?_, by omega⟩
      rw [List.drop_eq_nil_of_le]; rw [List.length_take]; omega
  cases cl with
  | false =>
    simp only [Bool.false_eq_true, if_false] at q ⊢
    tb_start
    rw [lit_lt]
    refine Br.T (beq_self_eq_true _) ?_
    tb_start
    rcases hcase with ⟨hn, hend⟩ | ⟨c, hc, hn, hlt⟩
    · rw [hf, hn, lit_bang]
      refine Br.F rfl ?_
      tb_start
      rw [lit_gt]
      refine Br.F rfl ?_
      tb_start
      rw [lit_ask]
      refine Br.F rfl ?_
      tb_start
      exact ⟨_, Part.refl _, q _ _ _ _ _ 0 _ [_, _, _, _] _ (by omega) (by omega) (.end hend) (.head _) (.cons (ToldRep.two2 (.tail _ (.tail _ (.head _)))) (.cons (by rw [← lit_lt]; exact ToldRep.two2 (.tail _ (.head _))) .nil))⟩
    · obtain ⟨hl1, hl2⟩ := hnl c hc
      have hl2 := hl2 rfl
      rw [hf, hn, lit_bang, S1]
      refine ⟨fun h1 => ?_, fun h1 => ?_⟩
      · have h1 := of_decide_eq_true h1; subst h1
        tb_start
        exact ⟨_, Part.refl _, q _ _ _ _ _ 1 _ [_, _] _ (by omega) (by omega) (.bang hc) (.head _) .nil⟩
      have n1 := of_decide_eq_false h1
      tb_start
      rw [lit_gt, S1]
      refine ⟨fun h1 => ?_, fun h1 => ?_⟩
      · have h1 := of_decide_eq_true h1; subst h1
        tb_start
        exact ⟨_, Part.refl _, q _ _ _ _ _ 1 _ [_, _, _, _] _ (by omega) (by omega) (.gt hc) (.head _) (.cons (ToldRep.two2 (.tail _ (.tail _ (.head _)))) (.cons (by rw [← lit_ltgt]; exact ToldRep.two2 (.tail _ (.head _))) .nil))⟩
      have n2 := of_decide_eq_false h1
      tb_start
      rw [lit_ask, S1]
      refine ⟨fun h1 => ?_, fun h1 => ?_⟩
      · have h1 := of_decide_eq_true h1; subst h1
        tb_start
        exact ⟨_, Part.refl _, q _ _ _ _ _ 0 _ [_, _, _] _ (by omega) (by omega) (.ask hc) (.head _) (.cons (ToldRep.two2 (.tail _ (.head _))) .nil)⟩
      have n3 := of_decide_eq_false h1
      tb_start
      exact ⟨_, Part.refl _, q _ _ _ _ _ 0 _ [_, _, _, _] _ (by omega) (by omega) (.other hc hl2 hl1 n1 n2 n3) (.head _) (.cons (ToldRep.two2 (.tail _ (.tail _ (.head _)))) (.cons (by rw [← lit_lt]; exact ToldRep.two2 (.tail _ (.head _))) .nil))⟩
  | true =>
    simp only [if_true] at q ⊢
    tb_start
    rw [lit_lt]
    refine Br.F (by rw [S_beq]; rfl) ?_
    tb_start
    rcases hcase with ⟨hn, hend⟩ | ⟨c, hc, hn, hlt⟩
    · rw [hf, hn, lit_gt]
      refine Br.F rfl ?_
      tb_start
      rw [lit_empty2]
      refine Br.T rfl ?_
      tb_start
      exact ⟨_, Part.refl _, q _ _ _ _ _ 0 _ [_, _, _, _] _ (by omega) (by omega) (.end hend) (.head _) (.cons (ToldRep.two2 (.tail _ (.tail _ (.head _)))) (.cons (by rw [← lit_ltslash]; exact ToldRep.two2 (.tail _ (.head _))) .nil))⟩
    · obtain ⟨hl1, hl2⟩ := hnl c hc
      rw [hf, hn, lit_gt, S1]
      refine ⟨fun h1 => ?_, fun h1 => ?_⟩
      · have h1 := of_decide_eq_true h1; subst h1
        tb_start
        exact ⟨_, Part.refl _, q _ _ _ _ _ 1 _ [_, _, _] _ (by omega) (by omega) (.gt hc) (.head _) (.cons (ToldRep.two2 (.tail _ (.head _))) .nil)⟩
      have n1 := of_decide_eq_false h1
      tb_start
      rw [lit_empty2]
      refine Br.F (by rw [S_beq]; rfl) ?_
      tb_start
      exact ⟨_, Part.refl _, q _ _ _ _ _ 0 _ [_, _, _] _ (by omega) (by omega) (.other hc hl1 n1) (.head _) (.cons (ToldRep.three2 (.tail _ (.head _))) .nil)⟩
end
section
local macro_rules | `(tactic| ktd_rel) => `(tactic| first
  | (refine Br.T (by first | rfl | decide +kernel) ?_)
  | (refine Br.F (by first | rfl | decide +kernel) ?_))
theorem z1000 {m : Nat} (h : m ≤ 100) : m ≤ 1000 := Nat.le_trans h (by decide)
theorem ar900 {m v p : Nat} (hz : m ≤ 100) (h : v ≤ 4 * p) (hp : p ≤ m) : v ≤ 900 := by omega
theorem ar902 {m v p : Nat} (hz : m ≤ 100) (hp : p < m) (h : v ≤ 4 * p + 2) : v ≤ 900 := by omega
theorem ar4 (p : Nat) : 4 * p + 1 ≤ 4 * (p + 1) := by omega
theorem ar4b {p e : Nat} (h : p < e) : 4 * p + 1 ≤ 4 * e := by omega
theorem ar4c {p x : Nat} (h : p < x) : 4 * p + 2 + 1 + 1 ≤ 4 * x := by omega
theorem ltmin {p q m : Nat} (h1 : p < q) (h2 : p < m) : p < min (q + 1) m := by omega
theorem drle {q m x : Nat} (h : m ≤ 100) : min q m - x ≤ 1000 := by omega
theorem hmin1 (q m : Nat) : ((min (q + 1) m : Nat) : Int) = min ((q : Int) + 1) (m : Int) := by omega
theorem hmin2 {q m : Nat} (h : q < m) : ((q + 1 : Nat) : Int) = min ((q : Int) + 1) (m : Int) := by omega
theorem ar9k {m v p k e : Nat} (hz : m ≤ 100) (hp : p < m) (hk : k < m) (h : v ≤ 4 * p + 2 + (k - e)) : v ≤ 900 := by omega
theorem ar9k2 {m v p k e : Nat} (hz : m ≤ 100) (hp : p < m) (hk : k ≤ m) (h : v ≤ 4 * p + 2 + (k - e)) : v ≤ 900 := by omega
theorem arjk {k e : Nat} (h : e ≤ k) : (k : Int) + 1 - (e : Int) = ((k + 1 - e : Nat) : Int) := by omega
theorem arbk {n q e k : Nat} (h : n = q - e) (hk : k < q) : k + 1 - e ≤ n := by omega
theorem arle3 {p k e : Nat} (h : e ≤ k) : 4 * p + 2 + (k - e) + 1 ≤ 4 * p + 2 + (k + 1 - e) := by omega
theorem arne {k e : Nat} (h : e ≤ k) : ¬ k + 1 = e := by omega
theorem armin {q m : Nat} (h : q = m) : min (q + 1) m = q := by omega
theorem armin2 {q m : Nat} (h : q = m) : min ((q : Int) + 1) (m : Int) = (q : Int) := by omega
theorem arle1 {p e q : Nat} (h1 : p < e) (h2 : e < q) : 4 * p + 2 + (q - e) + 1 ≤ 4 * (q + 1) := by omega
theorem arle2 {p e q : Nat} (h1 : p < e) (h2 : e < q) : 4 * p + 2 + (q - e) + 1 ≤ 4 * q := by omega
inductive DueJ (M : List Nat) (B : Lo) (r : Led) (D0 : Addr) (n : Nat) (lo : Lo) (led : Led) : Prop
  | mk (p : Nat) (tp : Tok) (hv : Value) (h : Option Tag) (vs : List Value) (nn : Nat) (tb : Led) (rows : List Row) (e1 : lo = (Str.ofString "p", .int (p : Int) tp) :: (Str.ofString "held", hv) :: B) (e2 : led = (D0, lst vs nn) :: (tb ++ r)) (e3 : Facts M tb vs rows hv h p (4 * p)) (e4 : p ≤ M.length) (e5 : n = M.length - p) : DueJ M B r D0 n lo led
inductive DueE (M : List Nat) (r : Led) (D0 : Addr) (lo : Lo) (led : Led) : Prop
  | mk (hv : Value) (h : Option Tag) (vs : List Value) (nn : Nat) (tb : Led) (rows : List Row) (e1 : lo = [(Str.ofString "due", .ref D0)]) (e2 : led = (D0, lst vs nn) :: (tb ++ r)) (e3 : Facts M tb vs rows hv h M.length (4 * M.length)) : DueE M r D0 lo led
inductive DueA (M : List Nat) (B : Lo) (r : Led) (D0 : Addr) (p : Nat) (lo : Lo) (led : Led) : Prop
  | mk (e : Nat) (te : Tok) (hv : Value) (h : Option Tag) (vs : List Value) (nn : Nat) (tb : Led) (rows : List Row) (e1 : lo = (Str.ofString "e", .int (e : Int) te) :: (Str.ofString "held", hv) :: B) (e2 : led = (D0, lst vs nn) :: (tb ++ r)) (e3 : Facts M tb vs rows hv h e (4 * e)) (e4 : p < e) (e5 : e ≤ M.length) : DueA M B r D0 p lo led
inductive DueB (M : List Nat) (B : Lo) (r : Led) (D0 : Addr) (p : Nat) (hv : Value) (h : Option Tag) (lo : Lo) (led : Led) : Prop
  | mk (e : Nat) (cl : Bool) (te tc th : Tok) (vs : List Value) (nn : Nat) (tb : Led) (rows : List Row) (e1 : lo = (Str.ofString "call", .str (callStr (if cl then .close else .tag)) tc) :: (Str.ofString "head", .str (S (if cl then [60, 47] else [60])) th) :: (Str.ofString "e", .int (e : Int) te) :: (Str.ofString "held", hv) :: B) (e2 : led = (D0, lst vs nn) :: (tb ++ r)) (e3 : Facts M tb vs rows hv h e (4 * p + 2)) (e4 : p < e) (e5 : e ≤ M.length) (e6 : cl = false → M[e]? ≠ some 47) : DueB M B r D0 p hv h lo led
inductive DueK (M : List Nat) (B : Lo) (r : Led) (D0 : Addr) (p e qe : Nat) (cl : Bool) (nm : List Nat) (te tn tq th : Tok) (k : Nat) (lo : Lo) (led : Led) : Prop
  | mk (cs : Str) (tc : Tok) (vs : List Value) (nn : Nat) (tb : Led) (rows : List Row) (hk : Option Tag) (hvk : Value) (e1 : lo = (Str.ofString "call", .str cs tc) :: (Str.ofString "name", .str (S nm) tn) :: (Str.ofString "q", .int (qe : Int) tq) :: (Str.ofString "e", .int (e : Int) te) :: (Str.ofString "head", .str (S (if cl then [60, 47] else [60])) th) :: B) (e2 : led = (D0, lst vs nn) :: (tb ++ r)) (e3 : Facts M tb vs rows hvk hk k (4 * p + 2 + (k - e))) (e4 : cs = callStr (if k = e then (if cl then .close else .tag) else .name)) (e5 : e < k → hk = some ⟨cl, nm.take (k - e), false⟩) : DueK M B r D0 p e qe cl nm te tn tq th k lo led
theorem due_ok {w : World} {M : List Nat} {tm : Tok} {r : Led} {Q : Value → Led → Prop} (hz : M.length ≤ 100) (hM : ∀ c ∈ M, c ≤ 65535)
    (q : ∀ D vs n tb rows h, All2 (RowRep tb) vs rows → Chain M 0 none rows M.length h → vs.length ≤ 1000 → Q (.ref D) ((D, lst vs n) :: (tb ++ r))) : Meets 3 w 812 [.str (S M) tm] r Q := by
  refine' meets_of [(Str.ofString "mended", .str (S M) tm)] ?ho ?hcd ?hbind ?hloc ?hfl ?_
  kwd_rel
  intro C hw hC; subst hw; dsimp only [revd]
  tb_start
  refine e_comp_tupN hC (by decide +kernel) (by decide +kernel) (fun vs => StrsAre vs [Str.ofString "Characters", Str.ofString "SpaceCharacters", Str.ofString "ParseError", Str.ofString "Comment"])
    (fun ax vs i ys led => led = (ax, tup vs) :: r ∧ IntsAre ys (([1, 2, 7, 6] : List Int).take i)) (fun ax vs i ys led h => by rw [h.1]; exact .head _) ?_ ?_ ?_
  · tb_start
    exact ⟨rfl, _, _, rfl, Nat.le_of_ble_eq_true rfl, .cons _ _ (.cons _ _ (.cons _ _ (.cons _ _ .nil))), rfl, .nil⟩
  · rintro ax vs hvs i hi ys led I oI c oC D nn ⟨rfl, hys⟩ hCo
    rcases hvs with _ | ⟨y1, u1, hvs⟩; rcases hvs with _ | ⟨y2, u2, hvs⟩; rcases hvs with _ | ⟨y3, u3, hvs⟩; rcases hvs with _ | ⟨y4, u4, hvs⟩; rcases hvs with _ | _
    rcases i with _ | _ | _ | _ | i
    all_goals (try (simp only [List.length_cons, List.length_nil] at hi; omega))
    all_goals
      dsimp only [List.getElem_cons_zero, List.getElem_cons_succ, Nat.zero_add, Nat.reduceAdd] at hCo
      tb_rel
      refine ⟨rfl, Br.T rfl ?_⟩
      tb_start
      exact ⟨rfl, _, Part.refl _, rfl, ints_snoc hys⟩
  · rintro ax vs hvs ys led D nn hyl ⟨rfl, hys⟩
    rcases hvs with _ | ⟨y1, u1, hvs⟩; rcases hvs with _ | ⟨y2, u2, hvs⟩; rcases hvs with _ | ⟨y3, u3, hvs⟩; rcases hvs with _ | ⟨y4, u4, hvs⟩; rcases hvs with _ | _
    change IntsAre ys [1, 2, 7, 6] at hys
    rcases hys with _ | ⟨n1, t1, hys⟩; rcases hys with _ | ⟨n2, t2, hys⟩; rcases hys with _ | ⟨n3, t3, hys⟩; rcases hys with _ | ⟨n4, t4, hys⟩; rcases hys with _ | _
    refine' a_unpackL hC (by ked_read) rfl (by decide +kernel) ?_
    tb_start
    rename_i D0 t0
    generalize hB : ([(Str.ofString "due", .ref D0), (Str.ofString "note", .int 6 t4), (Str.ofString "fault", .int 7 t3), (Str.ofString "blank", .int 2 t2), (Str.ofString "sign", .int 1 t1), (Str.ofString "mended", .str (S M) tm)] : Lo) = B
    have kB1 : List.lookup (Str.ofString "due") B = some (.ref D0) := by rw [← hB]; kernel_rfl
    have kB2 : List.lookup (Str.ofString "note") B = some (.int 6 t4) := by rw [← hB]; kernel_rfl
    have kB3 : List.lookup (Str.ofString "fault") B = some (.int 7 t3) := by rw [← hB]; kernel_rfl
    have kB4 : List.lookup (Str.ofString "blank") B = some (.int 2 t2) := by rw [← hB]; kernel_rfl
    have kB5 : List.lookup (Str.ofString "sign") B = some (.int 1 t1) := by rw [← hB]; kernel_rfl
    have kB6 : List.lookup (Str.ofString "mended") B = some (.str (S M) tm) := by rw [← hB]; kernel_rfl
    have kB : Based B [Str.ofString "due", Str.ofString "note", Str.ofString "fault", Str.ofString "blank", Str.ofString "sign", Str.ofString "mended"] := by
      rw [← hB]
      exact .cons (by kernel_rfl) (by kernel_rfl) (.cons (by kernel_rfl) (by kernel_rfl) (.cons (by kernel_rfl) (by kernel_rfl) (.cons (by kernel_rfl) (by kernel_rfl) (.cons (by kernel_rfl) (by kernel_rfl) (.cons (by kernel_rfl) (by kernel_rfl) .nil)))))
    clear hB
    refine x_while_j (DueJ M B r D0)
      (DueE M r D0) M.length ⟨0, t0, .none, none, [], 0, [_, _], [], rfl, rfl, ⟨.nil, rfl, .nil, Nat.le_refl _⟩, Nat.zero_le _, rfl⟩ ?_ ?_
    · rintro n lo led ⟨p, tp, hv, h, vs, nn, tb, rows, rfl, rfl, hF, hp, rfl⟩
      have hvl := hF.len
      have hvl9 : vs.length ≤ 900 := ar900 hz hF.len hp
      tb_start
      refine f_lens (z1000 hz) fun _ => ?_
      tb_start
      refine ⟨fun hb => ?_, fun hb => ?_⟩
      · have hlt : p < M.length := by have := of_decide_eq_true hb; omega
        have hc : M[p]? = some M[p] := List.getElem?_eq_getElem hlt
        ked_reads
        refine x_if_j (DueA M B r D0 p) ?_ ?_
        · tb_start
          refine st_str p rfl rfl hlt (z1000 hz) fun _ => ?_
          tb_start
          rw [lit_amp, S1]
          refine ⟨fun h1 => ?_, fun h1 => ?_⟩
          · have h1 := of_decide_eq_true h1
            tb_start
            refine' ⟨_, _, ?hf, ?hp, p + 1, _, hv, h, vs ++ [_], _, [_, _] ++ tb, rows ++ [⟨.data, true, h, p + 1, []⟩], rfl, rfl, ?hF, Nat.lt_succ_self p, hlt⟩
            case hp => (refine' Part.cons ?h1 ?h2; (case h1 => kd_p1); (case h2 => exact Part.refl _))
            case hf => (rw [show ((p + 1 : Nat) : Int) = (p : Int) + 1 from rfl]; kd_adr)
            case hF => exact (hF.add [_, _] (.data (.amp (by rw [hc, h1]))) rfl (.head _) hF.tag (.tail _ (.head _)) .nil).le (ar4 p)
          have n1 := of_decide_eq_false h1
          tb_start
          refine st_str p rfl rfl hlt (z1000 hz) fun _ => ?_
          tb_start
          rw [lit_nul, S1]
          refine ⟨fun h1 => ?_, fun h1 => ?_⟩
          · have h1 := of_decide_eq_true h1
            tb_start
            refine' ⟨_, _, ?hf, ?hp, p + 1, _, hv, h, vs ++ [_], _, [_, _, _, _] ++ tb, rows ++ [⟨.data, false, h, p + 1, [bad "invalid-codepoint", .two 1 (S [0])]⟩], rfl, rfl, ?hF, Nat.lt_succ_self p, hlt⟩
            case hp => (refine' Part.cons ?h1 ?h2; (case h1 => kd_p1); (case h2 => exact Part.refl _))
            case hf => (rw [show ((p + 1 : Nat) : Int) = (p : Int) + 1 from rfl]; kd_adr)
            case hF => exact (hF.add [_, _, _, _] (.data (.nul (by rw [hc, h1]))) rfl (.head _) hF.tag (.tail _ (.head _)) (.cons (ToldRep.two2 (.tail _ (.tail _ (.tail _ (.head _))))) (.cons (ToldRep.two2 (.tail _ (.tail _ (.head _)))) .nil))).le (ar4 p)
          have n2 := of_decide_eq_false h1
          tb_start
          refine st_str p rfl rfl hlt (z1000 hz) fun _ => ?_
          tb_start
          rw [lit_blanks]
          refine c_ins ?_
          tb_start
          refine ⟨fun h1 => ?_, fun h1 => ?_⟩
          · have h1' := of_decide_eq_true h1
            tb_start
            rw [lit_blanks]
            refine Meets.at hC (by omega) (end_ok (p := p) (by omega) (by omega) rfl fun e te hu => ?_) fun _ _ h => h
            have hu2 : UpTo (fun c => decide (c ∈ blanks)) M p e := hu.congr fun c _ => by rw [beq_true]
            have hu3 := (hu2.step hc h1).1
            have hu4 := hu2.2.1
            tb_start
            refine sl_ss p e rfl rfl (by omega) fun _ => ?_
            tb_start
            refine' ⟨_, _, ?hf, ?hp, e, _, hv, h, vs ++ [_], _, [_, _, _] ++ tb, rows ++ [⟨.data, false, h, e, [.two 2 (S ((M.take e).drop p))]⟩], rfl, rfl, ?hF, hu3, hu4⟩
            case hp => (refine' Part.cons ?h1 ?h2; (case h1 => kd_p1); (case h2 => exact Part.refl _))
            case hf => (kd_adr)
            case hF => exact (hF.add [_, _, _] (.data (.blank hc h1' hu2)) rfl (.head _) hF.tag (.tail _ (.head _)) (.cons (ToldRep.two2 (.tail _ (.tail _ (.head _)))) .nil)).le (ar4b hu3)
          have n3 := of_decide_eq_false h1
          tb_start
          refine st_str p rfl rfl hlt (z1000 hz) fun _ => ?_
          tb_start
          rw [lit_lt, S1n]
          refine ⟨fun h1 => ?_, fun h1 => ?_⟩
          · have n4 : M[p] ≠ 60 := by simpa using h1
            tb_start
            rw [lit_stop3]
            refine Meets.at hC (by omega) (end_ok (p := p) (by omega) (by omega) rfl fun e te hu => ?_) fun _ _ h => h
            have hu2 : UpTo (fun c => !decide (c ∈ [38, 60, 0])) M p e := hu.congr fun c _ => by rw [beq_false]
            have hu3 := (hu2.step hc (by simp [n1, n2, n4])).1
            have hu4 := hu2.2.1
            tb_start
            refine sl_ss p e rfl rfl (by omega) fun _ => ?_
            tb_start
            refine' ⟨_, _, ?hf, ?hp, e, _, hv, h, vs ++ [_], _, [_, _, _] ++ tb, rows ++ [⟨.data, false, h, e, [.two 1 (S ((M.take e).drop p))]⟩], rfl, rfl, ?hF, hu3, hu4⟩
            case hp => (refine' Part.cons ?h1 ?h2; (case h1 => kd_p1); (case h2 => exact Part.refl _))
            case hf => (kd_adr)
            case hF => exact (hF.add [_, _, _] (.data (.text hc n3 n1 n4 n2 hu2)) rfl (.head _) hF.tag (.tail _ (.head _)) (.cons (ToldRep.two2 (.tail _ (.tail _ (.head _)))) .nil)).le (ar4b hu3)
          have h60 : M[p]? = some 60 := by rw [hc]; simpa using h1
          ked_reads
          refine x_if_j (DueB M B r D0 p hv h) ?_ ?_
          · tb_start
            refine sl_ss (p + 1) (p + 2) rfl rfl (by omega) fun _ => ?_
            rcases one_or (M := M) (e := p + 1) (by omega) with ⟨hn, hend⟩ | ⟨c, hcc, hn, hlt2⟩
            · rw [hn]
              tb_start
              rw [lit_slash]
              refine Br.F (by rw [S_beq]; rfl) ?_
              tb_start
              refine' ⟨_, _, ?hf, ?hp, p + 1, false, _, _, _, vs ++ [_], _, [_, _] ++ tb, rows ++ [⟨.data, true, h, p + 1, []⟩], rfl, rfl, ?hF, by omega, by omega, fun _ => ?h47⟩
              case hp => (refine' Part.cons ?h1 ?h2; (case h1 => kd_p1); (case h2 => exact Part.refl _))
              case hf => (simp only [Bool.false_eq_true, if_false, callStr]; rw [show ((p + 1 : Nat) : Int) = (p : Int) + 1 from rfl]; kd_adr)
              case hF => exact (hF.addS [_, _] (.data (.lt h60)) rfl rfl (.head _) (.tail _ (.head _)) .nil).le (by omega)
              case h47 => (rw [hend, List.getElem?_eq_none (Nat.le_refl _)]; intro h9; cases h9)
            · rw [hn]
              tb_start
              rw [lit_slash, S1]
              refine ⟨fun h9 => ?_, fun h9 => ?_⟩
              · have h9 := of_decide_eq_true h9; subst h9
                tb_start
                refine' ⟨_, _, ?hf, ?hp, p + 2, true, _, _, _, vs ++ [_] ++ [_], _, [_, _] ++ ([_, _] ++ tb), rows ++ [⟨.data, true, h, p + 1, []⟩] ++ [⟨.tag, true, h, p + 2, []⟩], rfl, rfl, ?hF, by omega, by omega, fun h9 => by cases h9⟩
                case hp => (refine' Part.cons ?h1 ?h2; (case h1 => kd_p1); (case h2 => exact Part.refl _))
                case hf => (simp only [if_true, callStr]; rw [← lit_ltslash, show ((p + 2 : Nat) : Int) = (p : Int) + 1 + 1 from rfl]; kd_adr)
                case hF => exact ((hF.addS [_, _] (row := ⟨.data, true, h, p + 1, []⟩) (.data (.lt h60)) rfl rfl (.head _) (.tail _ (.head _)) .nil).addS [_, _] (row := ⟨.tag, true, h, p + 2, []⟩) (.tag (.slash hcc)) rfl rfl (.head _) (.tail _ (.head _)) .nil).le (by omega)
              · have h9 := of_decide_eq_false h9
                tb_start
                refine' ⟨_, _, ?hf, ?hp, p + 1, false, _, _, _, vs ++ [_], _, [_, _] ++ tb, rows ++ [⟨.data, true, h, p + 1, []⟩], rfl, rfl, ?hF, by omega, by omega, fun _ => ?h47⟩
                case hp => (refine' Part.cons ?h1 ?h2; (case h1 => kd_p1); (case h2 => exact Part.refl _))
                case hf => (simp only [Bool.false_eq_true, if_false, callStr]; rw [show ((p + 1 : Nat) : Int) = (p : Int) + 1 from rfl]; kd_adr)
                case hF => exact (hF.addS [_, _] (.data (.lt h60)) rfl rfl (.head _) (.tail _ (.head _)) .nil).le (by omega)
                case h47 => (rw [hcc]; intro h8; exact h9 (Option.some.inj h8))
          · rintro lo led ⟨e, cl, te, tc, th, vs, nn, tb, rows, rfl, rfl, hF, h1', h2', h47⟩
            have hvl := hF.len
            have hvl9 : vs.length ≤ 900 := ar902 hz (Nat.lt_of_lt_of_le h1' h2') hF.len
            ked_reads
            refine sl_ss e (e + 1) rfl rfl (by omega) fun tf => ?_
            ked_reads
            refine x_if (WP.mono (Q := fun b lo' led' => (b = true → ∀ c, M[e]? = some c → c ∉ letters) ∧ (b = false → ∃ c, M[e]? = some c ∧ c ∈ letters) ∧ lo' = (Str.ofString "first", .str (S ((M.take (e + 1)).drop e)) tf) :: (Str.ofString "call", .str (callStr (if cl then .close else .tag)) tc) :: (Str.ofString "head", .str (S (if cl then [60, 47] else [60])) th) :: (Str.ofString "e", .int (e : Int) te) :: (Str.ofString "held", hv) :: B ∧ led' = (D0, lst vs nn) :: (tb ++ r)) ?_ ?_)
            · rcases one_or h2' with ⟨hn, hend⟩ | ⟨c, hcc, hn, hlt2⟩
              · rw [hn]
                tb_start
                rw [lit_empty2]
                refine Br.T rfl ?_
                exact ⟨fun _ c hcc => (no_end hcc hend).elim, (fun h9 => by cases h9), rfl, rfl⟩
              · rw [hn]
                tb_start
                rw [lit_empty2]
                refine Br.F (by rw [S_beq]; rfl) ?_
                tb_start
                rw [lit_letters]
                refine c_notins ?_
                tb_start
                refine ⟨fun h9 => ?_, fun h9 => ?_⟩
                · exact ⟨fun _ d hd => by rw [hcc] at hd; cases hd; simpa using h9, (fun h9 => by cases h9), rfl, rfl⟩
                · tb_start
                  exact ⟨(fun h9 => by cases h9), fun _ => ⟨c, hcc, by simpa using h9⟩, rfl, rfl⟩
            · rintro b lo' led' ⟨hb1, hb2, rfl, rfl⟩
              refine ⟨fun hb => ?_, fun hb => ?_⟩
              · have hb1 := hb1 hb
                tb_start
                refine Meets.at hC (by omega) (bare_ok (M := M) (e := e) (cl := cl) (h := h) rfl rfl h2' (fun c hcc => ⟨hb1 c hcc, fun e0 e1 => h47 e0 (by rw [hcc, e1])⟩) fun a tl tvs n told eaten noted tb2 t5 he1 he2 hst hm ht => ?_) fun _ _ h => h
                have hstep : Step M e h ⟨if cl = true then .close else .tag, true, h, e + eaten, told⟩ := by
                  cases cl
                  · exact .tag hst
                  · exact .close hst
                have hee : (e : Int) + (eaten : Int) = ((e + eaten : Nat) : Int) := by push_cast; rfl
                refine WP.part (led' := (a, tup [.ref tl, .int (eaten : Nat) t5, .bool noted]) :: (D0, lst vs nn) :: (tb2 ++ (tb ++ r))) ?_ (Part.cons .here (Part.cons (.skipB .here) (Part.refl _)))
                tb_start
                refine ⟨fun hn => ?_, fun hn => ?_⟩
                · tb_start
                  rw [lit_gt]
                  refine Meets.at hC (by omega) (end_ok (p := e + eaten) (by omega) he2 hee fun qe tq hu => ?_) fun _ _ h => h
                  have hu2 : UpTo (fun c => !decide (c ∈ [62])) M (e + eaten) qe := hu.congr fun c _ => by rw [beq_false]
                  have hq1 := hu.1
                  have hq2 := hu.2.1
                  tb_start
                  refine f_lens (z1000 hz) fun _ => ?_
                  tb_start
                  refine f_min hC fun _ => ?_
                  tb_start
                  refine sl_ss (e + eaten) qe hee rfl (by omega) fun _ => ?_
                  refine ⟨_, _, rfl, by rw [List.length_drop, List.length_take]; exact drle hz, fun t' => ?_⟩
                  rw [show Txt.replace (S ((M.take qe).drop (e + eaten))) (S [0]) (Str.ofString "\uFFFD") = S (noNul ((M.take qe).drop (e + eaten))) from by rw [lit_rep, replace_S]; rfl]
                  tb_start
                  refine f_lens (z1000 hz) fun _ => ?_
                  tb_start
                  refine f_min hC fun _ => ?_
                  tb_start
                  have hmin : ((min (qe + 1) M.length : Nat) : Int) = min ((qe : Int) + 1) (M.length : Int) := hmin1 _ _
                  refine' ⟨_, _, ?hf, ?hp, min (qe + 1) M.length, _, hv, h, vs ++ [_] ++ [_], _, [_, _, _] ++ (([_, _] ++ tb2) ++ tb), rows ++ [⟨if cl = true then .close else .tag, true, h, e + eaten, told⟩] ++ [⟨.bogus, true, h, min (qe + 1) M.length, [.two 6 (S (noNul ((M.take qe).drop (e + eaten))))]⟩], rfl, rfl, ?hF, ltmin (Nat.lt_of_lt_of_le h1' (Nat.le_trans (Nat.le_add_right _ _) hq1)) (Nat.lt_of_lt_of_le h1' h2'), Nat.min_le_right _ _⟩
                  case hp => (simp only [List.append_assoc, List.cons_append, List.nil_append]; refine' Part.cons ?h1 ?h2; (case h1 => kd_p1); (case h2 => exact Part.refl _))
                  case hf => (rw [hmin]; kd_adr)
                  case hF => exact ((hF.addS ([_, _] ++ tb2) (row := ⟨if cl = true then .close else .tag, true, h, e + eaten, told⟩) hstep rfl hee (.head _) (List.mem_append_left _ (List.mem_append_right _ hm)) (ht.mono fun _ _ z => z.mono fun x hx => List.mem_append_left _ (List.mem_append_right _ hx))).addS [_, _, _] (row := ⟨.bogus, true, h, min (qe + 1) M.length, [.two 6 (S (noNul ((M.take qe).drop (e + eaten))))]⟩) (.bogus (.mk hu2)) rfl hmin.symm (.head _) (.tail _ (.head _)) (.cons (ToldRep.two2 (.tail _ (.tail _ (.head _)))) .nil)).le (ar4c (ltmin (Nat.lt_of_lt_of_le h1' (Nat.le_trans (Nat.le_add_right _ _) hq1)) (Nat.lt_of_lt_of_le h1' h2')))
                · tb_start
                  refine' ⟨_, _, ?hf, ?hp, e + eaten, _, hv, h, vs ++ [_], _, ([_, _] ++ tb2) ++ tb, rows ++ [⟨if cl = true then .close else .tag, true, h, e + eaten, told⟩], rfl, rfl, ?hF, by omega, he2⟩
                  case hp => (simp only [List.append_assoc, List.cons_append, List.nil_append]; refine' Part.cons ?h1 ?h2; (case h1 => kd_p1); (case h2 => exact Part.refl _))
                  case hf => (rw [← hee]; kd_adr)
                  case hF => exact (hF.addS ([_, _] ++ tb2) (row := ⟨if cl = true then .close else .tag, true, h, e + eaten, told⟩) hstep rfl hee (.head _) (List.mem_append_left _ (List.mem_append_right _ hm)) (ht.mono fun _ _ z => z.mono fun x hx => List.mem_append_left _ (List.mem_append_right _ hx))).le (by omega)
              · obtain ⟨c, hcc, hlet⟩ := hb2 hb
                have hlt2 : e < M.length := by
                  rcases Nat.lt_or_ge e M.length with z | z
                  · exact z
                  · rw [List.getElem?_eq_none z] at hcc; cases hcc
                tb_start
                rw [lit_blanks, lit_slashgt]
                refine b_adds (by decide) fun _ => ?_
                tb_start
                refine Meets.at hC (by omega) (end_ok (p := e) (by omega) h2' rfl fun qe tq hu => ?_) fun _ _ h => h
                have hqe : e < qe := (hu.step hcc (by simp only [beq_false, Bool.not_eq_true', decide_eq_false_iff_not]; exact letter_fine c hlet)).1
                have hql := hu.2.1
                generalize hnm : noNul ((M.take qe).drop e) = nm
                obtain ⟨hnl, hnmem, hntake⟩ := nm_facts hnm (Nat.le_of_lt hqe) hql
                have hnM : nm.length ≤ M.length := by rw [hnl]; exact Nat.le_trans (Nat.sub_le _ _) hql
                tb_start
                refine sl_ss e qe rfl rfl (by omega) fun _ => ?_
                refine ⟨_, _, rfl, by rw [List.length_drop, List.length_take]; exact drle hz, fun tn => ?_⟩
                rw [show Txt.replace (S ((M.take qe).drop e)) (S [0]) (Str.ofString "\uFFFD") = S nm from by rw [lit_rep, replace_S, ← hnm]; rfl]
                tb_start
                refine x_for_range hC (by decide +kernel) (by decide +kernel) e qe (by omega) (by omega) (DueK M B r D0 p e qe cl nm te tn tq th) ?_ ?_ ?_
                · tb_start
                  refine f_range fun r9 v9 => ?_
                  refine' ⟨_, _, _, _, rfl, .here, _, _, ?hf, ?hp, _, _, vs, nn, tb, rows, h, hv, rfl, rfl, ?hF, ?hcs, fun z => absurd z (Nat.lt_irrefl _)⟩
                  case hf => kd_adr
                  case hp => exact (Part.refl _).skip
                  case hF => exact hF.le (by omega)
                  case hcs => rw [if_pos rfl]
                · rintro k hk1 hk2 tk lo led I o ⟨cs, tc, vs, nn, tb, rows, hk, hvk, rfl, rfl, hF, hcs, hh⟩
                  have hvl := hF.len
                  have hvl9 : vs.length ≤ 900 := ar9k hz (Nat.lt_of_lt_of_le h1' h2') (Nat.lt_of_lt_of_le hk2 hql) hF.len
                  obtain ⟨ck, hck, hg⟩ := hu.2.2.1 k hk1 hk2
                  have hne : ck ∉ ender := by
                    simp only [beq_false, Bool.not_eq_true', decide_eq_false_iff_not] at hg; exact hg
                  have hkl : k < M.length := Nat.lt_of_lt_of_le hk2 hql
                  have hckg : M[k] = ck := by rw [List.getElem?_eq_getElem hkl] at hck; exact Option.some.inj hck
                  have htk := hntake k ck hk1 hk2 hck
                  have hjk : (k : Int) + 1 - (e : Int) = ((k + 1 - e : Nat) : Int) := arjk hk1
                  have hbk : k + 1 - e ≤ nm.length := arbk hnl hk2
                  have hz9 : nm.length ≤ 1000 := z1000 (Nat.le_trans hnM hz)
                  tb_start
                  refine st_str k rfl rfl hkl (by omega) fun _ => ?_
                  tb_start
                  rw [hckg, S1]
                  rcases Nat.eq_or_lt_of_le hk1 with hke | hke
                  · subst hke
                    have hcc2 : ck = c := by rw [hck] at hcc; exact Option.some.inj hcc
                    subst hcc2
                    have hc0 := letter_pos ck hlet
                    refine Br.F (decide_eq_false hc0) ?_
                    tb_start
                    refine sl_ns (l := nm) (e + 1 - e) hjk hbk hz9 fun _ => ?_
                    tb_start
                    refine Meets.at hC (by omega) (tagf_ok (cl := cl) rfl fun a its b ob ht => ?_) fun _ _ h => h
                    rw [htk, if_neg hc0, Nat.sub_self, List.take_zero, List.nil_append] at ht
                    tb_start
                    rw [hcs, if_pos rfl, name_ne]
                    refine' ⟨_, _, ?hf, ?hp, _, _, vs ++ [_], _, [_, _, _, _] ++ tb, rows ++ [⟨if cl = true then .close else .tag, true, some ⟨cl, [ck], false⟩, e + 1, []⟩], some ⟨cl, [ck], false⟩, .ref a, rfl, rfl, ?hF, ?hcs, fun _ => by rw [htk, if_neg hc0, Nat.sub_self]; rfl⟩
                    case hp => (refine' Part.cons ?h1 ?h2; (case h1 => kd_p1); (case h2 => (refine' Part.cons ?h3 ?h4; (case h3 => kd_p1); (case h4 => exact Part.refl _))))
                    case hf => kd_adr
                    case hcs => (rw [if_neg (arne (Nat.le_refl _))]; rfl)
                    case hF => exact (hF.add [_, _, _, _] (row := ⟨if cl = true then .close else .tag, true, some ⟨cl, [ck], false⟩, e + 1, []⟩) (by cases cl; exact .tag (.letter hck hlet); exact .close (.letter hck hlet)) rfl (.head _) ⟨a, its, rfl, .tail _ (.head _), ht.mono fun x hx => by rw [List.mem_singleton.mp hx]; exact (.tail _ (.tail _ (.head _)))⟩ ((.tail _ (.tail _ (.tail _ (.head _))))) .nil).le (arle3 (Nat.le_refl _))
                  · have hke' := hh hke
                    subst hke'
                    refine ⟨fun h0 => ?_, fun h0 => ?_⟩
                    · have h0 := of_decide_eq_true h0
                      subst h0
                      tb_start
                      refine sl_ns (l := nm) (k + 1 - e) hjk hbk hz9 fun _ => ?_
                      tb_start
                      refine Meets.at hC (by omega) (tagf_ok (cl := cl) rfl fun a its b ob ht => ?_) fun _ _ h => h
                      rw [htk, if_pos rfl] at ht
                      tb_start
                      rw [hcs, if_neg (Nat.ne_of_gt hke), name_eq]
                      refine' ⟨_, _, ?hf, ?hp, _, _, vs ++ [_], _, [_, _, _, _, _] ++ tb, rows ++ [⟨.name, false, some ⟨cl, nm.take (k - e) ++ [65533], false⟩, k + 1, [bad "invalid-codepoint"]⟩], some ⟨cl, nm.take (k - e) ++ [65533], false⟩, .ref a, rfl, rfl, ?hF, ?hcs, fun _ => by rw [htk, if_pos rfl]⟩
                      case hp => (refine' Part.cons ?h1 ?h2; (case h1 => kd_p1); (case h2 => (refine' Part.cons ?h3 ?h4; (case h3 => kd_p1); (case h4 => exact Part.refl _))))
                      case hf => kd_adr
                      case hcs => (rw [if_neg (arne hk1)]; rfl)
                      case hF => exact (hF.add [_, _, _, _, _] (row := ⟨.name, false, some ⟨cl, nm.take (k - e) ++ [65533], false⟩, k + 1, [bad "invalid-codepoint"]⟩) (.name rfl (by rw [List.length_take]; exact Nat.le_trans (Nat.min_le_right _ _) hnM) (hnmem _) (.nul hck)) rfl (.head _) ⟨a, its, rfl, .tail _ (.head _), ht.mono fun x hx => by rw [List.mem_singleton.mp hx]; exact (.tail _ (.tail _ (.head _)))⟩ ((.tail _ (.tail _ (.tail _ (.head _))))) (.cons (ToldRep.two2 (.tail _ (.tail _ (.tail _ (.tail _ (.head _)))))) .nil)).le (arle3 hk1)
                    · have h0 := of_decide_eq_false h0
                      tb_start
                      refine sl_ns (l := nm) (k + 1 - e) hjk hbk hz9 fun _ => ?_
                      tb_start
                      refine Meets.at hC (by omega) (tagf_ok (cl := cl) rfl fun a its b ob ht => ?_) fun _ _ h => h
                      rw [htk, if_neg h0] at ht
                      tb_start
                      rw [hcs, if_neg (Nat.ne_of_gt hke), name_eq]
                      refine' ⟨_, _, ?hf, ?hp, _, _, vs ++ [_], _, [_, _, _, _] ++ tb, rows ++ [⟨.name, false, some ⟨cl, nm.take (k - e) ++ [ck], false⟩, k + 1, []⟩], some ⟨cl, nm.take (k - e) ++ [ck], false⟩, .ref a, rfl, rfl, ?hF, ?hcs, fun _ => by rw [htk, if_neg h0]⟩
                      case hp => (refine' Part.cons ?h1 ?h2; (case h1 => kd_p1); (case h2 => (refine' Part.cons ?h3 ?h4; (case h3 => kd_p1); (case h4 => exact Part.refl _))))
                      case hf => kd_adr
                      case hcs => (rw [if_neg (arne hk1)]; rfl)
                      case hF => exact (hF.add [_, _, _, _] (row := ⟨.name, false, some ⟨cl, nm.take (k - e) ++ [ck], false⟩, k + 1, []⟩) (.name rfl (by rw [List.length_take]; exact Nat.le_trans (Nat.min_le_right _ _) hnM) (hnmem _) (.char hck hne h0)) rfl (.head _) ⟨a, its, rfl, .tail _ (.head _), ht.mono fun x hx => by rw [List.mem_singleton.mp hx]; exact (.tail _ (.tail _ (.head _)))⟩ ((.tail _ (.tail _ (.tail _ (.head _))))) .nil).le (arle3 hk1)
                · rintro lo led ⟨cs, tc, vs, nn, tb, rows, hk, hvk, rfl, rfl, hF, hcs, hh⟩
                  have hvl := hF.len
                  have hvl9 : vs.length ≤ 900 := ar9k2 hz (Nat.lt_of_lt_of_le h1' h2') hql hF.len
                  have hkq := hh hqe
                  rw [List.take_of_length_le (by omega)] at hkq
                  subst hkq
                  have hnm9 := hnmem nm.length
                  rw [List.take_length] at hnm9
                  tb_start
                  refine sl_ss qe (qe + 1) rfl rfl (by omega) fun _ => ?_
                  rcases one_or hql with ⟨hn, hend⟩ | ⟨d, hd, hn, hlt3⟩
                  · rw [hn]
                    tb_start
                    rw [lit_gt]
                    refine Br.F (by rw [S_beq]; rfl) ?_
                    tb_start
                    rw [show (S [] == S [62]) = false from by rw [S_beq]; rfl]
                    refine Meets.at hC (by omega) (tagf_ok (cl := cl) (gv := false) rfl fun a its b ob ht => ?_) fun _ _ h => h
                    tb_start
                    refine Br.F (by rw [S_beq]; rfl) ?_
                    tb_start
                    rw [lit_empty2]
                    refine Br.T rfl ?_
                    tb_start
                    refine f_lens (z1000 hz) fun _ => ?_
                    tb_start
                    refine f_min hC fun _ => ?_
                    tb_start
                    have hmin : ((min (qe + 1) M.length : Nat) : Int) = min ((qe : Int) + 1) (M.length : Int) := hmin1 _ _
                    refine' ⟨_, _, ?hf, ?hp, min (qe + 1) M.length, _, .ref a, some ⟨cl, nm, false⟩, vs ++ [_], _, [_, _, _, _, _] ++ tb, rows ++ [⟨.name, true, some ⟨cl, nm, false⟩, qe, [bad "eof-in-tag-name"]⟩], rfl, rfl, ?hF, ltmin (Nat.lt_trans h1' hqe) (Nat.lt_of_lt_of_le h1' h2'), Nat.min_le_right _ _⟩
                    case hp => (refine' Part.cons ?h1 ?h2; (case h1 => kd_p1); (case h2 => exact Part.refl _))
                    case hf => (rw [hmin]; kd_adr)
                    case hF => rw [show min (qe + 1) M.length = qe from armin hend]; exact (hF.add [_, _, _, _, _] (row := ⟨.name, true, some ⟨cl, nm, false⟩, qe, [bad "eof-in-tag-name"]⟩) (.name rfl hnM hnm9 (.end hend)) (by show _ = (qe : Int); exact armin2 hend) (.head _) ⟨a, its, rfl, (.tail _ (.tail _ (.tail _ (.head _)))), ht.mono fun x hx => by rw [List.mem_singleton.mp hx]; exact (.tail _ (.tail _ (.tail _ (.tail _ (.head _)))))⟩ (.tail _ (.head _)) (.cons (ToldRep.two2 (.tail _ (.tail _ (.head _)))) .nil)).le (arle2 h1' hqe)
                  · rw [hn]
                    have hdn : d ∈ ender := by
                      rcases hu.2.2.2 with z | ⟨d', z1, z2⟩
                      · omega
                      · rw [hd] at z1; cases z1
                        exact Decidable.byContradiction fun h9 => by
                          have z3 : decide (d ∈ blanks ++ [47, 62]) = false := decide_eq_false h9
                          dsimp only at z2
                          rw [z3] at z2; cases z2
                    by_cases h62 : d = 62
                    · subst h62
                      tb_start
                      rw [lit_gt]
                      refine Br.T (by rw [S_beq]; rfl) ?_
                      tb_start
                      refine Meets.at hC (by omega) (small_ok (Nat.le_trans hnM hz) (fun c hc => by rcases hnm9 c hc with z | z; exact hM c z; omega) fun _ => ?_) fun _ _ h => h
                      tb_start
                      rw [show (S [62] == S [62]) = true from beq_self_eq_true _]
                      refine Meets.at hC (by omega) (tagf_ok (cl := cl) (gv := true) rfl fun a its b ob ht => ?_) fun _ _ h => h
                      tb_start
                      refine Br.T (beq_self_eq_true _) ?_
                      tb_start
                      refine f_lens (z1000 hz) fun _ => ?_
                      tb_start
                      refine f_min hC fun _ => ?_
                      tb_start
                      have hmin : ((qe + 1 : Nat) : Int) = min ((qe : Int) + 1) (M.length : Int) := hmin2 hlt3
                      refine' ⟨_, _, ?hf, ?hp, qe + 1, _, .ref a, some ⟨cl, nm.map smallC, true⟩, vs ++ [_], _, [_, _, _, _] ++ tb, rows ++ [⟨.name, true, some ⟨cl, nm.map smallC, true⟩, qe + 1, [.tag ⟨cl, nm.map smallC, true⟩]⟩], rfl, rfl, ?hF, Nat.lt_succ_of_lt (Nat.lt_trans h1' hqe), hlt3⟩
                      case hp => (refine' Part.cons ?h1 ?h2; (case h1 => kd_p1); (case h2 => exact Part.refl _))
                      case hf => (rw [hmin]; kd_adr)
                      case hF => exact (hF.add [_, _, _, _] (row := ⟨.name, true, some ⟨cl, nm.map smallC, true⟩, qe + 1, [.tag ⟨cl, nm.map smallC, true⟩]⟩) (.name rfl hnM hnm9 (.gt hd)) hmin.symm (.head _) ⟨a, its, rfl, (.tail _ (.tail _ (.head _))), ht.mono fun x hx => by rw [List.mem_singleton.mp hx]; exact (.tail _ (.tail _ (.tail _ (.head _))))⟩ (.tail _ (.head _)) (.cons ⟨a, its, rfl, (.tail _ (.tail _ (.head _))), ht.mono fun x hx => by rw [List.mem_singleton.mp hx]; exact (.tail _ (.tail _ (.tail _ (.head _))))⟩ .nil)).le (arle1 h1' hqe)
                    · tb_start
                      rw [lit_gt, S1]
                      refine Br.F (decide_eq_false h62) ?_
                      tb_start
                      rw [show (S [d] == S [62]) = false from by rw [S1]; exact decide_eq_false h62]
                      refine Meets.at hC (by omega) (tagf_ok (cl := cl) (gv := false) rfl fun a its b ob ht => ?_) fun _ _ h => h
                      tb_start
                      refine Br.F (by rw [S1]; exact decide_eq_false h62) ?_
                      tb_start
                      rw [lit_empty2]
                      refine Br.F (by rw [S_beq]; rfl) ?_
                      tb_start
                      refine f_lens (z1000 hz) fun _ => ?_
                      tb_start
                      refine f_min hC fun _ => ?_
                      tb_start
                      have hmin : ((qe + 1 : Nat) : Int) = min ((qe : Int) + 1) (M.length : Int) := hmin2 hlt3
                      refine' ⟨_, _, ?hf, ?hp, qe + 1, _, .ref a, some ⟨cl, nm, false⟩, vs ++ [_], _, [_, _, _, _] ++ tb, rows ++ [⟨.name, true, some ⟨cl, nm, false⟩, qe + 1, []⟩], rfl, rfl, ?hF, Nat.lt_succ_of_lt (Nat.lt_trans h1' hqe), hlt3⟩
                      case hp => (refine' Part.cons ?h1 ?h2; (case h1 => kd_p1); (case h2 => exact Part.refl _))
                      case hf => (rw [hmin]; kd_adr)
                      case hF => exact (hF.add [_, _, _, _] (row := ⟨.name, true, some ⟨cl, nm, false⟩, qe + 1, []⟩) (.name rfl hnM hnm9 (.stop hd hdn h62)) hmin.symm (.head _) ⟨a, its, rfl, (.tail _ (.tail _ (.head _))), ht.mono fun x hx => by rw [List.mem_singleton.mp hx]; exact (.tail _ (.tail _ (.tail _ (.head _))))⟩ (.tail _ (.head _)) .nil).le (arle1 h1' hqe)
        · rintro lo led ⟨e, te, hv, h, vs, nn, tb, rows, rfl, rfl, hF, h1, h2⟩
          tb_start
          exact ⟨M.length - e, Nat.sub_lt_sub_left hlt h1, _, _, by kd_adr, Part.refl _, e, te, hv, h, vs, nn, tb, rows, rfl, rfl, hF, h2, rfl⟩
      · have hpe : p = M.length := by have := of_decide_eq_false hb; omega
        tb_start
        exact ⟨_, _, by kd_adr, Part.refl _, hv, h, vs, nn, tb, rows, rfl, rfl, by rw [hpe] at hF; exact hF⟩
    · rintro lo led ⟨hv, h, vs, nn, tb, rows, rfl, rfl, hF⟩
      tb_start
      exact ⟨_, Part.refl _, q _ _ _ _ _ _ hF.1 hF.2.2.1 (by have := hF.len; omega)⟩
end
section
local macro_rules | `(tactic| ktd_rel) => `(tactic| first
  | (refine Br.T (by first | rfl | decide +kernel) ?_)
  | (refine Br.F (by first | rfl | decide +kernel) ?_))
theorem mend_mem : ∀ {l : List Nat} {c : Nat}, c ∈ mend l → c ∈ l ∨ c = 10 := by
  have key : ∀ l : List Nat, ∀ c ∈ crlf l, c ∈ l := by
    intro l
    induction l using crlf.induct with
    | case1 r ih => intro c hc; rw [crlf_pair] at hc; rcases List.mem_cons.mp hc with rfl | hc
                    · simp
                    · exact .tail _ (.tail _ (ih c hc))
    | case2 a r h ih => intro c hc; rw [crlf_cons (fun z => by obtain ⟨rfl, z⟩ := z; match r, z with | b :: r', z => exact h r' rfl (by simpa using z))] at hc
                        rcases List.mem_cons.mp hc with rfl | hc
                        · exact .head _
                        · exact .tail _ (ih c hc)
    | case3 => exact fun c hc => by cases hc
  intro l c hc
  rw [mend, List.mem_map] at hc
  obtain ⟨x, hx, rfl⟩ := hc
  split
  · exact .inr rfl
  · exact .inl (key l x hx)
theorem name_small {X : SX} (hT : ∀ c ∈ X.T, c = 1 ∨ Fine c) {n : List Nat} (h : ∀ c ∈ n, c ∈ mend X.T ∨ c = 65533) : ∀ c ∈ n, c ≤ 65535 := fun c hc => by
  rcases h c hc with z | z
  · rcases mend_mem z with z | z
    · rcases hT c z with z | z
      · omega
      · unfold Fine at z; omega
    · omega
  · omega
theorem call_ok {w : World} {K : KX} {X : SX} {v : SV} {p : Nat} {h : Option Tag} {row : Row} {cv : Value} {qa : Addr} {n : Nat} {tc : Tok} {crest r l : Led} {Q : Value → Led → Prop}
    (hl : SLed w X v (kObjs w K X .none cv qa [] n crest) l) (hcur : CurLed w cv h r crest) (hT : ∀ c ∈ X.T, c = 1 ∨ Fine c) (hz : X.T.length ≤ 100) (hI : Inv X v p) (hs : Step (mend X.T) p h row)
    (q : ∀ l', Post w K X qa r row.leaves row.held row.place row.told l' → Q (.bool true) l') : Meets 6 w 819 [.ref K.k, .str (callStr row.call) tc] l Q := by
  obtain ⟨t3, t4, t5, t7, t8, t9, tp, m, errs, he1, he2, rfl⟩ := hl
  cases hs with
  | data hd =>
    refine' meets_of [(Str.ofString "t", .ref K.k), (Str.ofString "call", .str (callStr .data) tc)] ?ho ?hcd ?hbind ?hloc ?hfl ?_
    kwd_rel
    intro C hw hC; subst hw; dsimp only [revd]
    tb_start
    ktd_rel
    tb_start
    refine Meets.at hC (by omega) (data_ok (X := X) (v := v) (p := p) (SLed.mk rfl rfl rfl rfl rfl ⟨t9, rfl⟩ rfl he1 he2) hcur hT hz hI (fun l' e _ => absurd e hd.some) fun lv p2 t2 l' s2 po => ?_) fun _ _ h => h
    obtain ⟨rfl, rfl, rfl, rfl⟩ := hd.det s2
    tb_start
    exact ⟨_, Part.refl _, q _ po⟩
  | tag hd =>
    refine' meets_of [(Str.ofString "t", .ref K.k), (Str.ofString "call", .str (callStr .tag) tc)] ?ho ?hcd ?hbind ?hloc ?hfl ?_
    kwd_rel
    intro C hw hC; subst hw; dsimp only [revd]
    tb_start
    ktd_rel
    tb_start
    ktd_rel
    tb_start
    refine Meets.at hC (by omega) (tag_ok (X := X) (v := v) (p := p) (SLed.mk rfl rfl rfl rfl rfl ⟨t9, rfl⟩ rfl he1 he2) hcur hT hz hI fun lv h2 p2 t2 l' s2 po => ?_) fun _ _ h => h
    obtain ⟨rfl, rfl, rfl, rfl⟩ := hd.det s2
    tb_start
    exact ⟨_, Part.refl _, q _ po⟩
  | close hd =>
    refine' meets_of [(Str.ofString "t", .ref K.k), (Str.ofString "call", .str (callStr .close) tc)] ?ho ?hcd ?hbind ?hloc ?hfl ?_
    kwd_rel
    intro C hw hC; subst hw; dsimp only [revd]
    tb_start
    ktd_rel
    tb_start
    ktd_rel
    tb_start
    ktd_rel
    tb_start
    refine Meets.at hC (by omega) (close_ok (X := X) (v := v) (p := p) (SLed.mk rfl rfl rfl rfl rfl ⟨t9, rfl⟩ rfl he1 he2) hcur hT hz hI fun lv h2 p2 t2 l' s2 po => ?_) fun _ _ h => h
    obtain ⟨rfl, rfl, rfl, rfl⟩ := hd.det s2
    tb_start
    exact ⟨_, Part.refl _, q _ po⟩
  | name hh hnl hnm hd =>
    subst hh
    refine' meets_of [(Str.ofString "t", .ref K.k), (Str.ofString "call", .str (callStr .name) tc)] ?ho ?hcd ?hbind ?hloc ?hfl ?_
    kwd_rel
    intro C hw hC; subst hw; dsimp only [revd]
    tb_start
    ktd_rel
    tb_start
    ktd_rel
    tb_start
    ktd_rel
    tb_start
    ktd_rel
    tb_start
    refine Meets.at hC (by omega) (name_ok (X := X) (v := v) (p := p) (SLed.mk rfl rfl rfl rfl rfl ⟨t9, rfl⟩ rfl he1 he2) hcur hT hz (Nat.le_trans hnl (Nat.le_trans (mend_len _) hz)) (name_small hT hnm) hI fun lv h2 p2 t2 l' s2 po => ?_) fun _ _ h => h
    obtain ⟨rfl, rfl, rfl, rfl⟩ := hd.det s2
    tb_start
    exact ⟨_, Part.refl _, q _ po⟩
  | bogus hd =>
    refine' meets_of [(Str.ofString "t", .ref K.k), (Str.ofString "call", .str (callStr .bogus) tc)] ?ho ?hcd ?hbind ?hloc ?hfl ?_
    kwd_rel
    intro C hw hC; subst hw; dsimp only [revd]
    tb_start
    ktd_rel
    tb_start
    ktd_rel
    tb_start
    ktd_rel
    tb_start
    ktd_rel
    tb_start
    refine Meets.at hC (by omega) (bogus_ok (X := X) (v := v) (p := p) (SLed.mk rfl rfl rfl rfl rfl ⟨t9, rfl⟩ rfl he1 he2) hcur hT hz hI fun lv h2 p2 t2 l' s2 po => ?_) fun _ _ h => h
    obtain ⟨rfl, rfl, rfl, rfl⟩ := hd.det s2
    tb_start
    exact ⟨_, Part.refl _, q _ po⟩
end
section
local macro_rules | `(tactic| ktd_rel) => `(tactic| first
  | (refine Br.T (by first | rfl | decide +kernel) ?_)
  | (refine Br.F (by first | rfl | decide +kernel) ?_))
theorem tinit_ok {w : World} {x dx : Addr} {T : List Nat} {tt : Tok} {r : Led} {Q : Value → Led → Prop} (q : ∀ kt tp, Q .none ((dx, dictOf (tDict w.params kt (.str (S T) tt) (.int 0 tp)) 2) :: (x, instObj 73 dx) :: r)) :
    Meets 1 w 63 [.ref x, .str (S T) tt] ((x, instObj 73 dx) :: (dx, dictOf [] 0) :: r) Q := by
  refine' meets_of [(Str.ofString "self", .ref x), (Str.ofString "text", .str (S T) tt)] ?ho ?hcd ?hbind ?hloc ?hfl ?_
  kwd_rel
  intro C hw hC; subst hw; dsimp only [revd]
  tb_start
  refine' a_setP hC (es' := fun t => [ent C.w.params "text" t (.str (S T) tt)]) (n' := 1) ?hx ?hp ?hc ?hl ?he ?hz fun t0 => ?_
  case hx => ked_read
  case hp => kd_p1
  case hc => kernel_rfl
  case hl => kernel_rfl
  case he => (intro t; kernel_rfl)
  case hz => exact fun t => Nat.le_of_ble_eq_true rfl
  tb_start
  rename_i tp
  refine' a_setP hC (es' := fun t => [ent C.w.params "text" t0 (.str (S T) tt), ent C.w.params "place" t (.int 0 tp)]) (n' := 2) ?hx ?hp ?hc ?hl ?he ?hz fun t1 => ?_
  case hx => ked_read
  case hp => kd_p1
  case hc => kernel_rfl
  case hl => kernel_rfl
  case he => (intro t; kernel_rfl)
  case hz => exact fun t => Nat.le_of_ble_eq_true rfl
  tb_start
  exact ⟨_, Part.refl _, q (fun i => match i with | 0 => t0 | _ => t1) tp⟩
theorem open_ok {w : World} {x : Addr} {T : List Nat} {tt : Tok} {r : Led} {Q : Value → Led → Prop} (q : ∀ tx td kt tp, Q (.ref tx) ((td, dictOf (tDict w.params kt (.str (S T) tt) (.int 0 tp)) 2) :: (tx, instObj 73 td) :: r)) :
    Meets 3 w 112 [.ref x, .str (S T) tt] r Q := by
  refine' meets_of [(Str.ofString "self", .ref x), (Str.ofString "source", .str (S T) tt)] ?ho ?hcd ?hbind ?hloc ?hfl ?_
  kwd_rel
  intro C hw hC; subst hw; dsimp only [revd]
  tb_start
  refine f_cls (k := 1) hC (Nat.le_refl _) (Cl := 73) (fI := 63) (by kernel_rfl) (by k_is) (by kernel_rfl) fun tx td => ?_
  refine tinit_ok fun kt tp => ⟨rfl, ?_⟩
  tb_start
  exact ⟨_, Part.refl _, q _ _ _ _⟩
theorem reset_ok {w : World} {x d : Addr} {k0 k1 k2 : Tok} {v0 v1 v2 : Value} {r : Led} {Q : Value → Led → Prop} (q : ∀ kt t3 t4 t5 t7 t8 ea, Q .none ((d, dictOf (sDict w.params kt v0 v1 v2 (.str (S []) t3) (.int 0 t4) (.int 0 t5) (.ref ea) (.int 0 t7) (.int 0 t8) .none) 10) :: (ea, lst [] 0) :: (x, instObj 166 d) :: r)) :
    Meets 1 w 105 [.ref x] ((x, instObj 166 d) :: (d, dictOf [ent w.params "reportCharacterErrors" k0 v0, ent w.params "newLines" k1 v1, ent w.params "dataStream" k2 v2] 3) :: r) Q := by
  refine' meets_of [(Str.ofString "self", .ref x)] ?ho ?hcd ?hbind ?hloc ?hfl ?_
  kwd_rel
  intro C hw hC; subst hw; dsimp only [revd]
  tb_start
  rename_i t3
  rw [lit_empty2]
  refine' a_setP hC (es' := fun t => [ent C.w.params "reportCharacterErrors" k0 v0, ent C.w.params "newLines" k1 v1, ent C.w.params "dataStream" k2 v2, ent C.w.params "chunk" t (.str (S []) t3)]) (n' := 4) ?hx ?hp ?hc ?hl ?he ?hz fun s3 => ?_
  case hx => ked_read
  case hp => kd_p1
  case hc => kernel_rfl
  case hl => kernel_rfl
  case he => (intro t; kernel_rfl)
  case hz => exact fun t => Nat.le_of_ble_eq_true rfl
  tb_start
  rename_i t4
  refine' a_setP hC (es' := fun t => [ent C.w.params "reportCharacterErrors" k0 v0, ent C.w.params "newLines" k1 v1, ent C.w.params "dataStream" k2 v2, ent C.w.params "chunk" s3 (.str (S []) t3), ent C.w.params "chunkSize" t (.int 0 t4)]) (n' := 5) ?hx ?hp ?hc ?hl ?he ?hz fun s4 => ?_
  case hx => ked_read
  case hp => kd_p1
  case hc => kernel_rfl
  case hl => kernel_rfl
  case he => (intro t; kernel_rfl)
  case hz => exact fun t => Nat.le_of_ble_eq_true rfl
  tb_start
  rename_i t5
  refine' a_setP hC (es' := fun t => [ent C.w.params "reportCharacterErrors" k0 v0, ent C.w.params "newLines" k1 v1, ent C.w.params "dataStream" k2 v2, ent C.w.params "chunk" s3 (.str (S []) t3), ent C.w.params "chunkSize" s4 (.int 0 t4), ent C.w.params "chunkOffset" t (.int 0 t5)]) (n' := 6) ?hx ?hp ?hc ?hl ?he ?hz fun s5 => ?_
  case hx => ked_read
  case hp => kd_p1
  case hc => kernel_rfl
  case hl => kernel_rfl
  case he => (intro t; kernel_rfl)
  case hz => exact fun t => Nat.le_of_ble_eq_true rfl
  tb_start
  rename_i ea
  refine' a_setP hC (es' := fun t => [ent C.w.params "reportCharacterErrors" k0 v0, ent C.w.params "newLines" k1 v1, ent C.w.params "dataStream" k2 v2, ent C.w.params "chunk" s3 (.str (S []) t3), ent C.w.params "chunkSize" s4 (.int 0 t4), ent C.w.params "chunkOffset" s5 (.int 0 t5), ent C.w.params "errors" t (.ref ea)]) (n' := 7) ?hx ?hp ?hc ?hl ?he ?hz fun s6 => ?_
  case hx => ked_read
  case hp => kd_p1
  case hc => kernel_rfl
  case hl => kernel_rfl
  case he => (intro t; kernel_rfl)
  case hz => exact fun t => Nat.le_of_ble_eq_true rfl
  tb_start
  rename_i t7
  refine' a_setP hC (es' := fun t => [ent C.w.params "reportCharacterErrors" k0 v0, ent C.w.params "newLines" k1 v1, ent C.w.params "dataStream" k2 v2, ent C.w.params "chunk" s3 (.str (S []) t3), ent C.w.params "chunkSize" s4 (.int 0 t4), ent C.w.params "chunkOffset" s5 (.int 0 t5), ent C.w.params "errors" s6 (.ref ea), ent C.w.params "prevNumLines" t (.int 0 t7)]) (n' := 8) ?hx ?hp ?hc ?hl ?he ?hz fun s7 => ?_
  case hx => ked_read
  case hp => kd_p1
  case hc => kernel_rfl
  case hl => kernel_rfl
  case he => (intro t; kernel_rfl)
  case hz => exact fun t => Nat.le_of_ble_eq_true rfl
  tb_start
  rename_i t8
  refine' a_setP hC (es' := fun t => [ent C.w.params "reportCharacterErrors" k0 v0, ent C.w.params "newLines" k1 v1, ent C.w.params "dataStream" k2 v2, ent C.w.params "chunk" s3 (.str (S []) t3), ent C.w.params "chunkSize" s4 (.int 0 t4), ent C.w.params "chunkOffset" s5 (.int 0 t5), ent C.w.params "errors" s6 (.ref ea), ent C.w.params "prevNumLines" s7 (.int 0 t7), ent C.w.params "prevNumCols" t (.int 0 t8)]) (n' := 9) ?hx ?hp ?hc ?hl ?he ?hz fun s8 => ?_
  case hx => ked_read
  case hp => kd_p1
  case hc => kernel_rfl
  case hl => kernel_rfl
  case he => (intro t; kernel_rfl)
  case hz => exact fun t => Nat.le_of_ble_eq_true rfl
  tb_start
  refine' a_setP hC (es' := fun t => [ent C.w.params "reportCharacterErrors" k0 v0, ent C.w.params "newLines" k1 v1, ent C.w.params "dataStream" k2 v2, ent C.w.params "chunk" s3 (.str (S []) t3), ent C.w.params "chunkSize" s4 (.int 0 t4), ent C.w.params "chunkOffset" s5 (.int 0 t5), ent C.w.params "errors" s6 (.ref ea), ent C.w.params "prevNumLines" s7 (.int 0 t7), ent C.w.params "prevNumCols" s8 (.int 0 t8), ent C.w.params "_bufferedCharacter" t .none]) (n' := 10) ?hx ?hp ?hc ?hl ?he ?hz fun s9 => ?_
  case hx => ked_read
  case hp => kd_p1
  case hc => kernel_rfl
  case hl => kernel_rfl
  case he => (intro t; kernel_rfl)
  case hz => exact fun t => Nat.le_of_ble_eq_true rfl
  tb_start
  refine' ⟨_, ?hp, q (fun i => match i with | 0 => k0 | 1 => k1 | 2 => k2 | 3 => s3 | 4 => s4 | 5 => s5 | 6 => s6 | 7 => s7 | 8 => s8 | _ => s9) t3 t4 t5 t7 t8 ea⟩
  case hp => exact Part.refl _
theorem sinit_ok {w : World} {x d : Addr} {T : List Nat} {tt : Tok} {r : Led} {Q : Value → Led → Prop} (q : ∀ X l', X.x = x → X.T = T → SLed w X sv0 r l' → Q .none l') :
    Meets 4 w 98 [.ref x, .str (S T) tt] ((x, instObj 166 d) :: (d, dictOf [] 0) :: r) Q := by
  refine' meets_of [(Str.ofString "self", .ref x), (Str.ofString "source", .str (S T) tt)] ?ho ?hcd ?hbind ?hloc ?hfl ?_
  kwd_rel
  intro C hw hC; subst hw; dsimp only [revd]
  tb_start
  refine a_bound hC .here (.skip .here) bb148 rfl fun qm => ?_
  tb_start
  refine' a_setP hC (es' := fun t => [ent C.w.params "reportCharacterErrors" t (.ref qm)]) (n' := 1) ?hx ?hp ?hc ?hl ?he ?hz fun k0 => ?_
  case hx => ked_read
  case hp => kd_p1
  case hc => kernel_rfl
  case hl => kernel_rfl
  case he => (intro t; kernel_rfl)
  case hz => exact fun t => Nat.le_of_ble_eq_true rfl
  tb_start
  rename_i nl
  refine' a_setP hC (es' := fun t => [ent C.w.params "reportCharacterErrors" k0 (.ref qm), ent C.w.params "newLines" t (.ref nl)]) (n' := 2) ?hx ?hp ?hc ?hl ?he ?hz fun k1 => ?_
  case hx => ked_read
  case hp => kd_p1
  case hc => kernel_rfl
  case hl => kernel_rfl
  case he => (intro t; kernel_rfl)
  case hz => exact fun t => Nat.le_of_ble_eq_true rfl
  tb_start
  intro pl
  refine' m_inst hC ?hx ?hd mb112 ?hl ?_
  case hx => ked_read
  case hd => ked_read
  case hl => kernel_rfl
  tb_start
  refine Meets.at hC (by omega) (open_ok fun tx td kt' tp => ?_) fun _ _ h => h
  tb_start
  refine' a_setP hC (es' := fun t => [ent C.w.params "reportCharacterErrors" k0 (.ref qm), ent C.w.params "newLines" k1 (.ref nl), ent C.w.params "dataStream" t (.ref tx)]) (n' := 3) ?hx ?hp ?hc ?hl ?he ?hz fun k2 => ?_
  case hx => ked_read
  case hp => kd_p1
  case hc => kernel_rfl
  case hl => kernel_rfl
  case he => (intro t; kernel_rfl)
  case hz => exact fun t => Nat.le_of_ble_eq_true rfl
  tb_start
  intro pl
  refine' m_inst hC ?hx ?hd mb105 ?hl ?_
  case hx => ked_read
  case hd => ked_read
  case hl => kernel_rfl
  tb_start
  refine WP.part (led' := (x, instObj 166 d) :: (d, dictOf [ent C.w.params "reportCharacterErrors" k0 (.ref qm), ent C.w.params "newLines" k1 (.ref nl), ent C.w.params "dataStream" k2 (.ref tx)] 3) :: (td, dictOf (tDict C.w.params kt' (.str (S T) tt) (.int 0 tp)) 2) :: (tx, instObj 73 td) :: (qm, methodObj (.ref 148) (.ref x)) :: r) ?_ ?hpp
  case hpp =>
    refine' Part.cons ?h1 (Part.cons ?h2 (Part.cons ?h3 (Part.cons ?h4 (Part.cons ?h5 ?h6))))
    case h1 => kd_p1
    case h2 => kd_p1
    case h3 => kd_p1
    case h4 => kd_p1
    case h5 => kd_p1
    case h6 => exact (Part.refl _).skip
  refine Meets.at hC (by omega) (reset_ok fun kt t3 t4 t5 t7 t8 ea => ?_) fun _ _ h => h
  tb_start
  refine' ⟨_, ?hp, q ⟨x, d, tx, td, ea, qm, nl, kt, kt', T, tt⟩ _ rfl rfl ⟨t3, t4, t5, t7, t8, 0, tp, 0, [], rfl, (fun _ h => nomatch h), rfl⟩⟩
  case hp =>
    show Part ((x, instObj 166 d) :: (d, dictOf (sDict C.w.params kt (.ref qm) (.ref nl) (.ref tx) (.str (S []) t3) (.int 0 t4) (.int 0 t5) (.ref ea) (.int 0 t7) (.int 0 t8) .none) 10) :: (tx, instObj 73 td) :: (td, dictOf (tDict C.w.params kt' (.str (S T) tt) (.int 0 tp)) 2) :: (ea, lst [] 0) :: (qm, methodObj (.ref 148) (.ref x)) :: r) _
    refine' Part.cons ?h1 (Part.cons ?h2 (Part.cons ?h3 (Part.cons ?h4 (Part.cons ?h5 (Part.cons ?h6 ?h7)))))
    case h1 => kd_p1
    case h2 => kd_p1
    case h3 => kd_p1
    case h4 => kd_p1
    case h5 => kd_p1
    case h6 => kd_p1
    case h7 => exact Part.refl _
end
section
local macro_rules | `(tactic| ktd_rel) => `(tactic| first
  | (refine Br.T (by first | rfl | decide +kernel) ?_)
  | (refine Br.F (by first | rfl | decide +kernel) ?_))
theorem kinit_ok {w : World} {k kd : Addr} {T : List Nat} {tt : Tok} {r : Led} {Q : Value → Led → Prop} (q : ∀ (X : SX) (K : KX) (stv : Value) (l' : Led), K.k = k → X.T = T → SLed w X sv0 ((K.d, dictOf (kDict7 w.params K.kt (.ref X.x) .none (.bool false) (.ref K.lf) stv (.bool false) .none) 7) :: (K.k, instObj 762 K.d) :: r) l' → Q .none l') :
    Meets 7 w 261 [.ref k, .str (S T) tt] ((k, instObj 762 kd) :: (kd, dictOf [] 0) :: r) Q := by
  refine' meets_of [(Str.ofString "self", .ref k), (Str.ofString "stream", .str (S T) tt), (Str.ofString "parser", .none)] ?ho ?hcd ?hbind ?hloc ?hfl ?_
  case ho => k_is
  case hcd => k_is
  case hbind =>
    intro s hK
    exact binds_K hK rfl (by k_is) rfl rfl rfl
  case hloc => kernel_rfl
  case hfl => decide +kernel
  intro C hw hC; subst hw; dsimp only [revd]
  tb_start
  refine f_cls (k := 5) hC (j := 4) (by omega) (Cl := 166) (fI := 98) (by kernel_rfl) (by k_is) (by kernel_rfl) fun x dx => ?_
  refine sinit_ok fun X l' hx hT hl => ⟨rfl, ?_⟩
  obtain ⟨t3, t4, t5, t7, t8, t9, tp, m, errs, he1, he2, rfl⟩ := hl
  subst hx
  tb_start
  refine' a_setP hC (es' := fun t => [ent C.w.params "stream" t (.ref X.x)]) (n' := 1) ?hx ?hp ?hc ?hl ?he ?hz fun k0 => ?_
  case hx => ked_read
  case hp => kd_p1
  case hc => kernel_rfl
  case hl => kernel_rfl
  case he => (intro t; kernel_rfl)
  case hz => exact fun t => Nat.le_of_ble_eq_true rfl
  tb_start
  refine' a_setP hC (es' := fun t => [ent C.w.params "stream" k0 (.ref X.x), ent C.w.params "parser" t .none]) (n' := 2) ?hx ?hp ?hc ?hl ?he ?hz fun k1 => ?_
  case hx => ked_read
  case hp => kd_p1
  case hc => kernel_rfl
  case hl => kernel_rfl
  case he => (intro t; kernel_rfl)
  case hz => exact fun t => Nat.le_of_ble_eq_true rfl
  tb_start
  refine' a_setP hC (es' := fun t => [ent C.w.params "stream" k0 (.ref X.x), ent C.w.params "parser" k1 .none, ent C.w.params "escapeFlag" t (.bool false)]) (n' := 3) ?hx ?hp ?hc ?hl ?he ?hz fun k2 => ?_
  case hx => ked_read
  case hp => kd_p1
  case hc => kernel_rfl
  case hl => kernel_rfl
  case he => (intro t; kernel_rfl)
  case hz => exact fun t => Nat.le_of_ble_eq_true rfl
  tb_start
  rename_i lf
  refine' a_setP hC (es' := fun t => [ent C.w.params "stream" k0 (.ref X.x), ent C.w.params "parser" k1 .none, ent C.w.params "escapeFlag" k2 (.bool false), ent C.w.params "lastFourChars" t (.ref lf)]) (n' := 4) ?hx ?hp ?hc ?hl ?he ?hz fun k3 => ?_
  case hx => ked_read
  case hp => kd_p1
  case hc => kernel_rfl
  case hl => kernel_rfl
  case he => (intro t; kernel_rfl)
  case hz => exact fun t => Nat.le_of_ble_eq_true rfl
  tb_start
  refine' a_bound hC ?hx ?hd bb304 ?hl fun sq => ?_
  case hx => ked_read
  case hd => ked_read
  case hl => kernel_rfl
  tb_start
  refine' a_setP hC (es' := fun t => [ent C.w.params "stream" k0 (.ref X.x), ent C.w.params "parser" k1 .none, ent C.w.params "escapeFlag" k2 (.bool false), ent C.w.params "lastFourChars" k3 (.ref lf), ent C.w.params "state" t (.ref sq)]) (n' := 5) ?hx ?hp ?hc ?hl ?he ?hz fun k4 => ?_
  case hx => ked_read
  case hp => kd_p1
  case hc => kernel_rfl
  case hl => kernel_rfl
  case he => (intro t; kernel_rfl)
  case hz => exact fun t => Nat.le_of_ble_eq_true rfl
  tb_start
  refine' a_setP hC (es' := fun t => [ent C.w.params "stream" k0 (.ref X.x), ent C.w.params "parser" k1 .none, ent C.w.params "escapeFlag" k2 (.bool false), ent C.w.params "lastFourChars" k3 (.ref lf), ent C.w.params "state" k4 (.ref sq), ent C.w.params "escape" t (.bool false)]) (n' := 6) ?hx ?hp ?hc ?hl ?he ?hz fun k5 => ?_
  case hx => ked_read
  case hp => kd_p1
  case hc => kernel_rfl
  case hl => kernel_rfl
  case he => (intro t; kernel_rfl)
  case hz => exact fun t => Nat.le_of_ble_eq_true rfl
  tb_start
  refine' a_setP hC (es' := fun t => [ent C.w.params "stream" k0 (.ref X.x), ent C.w.params "parser" k1 .none, ent C.w.params "escapeFlag" k2 (.bool false), ent C.w.params "lastFourChars" k3 (.ref lf), ent C.w.params "state" k4 (.ref sq), ent C.w.params "escape" k5 (.bool false), ent C.w.params "currentToken" t .none]) (n' := 7) ?hx ?hp ?hc ?hl ?he ?hz fun k6 => ?_
  case hx => ked_read
  case hp => kd_p1
  case hc => kernel_rfl
  case hl => kernel_rfl
  case he => (intro t; kernel_rfl)
  case hz => exact fun t => Nat.le_of_ble_eq_true rfl
  tb_start
  refine' ⟨_, ?hp, q X ⟨k, kd, lf, fun i => match i with | 0 => k0 | 1 => k1 | 2 => k2 | 3 => k3 | 4 => k4 | 5 => k5 | _ => k6⟩ (.ref sq) _ rfl hT (SLed.mk rfl rfl rfl rfl rfl ⟨t9, rfl⟩ rfl he1 he2)⟩
  case hp =>
    show Part (sObjs C.w X sv0.chunk sv0.chunk.length sv0.off sv0.pl sv0.pc (if sv0.buf then .str (S [13]) t9 else .none) sv0.place t3 t4 t5 t7 t8 tp errs m ((kd, dictOf [ent C.w.params "stream" k0 (.ref X.x), ent C.w.params "parser" k1 .none, ent C.w.params "escapeFlag" k2 (.bool false), ent C.w.params "lastFourChars" k3 (.ref lf), ent C.w.params "state" k4 (.ref sq), ent C.w.params "escape" k5 (.bool false), ent C.w.params "currentToken" k6 .none] 7) :: (k, instObj 762 kd) :: r)) _
    refine' Part.cons ?h1 (Part.cons ?h2 (Part.cons ?h3 (Part.cons ?h4 (Part.cons ?h5 (Part.cons ?h6 (Part.cons ?h7 (Part.cons ?h8 ?h9)))))))
    case h1 => kd_p1
    case h2 => kd_p1
    case h3 => kd_p1
    case h4 => kd_p1
    case h5 => kd_p1
    case h6 => kd_p1
    case h7 => kd_p1
    case h8 => kd_p1
    case h9 => (repeat (first | exact Part.refl _ | refine Part.skip ?_))
end
section
local macro_rules | `(tactic| ktd_rel) => `(tactic| first
  | (refine Br.T (by first | rfl | decide +kernel) ?_)
  | (refine Br.F (by first | rfl | decide +kernel) ?_))
/-- the tokenizer's dict, before or behind the first queue -/
def KSet (w : World) (K : KX) (X : SX) (cv : Value) (es : List DictEntry) (en : Nat) : Prop := ∃ stv, (es = kDict7 w.params K.kt (.ref X.x) .none (.bool false) (.ref K.lf) stv (.bool false) cv ∧ en = 7) ∨ ∃ qv, es = kDict w.params K.kt (.ref X.x) .none (.bool false) (.ref K.lf) stv (.bool false) cv qv ∧ en = 8
theorem set_two {fn : Fn} {C : Cx fn} {k : Nat} (hC : C.Ok k) (ht : locB fn (Str.ofString "t") = true) {lo : Lo} {led crest : Led} {rest : List Stmt} {Q : Flow → Lo → Led → Prop} {p1 p2 p3 p4 p5 p6 p7 p8 : Pos} {c1 : Nat} {K : KX} {X : SX} {v : SV} {cv : Value} {es : List DictEntry} {en : Nat}
    (hlt : lo.lookup (Str.ofString "t") = some (.ref K.k)) (hS : SLed C.w X v ((K.d, dictOf es en) :: (K.k, instObj 762 K.d) :: crest) led) (hes : KSet C.w K X cv es en)
    (cont : ∀ (K' : KX) qa led', K'.k = K.k → SLed C.w X v (kObjs C.w K' X .none cv qa [] 0 crest) led' → WP C lo led' (execs rest C.env) Q) :
    WP C lo led (execs ((.Assign [.Attribute (.Name (Str.ofString "t") p1) (Str.ofString "state") p2] (.Constant .none c1 p3) p4) :: (.Assign [.Attribute (.Name (Str.ofString "t") p5) (Str.ofString "tokenQueue") p6] (.List [] p7) p8) :: rest) C.env) Q := by
  obtain ⟨t3, t4, t5, t7, t8, t9, tp, m, errs, he1, he2, rfl⟩ := hS
  obtain ⟨stv, hes⟩ := hes
  rcases hes with ⟨rfl, rfl⟩ | ⟨qv, rfl, rfl⟩
  · refine x_cons ((x_setattr (by rfl) (e_none (e_local ht hlt ?_)) : WP C _ _ _ _))
    refine' a_setP hC (es' := fun t => kDict7 C.w.params K.kt (.ref X.x) .none (.bool false) (.ref K.lf) .none (.bool false) cv) (n' := 7) ?hx ?hp ?hc ?hl ?he ?hz fun t0 => ?_
    case hx => ked_read
    case hp => kd_p1
    case hc => kernel_rfl
    case hl => kernel_rfl
    case he => (intro t; kernel_rfl)
    case hz => exact fun t => Nat.le_of_ble_eq_true rfl
    refine seq_next (x_cons (x_setattr (by rfl) (e_list (s_none ⟨Nat.zero_le _, fun qa => e_local ht hlt ?_⟩))))
    refine' a_setP hC (es' := fun t => kDict C.w.params (fun i => if i = 7 then t else K.kt i) (.ref X.x) .none (.bool false) (.ref K.lf) .none (.bool false) cv (.ref qa)) (n' := 8) ?hx ?hp ?hc ?hl ?he ?hz fun t1 => ?_
    case hx => ked_read
    case hp => kd_p1
    case hc => kernel_rfl
    case hl => kernel_rfl
    case he => (intro t; kernel_rfl)
    case hz => exact fun t => Nat.le_of_ble_eq_true rfl
    refine seq_next ?_
    refine' WP.part ?hcont (Part.pick9P (c := crest) ?h1 ?h2 ?h3 ?h4 ?h5 ?h6 ?h7 ?h8 ?h9 ?hc) (led' := sObjs C.w X v.chunk v.chunk.length v.off v.pl v.pc (if v.buf then .str (S [13]) t9 else .none) v.place t3 t4 t5 t7 t8 tp errs m (kObjs C.w ⟨K.k, K.d, K.lf, fun i => if i = 7 then t1 else K.kt i⟩ X .none cv qa [] 0 crest))
    case hcont => exact cont ⟨K.k, K.d, K.lf, fun i => if i = 7 then t1 else K.kt i⟩ qa _ rfl (SLed.mk rfl rfl rfl rfl rfl ⟨t9, rfl⟩ rfl he1 he2)
    case h1 => kd_p1
    case h2 => kd_p1
    case h3 => kd_p1
    case h4 => kd_p1
    case h5 => kd_p1
    case h6 => kd_p1
    case h7 => kd_p1
    case h8 => kd_p1
    case h9 => kd_p1
    case hc => exact Part.refl _
  · refine x_cons ((x_setattr (by rfl) (e_none (e_local ht hlt ?_)) : WP C _ _ _ _))
    refine' a_setP hC (es' := fun t => kDict C.w.params K.kt (.ref X.x) .none (.bool false) (.ref K.lf) .none (.bool false) cv qv) (n' := 8) ?hx ?hp ?hc ?hl ?he ?hz fun t0 => ?_
    case hx => ked_read
    case hp => kd_p1
    case hc => kernel_rfl
    case hl => kernel_rfl
    case he => (intro t; kernel_rfl)
    case hz => exact fun t => Nat.le_of_ble_eq_true rfl
    refine seq_next (x_cons (x_setattr (by rfl) (e_list (s_none ⟨Nat.zero_le _, fun qa => e_local ht hlt ?_⟩))))
    refine' a_setP hC (es' := fun t => kDict C.w.params K.kt (.ref X.x) .none (.bool false) (.ref K.lf) .none (.bool false) cv (.ref qa)) (n' := 8) ?hx ?hp ?hc ?hl ?he ?hz fun t1 => ?_
    case hx => ked_read
    case hp => kd_p1
    case hc => kernel_rfl
    case hl => kernel_rfl
    case he => (intro t; kernel_rfl)
    case hz => exact fun t => Nat.le_of_ble_eq_true rfl
    refine seq_next ?_
    refine' WP.part ?hcont (Part.pick9P (c := crest) ?h1 ?h2 ?h3 ?h4 ?h5 ?h6 ?h7 ?h8 ?h9 ?hc) (led' := sObjs C.w X v.chunk v.chunk.length v.off v.pl v.pc (if v.buf then .str (S [13]) t9 else .none) v.place t3 t4 t5 t7 t8 tp errs m (kObjs C.w ⟨K.k, K.d, K.lf, K.kt⟩ X .none cv qa [] 0 crest))
    case hcont => exact cont ⟨K.k, K.d, K.lf, K.kt⟩ qa _ rfl (SLed.mk rfl rfl rfl rfl rfl ⟨t9, rfl⟩ rfl he1 he2)
    case h1 => kd_p1
    case h2 => kd_p1
    case h3 => kd_p1
    case h4 => kd_p1
    case h5 => kd_p1
    case h6 => kd_p1
    case h7 => kd_p1
    case h8 => kd_p1
    case h9 => kd_p1
    case hc => exact Part.refl _
end
section
local macro_rules | `(tactic| ktd_rel) => `(tactic| first
  | (refine Br.T (by first | rfl | decide +kernel) ?_)
  | (refine Br.F (by first | rfl | decide +kernel) ?_))
theorem told_none {w : World} {r : Led} {Q : Value → Led → Prop} (q : Q .none r) : Meets 1 w 793 [.none] r Q := by
  refine' meets_of [(Str.ofString "token", .none)] ?ho ?hcd ?hbind ?hloc ?hfl ?_
  kwd_rel
  intro C hw hC; subst hw; dsimp only [revd]
  tb_start
  exact ⟨_, Part.refl _, q⟩
theorem told_ok {w : World} {r0 r : Led} {v : Value} {x : Told} {Q : Value → Led → Prop} (h : ToldTok w r0 v x) (hs : ∀ p ∈ r0, p ∈ r) (q : ∀ a its, ToldTup r0 its x → Q (.ref a) ((a, tup its) :: r)) : Meets 1 w 793 [v] r Q := by
  cases h with
  | two hm hd =>
    rename_i a o ty s t1 t2
    have hm' := hs _ hm
    refine' meets_of [(Str.ofString "token", .ref a)] ?ho ?hcd ?hbind ?hloc ?hfl ?_
    kwd_rel
    intro C hw hC; subst hw; dsimp only [revd]
    tb_start
    ktd_rel
    tb_start
    ktd_rel
    tb_start
    exact ⟨_, Part.refl _, q _ _ .two⟩
  | three hm hm2 hd hd2 =>
    rename_i a o b o2 ty s x t1 t2 t3
    have hm' := hs _ hm
    have hm2' := hs _ hm2
    refine' meets_of [(Str.ofString "token", .ref a)] ?ho ?hcd ?hbind ?hloc ?hfl ?_
    kwd_rel
    intro C hw hC; subst hw; dsimp only [revd]
    tb_start
    ktd_rel
    tb_start
    ktd_rel
    tb_start
    exact ⟨_, Part.refl _, q _ _ .three⟩
  | tag hm hm2 hd hdat =>
    rename_i a o b ob g t1 t2
    have hm' := hs _ hm
    refine' meets_of [(Str.ofString "token", .ref a)] ?ho ?hcd ?hbind ?hloc ?hfl ?_
    kwd_rel
    intro C hw hC; subst hw; dsimp only [revd]
    tb_start
    rw [tv_name]
    ktd_rel
    tb_start
    intro pl
    refine m_get (Has.of_mem hm') hd ?_
    tb_start
    refine f_get (Has.of_mem hm') hd ?_
    rw [tv_ack]
    tb_start
    exact ⟨_, Part.refl _, q _ _ (.tag hm2 hdat)⟩
end
section
local macro_rules | `(tactic| ktd_rel) => `(tactic| first
  | (refine Br.T (by first | rfl | decide +kernel) ?_)
  | (refine Br.F (by first | rfl | decide +kernel) ?_))
theorem strs_pick {vs : List Value} {N : List Int} {i : Nat} (hi : i < N.length) {t : Tok} (h : StrsAre vs ((N.take i).map fun n => S (pick n))) : StrsAre (vs ++ [.str (S (pick N[i])) t]) ((N.take (i + 1)).map fun n => S (pick n)) := by
  rw [List.take_add_one, List.getElem?_eq_getElem hi, List.map_append]
  exact strs_snoc h
theorem ints_fdiv {vs : List Value} {N : List Int} {i : Nat} (hi : i < N.length) {t : Tok} (h : IntsAre vs ((N.take i).map fun n => n.fdiv 29)) : IntsAre (vs ++ [.int (N[i].fdiv 29) t]) ((N.take (i + 1)).map fun n => n.fdiv 29) := by
  rw [List.take_add_one, List.getElem?_eq_getElem hi, List.map_append]
  exact ints_snoc h
theorem CurLed.handed {w : World} {cv : Value} {h : Option Tag} {r l : Led} (x : CurLed w cv h r l) : handedIn cv = true := by
  cases h with
  | none => obtain ⟨rfl, _⟩ := x; rfl
  | some g => obtain ⟨a, o, b, ob, t1, t2, rfl, _⟩ := x; rfl
theorem told_cur {w : World} {cv : Value} {h : Option Tag} {r crest L : Led} {Q : Value → Led → Prop} (hc : CurLed w cv h r crest) (hs : ∀ p ∈ crest, p ∈ L) (q : ∀ v news, TagRep (news ++ L) v h → Q v (news ++ L)) : Meets 1 w 793 [cv] L Q := by
  cases h with
  | none => obtain ⟨rfl, _⟩ := hc; exact told_none (q .none [] rfl)
  | some g => exact told_ok (hc.told hs) (fun _ h => h) fun a its hit => q (.ref a) [(a, tup its)] ⟨a, its, rfl, .head _, hit.mono fun p hp => .tail _ hp⟩
theorem Part.right {a b : Led} : Part b (a ++ b) := ⟨a, List.perm_append_comm⟩
theorem Part.front {A c led : Led} {p : Addr × Obj} (h : Part (A ++ p :: c) led) : Part (p :: (A ++ c)) led := by
  obtain ⟨j, q⟩ := h
  exact ⟨j, q.trans (List.perm_middle.append_right j)⟩
theorem Step.told_len {M : List Nat} {p : Nat} {h : Option Tag} {row : Row} (s : Step M p h row) : row.told.length ≤ 2 := by
  cases s with
  | data d => cases d <;> exact Nat.le_of_ble_eq_true rfl
  | tag d => cases d <;> exact Nat.le_of_ble_eq_true rfl
  | close d => cases d <;> exact Nat.le_of_ble_eq_true rfl
  | name _ _ _ d => cases d <;> exact Nat.le_of_ble_eq_true rfl
  | bogus d => cases d; exact Nat.le_of_ble_eq_true rfl
theorem alike_errs {led : Led} {n : Nat} {xs ys : List Value} (h : ∀ u ∈ xs, IsErr u) (k : ∀ u ∈ ys, IsErr u) : ∀ j (h1 : j < xs.length) (h2 : j < ys.length), Alike led n xs[j] ys[j] := fun j h1 h2 => by
  obtain ⟨t, e⟩ := h _ (List.getElem_mem h1)
  obtain ⟨u, f⟩ := k _ (List.getElem_mem h2)
  rw [e, f]; exact .str
theorem lit_one : Str.ofString "\x01" = S [1] := by decide +kernel
inductive LawJ (w : World) (X : SX) (tm : Tok) (ax : Addr) (vs : List Value) (n i : Nat) (lo : Lo) (led : Led) : Prop
  | mk (K' : KX) (tb : Led) (rows : List Row) (hF : Option Tag) (v : SV) (p : Nat) (h : Option Tag) (cv : Value) (es : List DictEntry) (en : Nat) (crest : Led) (e1 : lo = [(Str.ofString "t", .ref K'.k), (Str.ofString "mended", .str (S (mend X.T)) tm)]) (e2 : All2 (RowRep tb) vs rows) (e3 : Chain (mend X.T) p h (rows.drop i) (mend X.T).length hF) (e4 : SLed w X v ((K'.d, dictOf es en) :: (K'.k, instObj 762 K'.d) :: crest) led) (e5 : KSet w K' X cv es en) (e6 : CurLed w cv h ((ax, lst vs n) :: tb) crest) (e7 : Inv X v p) : LawJ w X tm ax vs n i lo led
inductive LawP (w : World) (X : SX) (K2 : KX) (k qa : Addr) (r : Led) (tm t1 t2 : Tok) (tl : Addr) (hv : Value) (call : Call) (leaves : Bool) (held : Option Tag) (place : Nat) (told : List Told) (lo : Lo) (led : Led) : Prop
  | mk (e1 : lo = [(Str.ofString "told", .ref tl), (Str.ofString "place", .int (place : Int) t2), (Str.ofString "tag", hv), (Str.ofString "leaves", .bool leaves), (Str.ofString "call", .str (callStr call) t1), (Str.ofString "t", .ref k), (Str.ofString "mended", .str (S (mend X.T)) tm)]) (e2 : Post w K2 X qa r leaves held place told led) : LawP w X K2 k qa r tm t1 t2 tl hv call leaves held place told lo led
theorem law_ok {fn : Fn} {w : World} {name : Str} {params : Arguments} {body : List Stmt} {dV kV doc pm cdv ct oc : Value} {an od : Option Addr} {osl : Array (Option Value)}
    (ho : (Mine.K w.params).lookup 824 = some ⟨oc, od, .func (fnOf name fn.qual params body fn.scope dV kV doc pm an cdv ct), osl⟩)
    {C : Cx fn} (hw : C.w = w) (hC : C.Ok 9) {sa : Addr} {us0 : List Value} {ns : List Int} (hl : C.h₀.IsList sa us0.toArray) (hi : IntsAre us0 ns) (hlen : us0.length ≤ 63) :
    WP C [(Str.ofString "script", .ref sa)] [] (execs body C.env) (fun f _ _ => f = .ret (.bool true)) := by
  obtain ⟨qual, scope, addr, code⟩ := fn
  refine' same_fn ho ?h1 ?hk
  case h1 => k_is
  intro e1 e2 e3
  dsimp only at e1 e3
  subst e1 e2 e3
  clear ho
  subst hw
  refine x_cons (x_assign (by decide +kernel) (by kernel_rfl) ?_)
  refine e_slice_base hC hl hi (by omega) (fun _ => rfl) ?_
  tb_start
  refine ⟨rfl, ?_⟩
  tb_start
  refine ⟨_, rfl, fun na us nn hus => ?_⟩
  have hNl : (ns.take 14).length ≤ 14 := by rw [List.length_take]; omega
  generalize ns.take 14 = N at hus hNl
  obtain ⟨hul, huat⟩ := ints_at hus
  tb_start
  refine e_comp_list hC (by decide +kernel) (by decide +kernel) na us nn (by omega) (fun i ys led => led = [(na, lst us nn)] ∧ StrsAre ys ((N.take i).map fun n => S (pick n))) (fun i ys led h => by rw [h.1]; exact .head _) ?_ ?_ ?_
  · tb_start
    exact ⟨rfl, rfl, rfl, .nil⟩
  · rintro i hiu ys led I oI c oC D nn2 ⟨rfl, hys⟩ hCo
    obtain ⟨tn, en⟩ := huat i hiu (by omega)
    rw [en] at hCo
    tb_rel
    refine ⟨rfl, Br.T rfl ?_⟩
    tb_start
    refine st_pieces hC rfl fun _ => ?_
    exact ⟨rfl, _, Part.refl _, rfl, strs_pick (by omega) hys⟩
  rintro ys led D nn2 hyl ⟨rfl, hys⟩
  rw [List.take_of_length_le (by omega), show (N.map fun n => S (pick n)) = (N.map pick).map S from by rw [List.map_map]; rfl] at hys
  have hbl := built_len N
  have hbf := built_fine N
  tb_start
  refine f_join .here hys (by rw [List.length_map]; unfold built at hbl; omega) fun tt => ?_
  rw [show (N.map pick).flatten = built N from rfl]
  generalize hT9 : built N = T at hbl hbf
  have hcl := crlf_len T
  have hml := mend_len T
  tb_start
  refine ⟨_, _, rfl, by omega, fun t' => ?_⟩
  rw [show Txt.replace (S T) (Str.ofString "\x0d\n") (Str.ofString "\n") = S (crlf T) from by rw [show Str.ofString "\x0d\n" = S [13, 10] by decide +kernel, show Str.ofString "\n" = S [10] by decide +kernel, replace_pair]]
  tb_start
  refine ⟨_, _, rfl, by omega, fun t'' => ?_⟩
  rw [show Txt.replace (S (crlf T)) (Str.ofString "\x0d") (Str.ofString "\n") = S (mend T) from by rw [show Str.ofString "\x0d" = S [13] by decide +kernel, show Str.ofString "\n" = S [10] by decide +kernel, replace_S]; rfl]
  tb_start
  refine f_cls (k := 8) hC (j := 7) (by omega) (Cl := 762) (fI := 261) (by kernel_rfl) (by k_is) (by kernel_rfl) fun k kd => ?_
  refine kinit_ok fun X K stv l' hk hT hl' => ⟨rfl, ?_⟩
  subst hk
  obtain ⟨sT, hsT, rfl⟩ := hl'.fold
  tb_start
  refine WP.gen fun L0 hL0 => ?_
  have hna : (na, lst us nn) ∈ L0 := by rw [hL0]; exact Has.mem (by ked_read)
  refine e_comp_list hC (by decide +kernel) (by decide +kernel) na us nn (by omega) (fun i ys led => led = L0 ∧ IntsAre ys ((N.take i).map fun n => n.fdiv 29)) (fun i ys led h => by rw [h.1]; exact hna) ?_ ?_ ?_
  · tb_start
    exact ⟨rfl, rfl, rfl, .nil⟩
  · rintro i hiu ys led I oI c oC D nn2 ⟨rfl, hys⟩ hCo
    obtain ⟨tn, en⟩ := huat i hiu (by omega)
    rw [en] at hCo
    tb_rel
    refine ⟨rfl, Br.T rfl ?_⟩
    tb_start
    refine b_fdiv (by decide) (by decide) fun _ => ?_
    exact ⟨rfl, _, Part.refl _, rfl, ints_fdiv (by omega) hys⟩
  rintro ys2 led D2 nn3 hyl2 ⟨rfl, hys2⟩
  subst hL0
  tb_start
  refine f_sum hC .here hys2 fun _ => ?_
  tb_start
  generalize hs9 : ((N.take us.length).map fun n => n.fdiv 29).sum = sm
  have h0 : 0 ≤ sm.fmod 20 := Int.fmod_nonneg_of_pos _ (by decide)
  obtain ⟨m, hm⟩ : ∃ m : Nat, 2 + sm.fmod 20 = (m : Int) := ⟨(2 + sm.fmod 20).toNat, (Int.toNat_of_nonneg (Int.add_nonneg (by decide) h0)).symm⟩
  have hm2 : 2 ≤ m := by omega
  rw [hm]
  subst hT
  refine' WP.toT (X := X) ?hp ?_
  case hp => keq_hits
  refine Meets.at hC (by omega) (readChunk_ok (X := X) (v := sv0) (m := m) (.inl ⟨rfl, _, rfl⟩) (SLed.ofT hsT) hbf (by omega) (by decide) (Nat.zero_le _) (by decide) fun l' hl' => ?_) fun _ _ h => h
  have hI0 : Inv X (rcSV X sv0 m) 0 := (inv0 X).rc hm2 rfl
  generalize rcSV X sv0 m = vv0 at hl' hI0
  clear hsT
  obtain ⟨sT, hsT, rfl⟩ := hl'.fold
  tb_start
  have hzM : (mend X.T).length ≤ 100 := by omega
  have hzT : X.T.length ≤ 100 := by omega
  have hM : ∀ c ∈ mend X.T, c ≤ 65535 := name_small hbf (fun c hc => .inl hc)
  refine x_for_tupsN hC (by decide +kernel) (fun ax vs n => vs.length ≤ 1000 ∧ ∀ v ∈ vs, ∃ a, v = .ref a) (fun _ _ _ h => h.2) (LawJ C.w X t'') ?_ ?_ ?_ ?_
  · rintro ax vs n i lo led ⟨K', tb, rows, hF, v, p, h, cv, es, en, crest, _, _, _, hS, _, hcur, _⟩
    exact hS.mem (.tail _ (.tail _ (hcur.rest.mem _ (.head _))))
  · tb_start
    refine Meets.at hC (by omega) (due_ok (M := mend X.T) hzM hM fun ax vs n tb rows hF hrows hch hvl => ?_) fun _ _ h => h
    refine' ⟨ax, vs, n, rfl, ⟨hvl, ?href⟩, [(Str.ofString "t", .ref K.k), (Str.ofString "mended", .str (S (mend X.T)) t'')], _, ?hf, ?hp, K, tb, rows, hF, vv0, 0, none, .none, _, 7, (ax, lst vs n) :: tb, rfl, hrows, hch, SLed.ofT hsT, ⟨stv, .inl ⟨rfl, rfl⟩⟩, ⟨rfl, rfl⟩, hI0⟩
    case href =>
      intro v hv
      obtain ⟨i, h1, rfl⟩ := List.getElem_of_mem hv
      obtain ⟨a, _, _, _, _, _, _, e, _⟩ := hrows.get i h1 (by rw [← hrows.len]; exact h1)
      exact ⟨a, e⟩
    case hf => kd_adr
    case hp =>
      refine' Part.pickS3P ?h0 ?h1 ?h2 ?h3 ?hc
      case h0 => keq_hits
      case h1 => kd_p1
      case h2 => kd_p1
      case h3 => kd_p1
      case hc => exact Part.left
  · rintro ax vs n ⟨hvl, href⟩ i hi lo led I o ⟨K', tb, rows, hF, v, p, h, cv, es, en, crest, rfl, hrows, hch, hS, hes, hcur, hI⟩
    have hir : i < rows.length := by rw [← hrows.len]; exact hi
    obtain ⟨a, hv, tl, tvs, nt, t1, t2, ev, hm1, htag, hmt, htold⟩ := hrows.get i hi hir
    rw [ev]
    rw [List.drop_eq_getElem_cons hir] at hch
    generalize rows[i] = row at hch hm1 htag htold
    obtain ⟨call, leaves, held, place, told⟩ := row
    rcases hch with _ | ⟨hstep, hch⟩
    dsimp only at hm1 htag htold hch
    have htbm : ∀ q ∈ tb, q ∈ led := fun q hq => hS.mem (.tail _ (.tail _ (hcur.rest.mem _ (.tail _ hq))))
    refine a_unpack hC (Has.of_mem (.tail _ (htbm _ hm1))) rfl (by decide +kernel) ?_
    refine asg_cons (as_name (by kernel_rfl) (asg_cons (as_name (by kernel_rfl) (asg_cons (as_name (by kernel_rfl) (asg_cons (as_name (by kernel_rfl) (asg_cons (as_name (by kernel_rfl) (asg_nil ?_))))))))))
    obtain ⟨crest', hcur', hpc⟩ := hcur.ext (I, o)
    clear hsT
    obtain ⟨sT, hsT, rfl⟩ := hS.fold
    refine WP.part (led' := sObjT C.w X v sT ((K'.d, dictOf es en) :: (K'.k, instObj 762 K'.d) :: crest')) ?_
      (PickS.part (.skip .here) (.cons (.skip .here) (.cons (.skip .here) hpc)))
    refine set_two hC (by kernel_rfl) (K := K') (lk_there (by decide +kernel) (lk_there (by decide +kernel) (lk_there (by decide +kernel) (lk_there (by decide +kernel) (lk_there (by decide +kernel) lk_here))))) (SLed.ofT hsT) hes fun K2 qa led2 hk2 hS2 => ?_
    refine x_cons (x_if_j (LawP C.w X K2 K'.k qa ((I, o) :: (ax, lst vs n) :: tb) t'' t1 t2 tl hv call leaves held place told) ?_ ?_)
    · tb_start
      rw [← hk2]
      refine Meets.at hC (by omega) (call_ok hS2 hcur' hbf hzT hI hstep fun l' hpost => ?_) fun _ _ h => h
      obtain ⟨v', cv', stv', q', n', crest2, cr, hsl, hp2, hcur2, hlv, hq2, hI2⟩ := hpost
      obtain ⟨sT, hsT, rfl⟩ := hsl.fold
      dsimp only at hcur2 hlv hq2 hI2
      cases leaves with
      | true =>
        obtain ⟨sq, rfl⟩ := hlv
        tb_start
        ktd_rel
        tb_start
        rw [hk2]
        exact ⟨_, _, by kd_adr, Part.refl _, rfl, v', cv', _, q', n', crest2, cr, SLed.ofT hsT, hp2, hcur2, ⟨sq, rfl⟩, hq2, hI2⟩
      | false =>
        cases hlv
        tb_start
        ktd_rel
        tb_start
        rw [hk2]
        exact ⟨_, _, by kd_adr, Part.refl _, rfl, v', cv', _, q', n', crest2, cr, SLed.ofT hsT, hp2, hcur2, rfl, hq2, hI2⟩
    rintro lo led ⟨rfl, hpost⟩
    refine seq_next (x_cons (x_if_j (LawP C.w X K2 K'.k qa ((I, o) :: (ax, lst vs n) :: tb) t'' t1 t2 tl hv call leaves held place told) ?_ ?_))
    · obtain ⟨v', cv', stv', q', n', crest2, cr, hsl, hp2, hcur2, hlv, hq2, hI2⟩ := hpost
      obtain ⟨sT, hsT, rfl⟩ := hsl.fold
      rw [← hk2]
      have hh : handedIn cv' = true := hcur2.handed
      tb_start
      refine a_get hC (by ked_read) (by ked_read) (by kernel_rfl) kg2 hh ?_
      tb_start
      refine WP.gen fun L0 hL0 => ?_
      have hsub : ∀ q ∈ crest2, q ∈ L0 := fun q hq => by rw [hL0]; exact (.tail _ (.tail _ (.tail _ (.tail _ (.tail _ (.tail _ (.tail _ (.tail _ (.tail _ (hp2.mem _ hq))))))))))
      have htagL : TagRep L0 hv held := htag.mono fun q hq => hsub _ (hcur2.rest.mem _ (.tail _ (.tail _ hq)))
      refine Meets.at hC (by omega) (told_cur hcur2 hsub fun vv news htg => ?_) fun _ _ h => h
      tb_start
      refine c_netag hC (by omega) htg (htagL.mono fun q hq => List.mem_append_right _ hq) ?_
      refine WP.part (led' := L0) ?_ Part.right
      subst hL0
      tb_start
      have hoff : v'.off ≤ v'.chunk.length := by obtain ⟨_, _, _, h3, _⟩ := hI2; exact h3
      have hcl2 := hI2.chunk_le
      refine Meets.at hC (by omega) (position2_ok (n := v'.off) hoff (by omega) fun ap ta tb2 => ?_) fun _ _ h => h
      obtain ⟨sp1, sp2⟩ := hI2.spot
      rw [sp1, sp2]
      tb_start
      refine Meets.at hC (by omega) (spot_ok (M := mend X.T) (p := place) (by omega) hI2.le rfl fun as t5 t6 => ?_) fun _ _ h => h
      refine c_net hC (by omega) (.tail _ (.head _)) (.head _) rfl (alike_cons .int (alike_cons .int alike_nil)) ?_
      tb_start
      refine' ⟨_, _, ?hf, ?hp, rfl, v', cv', stv', q', n', crest2, _, SLed.ofT hsT, ?hpc, hcur2, hlv, ?hq, hI2⟩
      case hp => keq_rows
      case hf => kd_adr
      case hpc => exact hp2.skip.skip
      case hq => exact hq2.mono fun _ _ z => z.mono fun x hx => .tail _ (.tail _ hx)
    clear hpost
    rintro lo led ⟨rfl, hpost⟩
    refine seq_next (x_cons (x_if_j (LawP C.w X K2 K'.k qa ((I, o) :: (ax, lst vs n) :: tb) t'' t1 t2 tl hv call leaves held place told) ?_ ?_))
    · obtain ⟨v', cv', stv', q', n', crest2, cr, hsl, hp2, hcur2, hlv, hq2, hI2⟩ := hpost
      obtain ⟨sT, hsT, rfl⟩ := hsl.fold
      have htl := hstep.told_len
      dsimp only at htl
      have hql := hq2.len
      rw [← hk2]
      tb_start
      refine WP.gen fun L0 hL0 => ?_
      have hqm : (qa, lst q' n') ∈ L0 := by rw [hL0]; exact Has.mem (by ked_read)
      have hsub : ∀ q ∈ cr, q ∈ L0 := fun q hq => by rw [hL0]; exact (.tail _ (.tail _ (.tail _ (.tail _ (.tail _ (.tail _ (.tail _ (.tail _ (.tail _ hq)))))))))
      refine e_comp_list hC (by decide +kernel) (by decide +kernel) qa q' n' (by omega) (fun i ys led => ∃ news, led = news ++ L0 ∧ All2 (ToldRep led) ys (told.take i)) (fun i ys led ⟨news, h, _⟩ => by rw [h]; exact List.mem_append_right _ hqm) ?_ ?_ ?_
      · subst hL0
        tb_start
        exact ⟨rfl, rfl, [], rfl, .nil⟩
      · rintro i hiq ys led I2 oI c2 oC D9 nn9 ⟨news, rfl, hys⟩ hCo
        have hti : i < told.length := by omega
        have htok := hq2.get i hiq hti
        tb_rel
        refine ⟨rfl, Br.T rfl ?_⟩
        tb_start
        refine Meets.at hC (by omega) (told_ok htok (fun q hq => .tail _ (.tail _ (.tail _ (List.mem_append_right _ (hsub q hq))))) fun a2 its hit => ?_) fun _ _ h => h
        refine ⟨rfl, (a2, tup its) :: (news ++ L0), .cons (.skip .here) (.cons (.skip .here) (.cons (.skip .here) (Part.refl _))), (a2, tup its) :: news, rfl, ?_⟩
        rw [List.take_add_one, List.getElem?_eq_getElem hti]
        exact (hys.mono fun _ _ z => z.mono fun x hx => .tail _ hx).snoc ⟨a2, its, rfl, .head _, hit.mono fun x hx => .tail _ (List.mem_append_right _ (hsub x hx))⟩
      rintro ys3 led D9 nn9 hyl3 ⟨news, rfl, hys3⟩
      rw [List.take_of_length_le (by omega)] at hys3
      tb_start
      refine c_netold hC (by omega) (.head _) (.tail _ (List.mem_append_right _ (hsub _ (hp2.mem _ (hcur2.rest.mem _ (.tail _ (.tail _ hmt))))))) (hys3.mono fun _ _ z => z.mono fun x hx => .tail _ hx)
        (htold.mono fun _ _ z => z.mono fun x hx => .tail _ (List.mem_append_right _ (hsub _ (hp2.mem _ (hcur2.rest.mem _ (.tail _ (.tail _ hx))))))) ?_
      refine WP.part (led' := L0) ?_ (Part.skip Part.right)
      subst hL0
      tb_start
      exact ⟨_, _, by kd_adr, Part.refl _, rfl, v', cv', stv', q', n', crest2, cr, SLed.ofT hsT, hp2, hcur2, hlv, hq2, hI2⟩
    clear hpost
    rintro lo led ⟨rfl, ⟨v', cv', stv', q', n', crest2, cr, hsl, hp2, hcur2, hlv, hq2, hI2⟩⟩
    obtain ⟨sT, hsT, rfl⟩ := hsl.fold
    tb_start
    obtain ⟨crest3, hcur3, hpc3⟩ := hcur2.drop
    refine' ⟨_, _, ?hf, ?hp, K2, tb, rows, hF, v', place, held, cv', _, 8, crest3, rfl, hrows, hch, SLed.ofT hsT, ⟨stv', .inr ⟨.ref qa, rfl, rfl⟩⟩, hcur3, hI2⟩
    case hf => (rw [hk2]; kd_adr)
    case hp => exact Part.front (A := [_, _, _, _, _, _, _, _]) (.cons .here (.cons .here (.cons .here (.cons .here (.cons .here (.cons .here (.cons (.skip .here) (.cons .here (Part.skip (hpc3.trans hp2))))))))))
  · rintro ax vs n _ lo led ⟨K', tb, rows, hF, v, p, h, cv, es, en, crest, rfl, hrows, hch, hS, hes, hcur, hI⟩
    rw [List.drop_eq_nil_of_le (by rw [hrows.len]; exact Nat.le_refl _)] at hch
    cases hch
    clear hsT
    refine seq_next ?_
    refine set_two hC (by kernel_rfl) (K := K') lk_here hS hes fun K2 qa led2 hk2 hS2 => ?_
    obtain ⟨sT, hsT, rfl⟩ := hS2.fold
    rw [← hk2]
    tb_start
    refine Meets.at hC (by omega) (data_ok (X := X) (SLed.ofT hsT) hcur hbf hzT hI (fun l' _ hpost => ?_) fun lv p2 t2 l' s2 _ => absurd rfl s2.some) fun _ _ h => h
    clear hsT
    obtain ⟨v', cv', stv', q', n', crest2, cr, hsl, hp2, hcur2, hlv, hq2, hI2⟩ := hpost
    obtain ⟨sT, hsT, rfl⟩ := hsl.fold
    cases hlv
    cases hq2
    tb_start
    refine c_nel hC (by omega) (xs := []) (ys := []) (Has.mem (by ked_read)) (.head _) rfl alike_nil ?_
    tb_start
    refine' WP.toT (X := X) ?hp ?_
    case hp => keq_hits
    have hoff : v'.off ≤ v'.chunk.length := by obtain ⟨_, _, _, h3, _⟩ := hI2; exact h3
    have hcl2 := hI2.chunk_le
    refine Meets.at hC (by omega) (position2_ok (n := v'.off) hoff (by omega) fun ap ta tb2 => ?_) fun _ _ h => h
    obtain ⟨sp1, sp2⟩ := hI2.spot
    rw [sp1, sp2]
    tb_start
    refine f_lens (by omega) fun _ => ?_
    tb_start
    refine Meets.at hC (by omega) (spot_ok (M := mend X.T) (p := (mend X.T).length) (by omega) (Nat.le_refl _) rfl fun as t5 t6 => ?_) fun _ _ h => h
    refine c_net hC (by omega) (.tail _ (.head _)) (.head _) rfl (alike_cons .int (alike_cons .int alike_nil)) ?_
    tb_start
    refine WP.gen fun L0 hL0 => ?_
    have hem : (X.e, lst sT.errs sT.n) ∈ L0 := by rw [hL0]; exact Has.mem (by ked_read)
    refine e_comp_str hC (by decide +kernel) (by decide +kernel) (mend X.T) (by omega) (fun i ys led => led = L0 ∧ ys.length = ((mend X.T).take i).count 1 ∧ ∀ u ∈ ys, IsErr u) ?_ ?_ ?_
    · tb_start
      exact ⟨rfl, ⟨_, rfl⟩, rfl, rfl, fun _ h => nomatch h⟩
    · rintro i hiM tq ys led I2 oI c2 oC D9 nn9 ⟨rfl, hys, hye⟩ hCo
      have ec : ((mend X.T).take (i + 1)).count 1 = ((mend X.T).take i).count 1 + (if (mend X.T)[i] = 1 then 1 else 0) := by rw [count_take_succ]; simp [hiM]
      tb_start
      rw [lit_one, S1]
      refine ⟨rfl, fun h1 => ?_, fun h1 => ?_⟩
      · have h1 := of_decide_eq_true h1
        tb_start
        refine ⟨rfl, _, Part.refl _, rfl, ?_, fun u hu => ?_⟩
        · rw [List.length_append, ec, if_pos h1, hys]; rfl
        · rcases List.mem_append.mp hu with hu | hu
          · exact hye u hu
          · rw [List.mem_singleton.mp hu]; exact ⟨_, rfl⟩
      · have h1 := of_decide_eq_false h1
        exact ⟨_, Part.refl _, rfl, by rw [ec, if_neg h1, hys]; rfl, hye⟩
    rintro ys5 led D9 nn9 hyl5 ⟨rfl, hys5, hye5⟩
    rw [List.take_length] at hys5
    refine c_eql hC (by omega) (.tail _ hem) (.head _) (by rw [hsT.1, hys5]; exact hI2.all) (alike_errs hsT.2 hye5) ?_
    rfl
end
end Mine
end
open PySem PySem.W PyProof.Rows PySem.Spec PySem.Calls
set_option Elab.async false
set_option linter.unusedVariables false
set_option maxRecDepth 100000
set_option maxHeartbeats 0
namespace Mine
theorem law_go {w : World} {qual name : Str} {scope : Scope} {fa L : Addr} {code : Value} {params : Arguments} {body : List Stmt} {dV kV doc pm cdv ct oc : Value} {an od : Option Addr} {osl : Array (Option Value)}
    (ho : (Mine.K w.params).lookup 824 = some ⟨oc, od, .func (fnOf name qual params body scope dV kV doc pm an cdv ct), osl⟩) (hk : scope.kind = .function)
    {s : Shared} {base : Heap} {loose : List Str} {mean : ExcName → Option Value} {mg mb : Str → Option Value} (B : Below callerA base [] s.heap) (X : (Mine.K w.params).In s.heap) (T : Top Mine.Q loose mean mg mb s.heap)
    {sa : Addr} {us : List Value} {ns : List Int} (hl : s.heap.IsList sa us.toArray) (hi : IntsAre us ns) (hlen : ¬ ((63 : Nat) : Int) < (ns.length : Int)) {h : Heap} {m : Str → Option Value} (hm : m (Str.ofString "script") = some (.ref sa))
    (F : Fr s.heap L h m) (N : News s.heap L h []) {tk : Nat} (htk : 0 < tk) {env : Env} (he : env = envOf qual scope L fa code) :
    wpAny (model PG w) (callerA.deeper env) (execs body env) (fun f s' => f = .ret (.bool true) ∧ (∃ m', Fr s.heap L s'.heap m') ∧ s'.gens = s.gens ∧ s'.os = s.os) No ⟨h, s.gens, s.drawn, tk, s.os⟩ := by
  subst he
  let C : Cx ⟨qual, scope, fa, code⟩ := { w := w, A := callerA.deeper (envOf qual scope L fa code), L := L, h₀ := s.heap, A₀ := callerA, base := base, outer := [], loose := loose, mean := mean, mg := mg, mb := mb, g := s.gens, dr := s.drawn, os := s.os }
  have ok : C.Ok 9 := ⟨B, X, T, rfl, hk, rfl, by show 1 + claimMargin + 1 + 9 < recursionLimit; decide +kernel, by show 4 + 3 + 16 * 9 < cLine; decide +kernel⟩
  have st : St C [(Str.ofString "script", .ref sa)] [] ⟨h, s.gens, s.drawn, tk, s.os⟩ := ⟨⟨m, F, fun x v e => by
    rw [List.lookup_cons] at e
    split at e
    · rename_i h1; cases e; rw [eq_of_beq h1]; exact hm
    · cases e⟩, N, List.nodup_nil, rfl, rfl, rfl, htk⟩
  refine wpAny_mono (law_ok (fn := ⟨qual, scope, fa, code⟩) (C := C) ho rfl ok hl hi (by rw [(ints_at hi).1]; omega) _ st) (fun f s' z => ?_) fun _ _ z => z
  obtain ⟨lo', led', st', rfl⟩ := z
  obtain ⟨m', F', _⟩ := st'.F
  exact ⟨rfl, ⟨m', F'⟩, st'.g, st'.os⟩
theorem runs : ∀ w, runSays w := byRow2 "special-get-raises" hF hT
end Mine
local macro_rules | `(tactic| k_qdec) => `(tactic| decide +kernel)
theorem PySem.Challenge.cw_rb0001_03_holds : PySem.Challenge.rw_rb0001_03.Holds := by
  refine Mine.hd Mine.runs (by rfl) (by rfl) (by rfl) ?_
  k_go0
  all_goals try k_fold
  refine' wpAny_mono (Mine.law_go ?ho ?hk ?B ?X ?T ?hl ?hi ?hlen ?hm ?F ?N ?htk rfl) (fun f s' z => ?hq) (fun _ _ z => z.elim)
  case ho => k_is
  case hk => rfl
  case B => assumption
  case X => assumption
  case T => assumption
  case hl => assumption
  case hi => assumption
  case hlen => assumption
  case F => assumption
  case N => assumption
  case htk => exact Nat.succ_pos _
  case hm => rfl
  case hq =>
    obtain ⟨rfl, ⟨m', F'⟩, hg', hos⟩ := z
    show GoodW _ _ _ _ _ (.ok (.ret (.bool true))) _
    refine goodW_bool F' (hg'.trans (by assumption)) (raisesW_false ?_) ?_ hos
    · wrow_none_raised
    · kc_post
