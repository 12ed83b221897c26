import PyProof.Rows.All
import Wide.All
import OpenK.AllK
import Wide.FinOn
import Lean
import PySem.Challenge.RW_qh0051_01
section
open PySem PySem.W PyProof.Rows
set_option Elab.async false
namespace Mine
noncomputable def pick : List Nat → List Stmt → List Stmt
  | [], _ => []
  | i :: r, l => (match l[i]? with | some s => [s] | none => []) ++ pick r l
noncomputable def view : Program := { PySem.Challenge.rw_qh0051_01.prog with main := { PySem.Challenge.rw_qh0051_01.prog.main with body := pick [0, 2, 4, 5, 7, 8, 9, 10, 11, 12, 15, 17, 21, 23, 25, 26, 27, 28, 29, 30, 31] PySem.Challenge.rw_qh0051_01.prog.main.body } }
noncomputable def loose : List Str := [Str.ofString "bytes_types", Str.ofString "a2b_base64", Str.ofString "b2a_base64", Str.ofString "_NO_SEP", Str.ofString "b2a_hex", Str.ofString "hexlify", Str.ofString "b64encode", Str.ofString "b64decode"]
noncomputable def xt9 (s : Shared) : Bool := xlAt view [] s && recOk (RowW.records (OpenRow.toRowW (OpenLaw.row PySem.Challenge.rw_qh0051_01))) s
theorem ho (H : Hook) {d : DefRec} {kwd : List (Str × Expr)} (left : LeftO (OpenLaw.row PySem.Challenge.rw_qh0051_01).prog view loose xt9 H.obs H.val 2644)
    (hdef : defOf view (OpenLaw.row PySem.Challenge.rw_qh0051_01).name = some (d, kwd)) (hp : (OpenLaw.row PySem.Challenge.rw_qh0051_01).prog.theDef (OpenLaw.row PySem.Challenge.rw_qh0051_01).name = some (d.params, d.body, d.scope)) (hk : kwWritten? d.params.kwonlyargs d.params.kw_defaults = some kwd)
    (hwr : (!(OpenLaw.row PySem.Challenge.rw_qh0051_01).writes || (OpenLaw.row PySem.Challenge.rw_qh0051_01).records.isEmpty) = true) (k1 : (OpenLaw.row PySem.Challenge.rw_qh0051_01).wellSaid = true)
    (ok : (chainsOk view && opensWell (OpenLaw.row PySem.Challenge.rw_qh0051_01).prog && (frees (OpenLaw.row PySem.Challenge.rw_qh0051_01).toRowW && (OpenLaw.row PySem.Challenge.rw_qh0051_01).within.isEmpty)) = true) (hb : (OpenLaw.row PySem.Challenge.rw_qh0051_01).prog.bare) (hw : (OpenLaw.row PySem.Challenge.rw_qh0051_01).toRowW.promised)
    (hc : WalkO view loose (XL view []) H.says (OpenLaw.row PySem.Challenge.rw_qh0051_01).toRowW d kwd fun f vs => PySem.call f vs) : (OpenLaw.row PySem.Challenge.rw_qh0051_01).Holds :=
  holds_open left H.of H.keeps (fun s e => xl_of s (Bool.and_eq_true_iff.mp e).1) XL.keeps hdef hp hk (fun s e => recFacts_of (Bool.and_eq_true_iff.mp e).2) hwr k1 ok hb hw hc
end Mine
local macro_rules | `(tactic| o_law) => `(tactic| refine holds_law (by decide +kernel) fun said => ?_)
local macro_rules | `(tactic| o_head $H) => do
  let (hw, hc) := (Lean.mkIdent `hw, Lean.mkIdent `hc)
  `(tactic| (refine Mine.ho $H ?hl (by rfl) (by rfl) (by rfl) (by rfl) (by first | assumption | decide +kernel) (by decide +kernel) ⟨rfl, rfl, rfl, rfl, rfl, by decide +kernel⟩ ?$hw ?$hc; (case hl => exact (fun w => by kernel_rfl))))
set_option maxRecDepth 100000 in
set_option maxHeartbeats 8000000 in
open_top Mine.hd for PySem.Challenge.rw_qh0051_01
end
open PySem PySem.W PyProof.Rows
set_option Elab.async false
set_option maxRecDepth 100000
set_option compiler.extract_closed false
namespace Mine
theorem walk_off : True := by
  w_top off
  trivial
section
set_option genInjectivity false
set_option genSizeOf false
theorem up0 {a : Nat} : a < a + 1 := Nat.lt_succ_self a
theorem up1 {a b : Nat} (h : a < b) : a < b + 1 := Nat.lt_succ_of_lt h
theorem lt_tr {a b c : Nat} (h : b < c) (k : a < b) : a < c := Nat.lt_trans k h
theorem ic1 {x N : Nat} {M : Int} (h : x ≤ N) (k : (N : Int) < M) : (x : Int) < M := Int.lt_of_le_of_lt (Int.ofNat_le.mpr h) k
theorem ic2 {x N : Nat} {M : Int} (h : x < N) (k : (N : Int) ≤ M) : (x : Int) < M := Int.lt_of_lt_of_le (Int.ofNat_lt.mpr h) k
theorem ic0 {x : Nat} {M : Int} (k : M ≤ 0) : M ≤ (x : Int) := Int.le_trans k (Int.natCast_nonneg x)
theorem ne_c1 {a a' b : Nat} {P : Prop} (h : a' < b ∧ P) (k : a' < b ∧ P → a < b) : a ≠ b := Nat.ne_of_lt (k h)
theorem ne_c2 {a a' b : Nat} {P : Prop} (h : a' < a ∧ P) (k : a' < a ∧ P → b < a) : a ≠ b := Nat.ne_of_gt (k h)
theorem ne_c3 {a a' b : Nat} {P : Prop} (h : a' ≠ b ∧ P) (k : a' ≠ b ∧ P → a ≠ b) : a ≠ b := k h
theorem ne_c4 {a a' b : Nat} {P : Prop} (h : a' ≠ a ∧ P) (k : a' ≠ a ∧ P → b ≠ a) : a ≠ b := Ne.symm (k h)
theorem lt_c1 {a a' b : Nat} {P : Prop} (h : a' < b ∧ P) (k : a' < b ∧ P → a < b) : a < b := k h
theorem pk2 {A B G : Prop} (k : B → G) : A ∧ B → G := fun h => k h.2
theorem q1 {G R : Prop} : G ∧ R → G := fun h => h.1
theorem q2 {A G R : Prop} : A ∧ G ∧ R → G := fun h => h.2.1
theorem q3 {A B G R : Prop} : A ∧ B ∧ G ∧ R → G := fun h => h.2.2.1
theorem q4 {A B C G R : Prop} : A ∧ B ∧ C ∧ G ∧ R → G := fun h => h.2.2.2.1
theorem pk44 {A B C D G : Prop} (k : D → G) : A ∧ B ∧ C ∧ D → G := fun h => k h.2.2.2
end
section
local macro_rules | `(tactic| o_head 10) => `(tactic| ((repeat (first | exact q1 | exact q2 | exact q3 | exact q4 | exact id | refine pk44 ?_ | refine pk2 ?_)); done))
local macro_rules | `(tactic| o_head 19) => `(tactic| assumption)
local macro_rules | `(tactic| o_head 20) => `(tactic| first | exact up0 | o_head 19)
local macro_rules | `(tactic| o_head (0, $n:num)) => if n.getNat = 0 then Lean.Macro.throwError "deep" else let m := Lean.quote (n.getNat - 1); `(tactic| first | o_head 20 | (refine up1 ?_; o_head (0, $m)) | (refine lt_tr (by o_head 19) ?_; o_head (0, $m)))
local macro_rules | `(tactic| o_head 28) => `(tactic| with_reducible o_head (0, 15))
local macro_rules | `(tactic| o_head 29) => `(tactic| with_reducible assumption)
local macro_rules | `(tactic| o_head 30) => `(tactic| with_reducible first | assumption | decide | exact Ne.symm ‹_› | (refine ne_c1 ‹_› ?_; o_head 10) | (refine ne_c2 ‹_› ?_; o_head 10) | (refine ne_c3 ‹_› ?_; o_head 10) | (refine ne_c4 ‹_› ?_; o_head 10) | exact Nat.ne_of_lt (by o_head (0, 15)) | exact Nat.ne_of_gt (by o_head (0, 15)))
local macro_rules | `(tactic| o_head 47) => `(tactic| with_reducible first | assumption | decide | (refine lt_c1 ‹_› ?_; o_head 10) | exact Nat.lt_of_le_of_lt ‹_› (by decide) | exact Nat.lt_of_lt_of_le ‹_› (by decide) | o_head (0, 15))
local macro_rules | `(tactic| o_head 48) => `(tactic| with_reducible first | assumption | decide | exact Nat.le_of_lt ‹_› | exact Nat.le_trans ‹_› (by decide) | exact Nat.le_trans (Nat.le_of_eq ‹_›) (Nat.le_trans ‹_› (by decide)) | exact Nat.le_trans (Nat.add_le_add_right ‹_› _) (by decide) | exact Nat.le_trans (Nat.add_le_add_right (Nat.le_trans (Nat.le_of_eq ‹_›) ‹_›) _) (by decide))
local macro_rules | `(tactic| o_head 49) => `(tactic| with_reducible first | assumption | decide | exact ic1 ‹_› (by decide) | exact ic2 ‹_› (by decide))
local macro_rules | `(tactic| o_head 50) => `(tactic| with_reducible first | assumption | decide | exact ic0 (by decide))
local macro_rules | `(tactic| o_head 31) => `(tactic| first | (with_reducible show _ ≠ _; o_head 30) | (with_reducible show @LT.lt Nat _ _ _; o_head 47) | (with_reducible show @LE.le Nat _ _ _; o_head 48) | (with_reducible show @LT.lt Int _ _ _; o_head 49) | (with_reducible show @LE.le Int _ _ _; o_head 50))
local macro_rules | `(tactic| omega) => `(tactic| first | o_head 31 | omega +splitDisjunctions)
section
open PySem PySem.W PyProof.Rows PySem.Calls
set_option Elab.async false
set_option maxRecDepth 100000
set_option genInjectivity false
set_option genSizeOf false
open Builtin

noncomputable def Ascii (x : Str) : Prop := ∀ c ∈ x.cps, c < 128
noncomputable def toB (x : Str) : Array UInt8 := x.cps.map Nat.toUInt8
noncomputable def ofB (b : Array UInt8) : Str := ⟨b.map UInt8.toNat⟩

theorem enc_tree (x : Str) (t u : Tok) : «str.encode» ⟨[.str x t, .str (Str.ofString "ascii") u], []⟩ = (do ret (← _codecs.encodeRoad "str.encode" (.str x t) x (Str.ofString "ascii") none)) := by kernel_rfl
theorem enc_road (id : String) (self : Value) (x : Str) : _codecs.encodeRoad id self x (Str.ofString "ascii") none = (do mkBytes (← _codecs.encodeNarrow id _codecs.asciiCodec none self x)) := by kernel_rfl

theorem foldl_toB (l : List Nat) (acc : Array UInt8) : l.foldl (fun acc y => acc ++ [Nat.toUInt8 y].toArray) acc = acc ++ (l.map Nat.toUInt8).toArray := by
  induction l generalizing acc with
  | nil => simp
  | cons y r ih => rw [List.foldl_cons, ih]; simp

theorem for_first {β : Type} {n : Nat} {f : Nat → β → Sem (ForInStep β)} {b0 b1 : β} (hn : n ≠ 0) (h0 : ∀ i, f i b0 = pure (.yield b1)) (h1 : ∀ i, f i b1 = pure (.done b1)) :
    forIn [0 : n] b0 f = (pure b1 : Sem β) := by
  rw [Std.Legacy.Range.forIn_eq_forIn_range']
  have hsz : ([0 : n] : Std.Legacy.Range).size = n := by simp [Std.Legacy.Range.size]
  obtain ⟨k, rfl⟩ := Nat.exists_eq_succ_of_ne_zero hn
  rw [hsz]
  show forIn (List.range' 0 (k + 1) 1) b0 f = _
  rw [List.range'_succ, List.forIn_cons, h0]
  simp only [pure_bind]
  cases k with
  | zero => rfl
  | succ k =>
    rw [List.range'_succ, List.forIn_cons, h1]
    rfl

theorem for_none {β : Type} {f : Nat → β → Sem (ForInStep β)} {b0 : β} : forIn [0 : 0] b0 f = (pure b0 : Sem β) := by
  rw [Std.Legacy.Range.forIn_eq_forIn_range']
  rfl

theorem narrow_ascii (id : String) (self : Value) (x : Str) (hx : Ascii x) (hz : x.length ≤ sizeLine) : _codecs.encodeNarrow id _codecs.asciiCodec none self x = pure (toB x) := by
  unfold _codecs.encodeNarrow
  dsimp only
  by_cases h0 : x.length = 0
  · have e : toB x = #[] := by
      have : x.cps = #[] := Array.eq_empty_of_size_eq_zero h0
      simp [toB, this]
    rw [e, h0, for_none]
    rfl
  · have hbad : x.cps.findIdx? _codecs.asciiCodec.bad = none := by
      rw [Array.findIdx?_eq_none_iff]
      intro c hc
      have := hx c hc
      simp [_codecs.asciiCodec, this]
    have hpos : 0 < x.cps.size := Nat.pos_of_ne_zero h0
    rw [for_first (b1 := (x.cps.size, toB x, {})) h0]
    · rfl
    · intro i
      have hb : _codecs.asciiCodec.bad x.cps[0] = false := by
        have := hx _ (Array.getElem_mem hpos)
        simp [_codecs.asciiCodec, this]
      dsimp only
      rw [if_neg (by decide), Array.getElem?_eq_getElem hpos]
      dsimp only
      rw [hb]
      show (pure (ForInStep.yield _) : Sem _) = _
      rw [Array.extract_size, hbad]
      simp only [Option.getD_none, Array.extract_size, Nat.zero_add]
      have e : Array.foldl (fun acc y => acc ++ (_codecs.asciiCodec.bytesOf y).toArray) #[] x.cps = toB x := by
        rw [← Array.foldl_toList]
        show x.cps.toList.foldl (fun acc y => acc ++ [Nat.toUInt8 y].toArray) #[] = _
        rw [foldl_toB]
        apply Array.ext'
        simp [toB]
      rw [e]
    · intro i
      dsimp only
      have hz' : ¬ (toB x).size > sizeLine := by
        rw [show (toB x).size = x.length by simp [toB, Str.length]]; omega
      rw [if_neg hz', Array.getElem?_eq_none (Nat.le_refl _)]

theorem toB_size (x : Str) : (toB x).size = x.length := by simp [toB, Str.length]
section
variable {prog : Program} {w : World} {A : Around} {E : Value → Shared → Prop} {s : Shared}

theorem meets_encode {x : Str} {t u : Tok} (hx : Ascii x) (hz : x.length ≤ sizeLine) : Meets («str.encode» ⟨[.str x t, .str (Str.ofString "ascii") u], []⟩) (fun _ R s => R (.ok (.ret (.bytes (toB x) s.toks))) { s with toks := s.toks + 1 }) := by
  refine .of_wp fun prog w A R s hS => ?_
  rw [enc_tree, enc_road, narrow_ascii _ _ _ hx hz]
  simp only [pure_bind]
  exact wpAny_bind (wpAny_mkBytes (wpAny_pure ⟨_, rfl, hS⟩) (by rw [toB_size]; exact hz))

theorem call_encode {x : Str} {t u : Tok} {Q : Value → Shared → Prop} (hx : Ascii x) (hz : x.length ≤ sizeLine) (h : ∀ t' k, Q (.bytes (toB x) t') { s with toks := k }) :
    wpAny (model prog w) A (call (.builtin "str.encode") [.str x t, .str (Str.ofString "ascii") u]) Q E s :=
  call_meets F.slot_str_encode (by exact rfl) F.entry_str_encode (F.args_str_encode_2 _ _) (meets_encode hx hz) (h _ _)

theorem method_encode {M : Model} {x : Str} {t : Tok} {pl : Sem Bool} {Q : Value × List Value → Shared → Prop} (h : Q (.builtin "str.encode", [.str x t]) s) : wpAny M A (getMethod (.str x t) "encode" pl) Q E s :=
  getMethod_builtin (T := "str") (by exact rfl) F.plainAttrs_str F.slot_str_encode F.type_str_encode (fun _ e => nomatch e) h
end

theorem for_steps {β : Type} {n : Nat} {f : Nat → β → Sem (ForInStep β)} {b0 : β} (S : Nat → β) (e0 : b0 = S 0) (h : ∀ i, i < n → f i (S i) = pure (.yield (S (i + 1)))) :
    forIn [0 : n] b0 f = (pure (S n) : Sem β) := by
  subst e0
  rw [Std.Legacy.Range.forIn_eq_forIn_range']
  have hsz : ([0 : n] : Std.Legacy.Range).size = n := by simp [Std.Legacy.Range.size]
  rw [hsz]
  show forIn (List.range' 0 n 1) (S 0) f = _
  have key : ∀ k i, i + k = n → forIn (List.range' i k 1) (S i) f = (pure (S n) : Sem β) := by
    intro k
    induction k with
    | zero => intro i hi; obtain rfl : i = n := by omega
              rfl
    | succ k ih =>
      intro i hi
      rw [List.range'_succ, List.forIn_cons, h i (by omega)]
      simp only [pure_bind]
      exact ih (i + 1) (by omega)
  exact key n 0 (by omega)

noncomputable def AsciiB (b : Array UInt8) : Prop := ∀ c ∈ b, c.toNat < 128

theorem run_ascii (id : String) (b : Array UInt8) (hb : AsciiB b) (hz : b.size ≤ sizeLine) : _codecs.runDecoder id _codecs.asciiDecoder none true b 0 [] = pure ((ofB b).cps, b.size) := by
  unfold _codecs.runDecoder
  dsimp only
  rw [for_steps (fun i => (i, (b.extract 0 i).map UInt8.toNat, ({ held := [] } : _codecs.Faults))) (by simp)]
  · simp [ofB]
  · intro i hi
    have h1 : ¬ ((b.extract 0 i).map UInt8.toNat).size > sizeLine := by
      rw [Array.size_map, Array.size_extract]; omega
    dsimp only
    rw [if_neg h1, if_neg (by omega)]
    have h2 : _codecs.asciiDecoder.find true b i = .char (b.getD i 0).toNat (i + 1) := by
      show (if (b.getD i 0).toNat < 128 then _ else _) = _
      rw [if_pos]
      have : b.getD i 0 = b[i] := by simp [hi]
      rw [this]
      exact hb _ (Array.getElem_mem hi)
    rw [h2]
    show (pure (ForInStep.yield (i + 1, (b.extract 0 i).map UInt8.toNat ++ [(b.getD i 0).toNat].toArray, _)) : Sem _) = _
    have e : (b.extract 0 i).map UInt8.toNat ++ [(b.getD i 0).toNat].toArray = (b.extract 0 (i + 1)).map UInt8.toNat := by
      apply Array.ext'
      simp only [Array.toList_append, Array.toList_map, Array.toList_extract, List.extract_eq_take_drop, List.drop_zero, Nat.sub_zero]
      rw [List.take_add_one, List.map_append]
      congr 1
      have : b.toList[i]? = some b[i] := by simp [hi]
      rw [this]
      simp [hi]
    rw [e]

theorem dec_road (id : String) (b : Array UInt8) : _codecs.decodeRoad id b (Str.ofString "ascii") none [] = (_codecs.runDecoder id _codecs.asciiDecoder none true b 0 [] >>= fun r => mkStr ⟨r.1⟩) := by kernel_rfl

theorem ofB_length (b : Array UInt8) : (ofB b).length = b.size := by simp [ofB, Str.length]

theorem meets_decode_text {b : Array UInt8} {t t1 t2 : Tok} {d : Str} (hb : AsciiB b) (hz : b.size ≤ sizeLine) :
    Meets («_codecs.decode.text» ⟨[.bytes b t, .str (Str.ofString "ascii") t1, .none, .str d t2], []⟩) (fun _ R s => R (.ok (.ret (.str (ofB b) s.toks))) { s with toks := s.toks + 1 }) := by
  refine .of_wp fun prog w A R s h => ?_
  show wpAny _ _ (Bytes.bytesLike _ (.bytes b t) >>= fun r => _) _ _ s
  refine wpAny_bind (wpAny_of_eq KBd.like_eq ?_)
  refine wpAny_bind (wpAny_of_eq KBd.held_eq ?_)
  show wpAny _ _ (_codecs.decodeRoad _ b (Str.ofString "ascii") none [] >>= fun v => _) _ _ s
  rw [dec_road, run_ascii _ _ hb hz]
  refine wpAny_bind (wpAny_bind (wpAny_pure ?_))
  exact wpAny_mkStr (wpAny_pure ⟨_, rfl, h⟩) (by rw [show (⟨(ofB b).cps⟩ : Str).length = (ofB b).length from rfl, ofB_length]; exact hz)

theorem dec_entry (c : UInt8) (cs : List UInt8) (t u : Tok) : «bytes.decode» ⟨[.bytes (c :: cs).toArray t, .str (Str.ofString "ascii") u], []⟩ = (mkStr (Str.ofString "utf-8") >>= fun _ => mkStr (Str.ofString "ascii") >>= fun e => mkStr (Str.ofString "bytes.decode") >>= fun d =>
    call (.builtin "_codecs.decode.text") [.bytes (c :: cs).toArray t, e, .none, d] >>= fun v => ret v) := by kernel_rfl

theorem args_bytes_decode_2 (a b : Value) : argsOk "bytes.decode" ⟨[a, b], []⟩ := by
  unfold argsOk; rw [signature?_of (id := "bytes.decode") (n := ['e', 'd', 'o', 'c', 'e', 'd']) (o := ['s', 'e', 't', 'y', 'b']) (by kernel_rfl) FB.owner_bytes]; kernel_rfl

theorem meets_decode {b : Array UInt8} {t u : Tok} (hb : AsciiB b) (hz : b.size ≤ sizeLine) (hn : b.size ≠ 0) :
    Meets («bytes.decode» ⟨[.bytes b t, .str (Str.ofString "ascii") u], []⟩) (fun _ R s => ∀ t' k, 0 < k → R (.ok (.ret (.str (ofB b) t'))) { s with toks := k }) := by
  refine .of_wp fun prog w A R s h => ?_
  obtain ⟨l⟩ := b
  cases l with
  | nil => exact absurd rfl hn
  | cons c cs =>
    rw [dec_entry]
    refine wpAny_bind (wpAny_mkStr ?_ (by decide))
    refine wpAny_bind (wpAny_mkStr ?_ (by decide))
    refine wpAny_bind (wpAny_mkStr ?_ (by decide))
    exact wpAny_bind (call_function_meets KBd.kind_text KBd.plain_text KBd.entry_text (KBd.args_text _ _ _ _) (meets_decode_text hb hz) (wpAny_pure ⟨_, rfl, h _ _ (Nat.succ_pos _)⟩))

theorem slot_bytes_translate : Slot "bytes" "translate" "bytes.translate" :=
  .of (owner := "bytes") (n := "translate") (by rw [typeLookup_type, builtinLookup_eq_fast]; kernel_rfl) (by decide +kernel) (by decide +kernel) (by decide +kernel)
    (by first | exact .inl (by decide +kernel) | exact .inr (by decide +kernel)) (by rw [isSubtype_type]; kernel_rfl)
theorem type_bytes_translate : typeOf (.builtin "bytes.translate") = pure (.type "method_descriptor") := by show builtinType _ = _; rw [builtinType_eq_fast]; kernel_rfl
theorem entry_bytes_translate : entryFor table "bytes.translate" = some Builtin.«bytes.translate» := entryFor_of_tree (by kernel_rfl)
theorem args_bytes_translate_2 (a b : Value) : argsOk "bytes.translate" ⟨[a, b], []⟩ := by
  unfold argsOk; rw [signature?_of (id := "bytes.translate") (n := ['e', 't', 'a', 'l', 's', 'n', 'a', 'r', 't']) (o := ['s', 'e', 't', 'y', 'b']) (by kernel_rfl) FB.owner_bytes]; kernel_rfl
theorem slot_bytes_upper : Slot "bytes" "upper" "bytes.upper" :=
  .of (owner := "bytes") (n := "upper") (by rw [typeLookup_type, builtinLookup_eq_fast]; kernel_rfl) (by decide +kernel) (by decide +kernel) (by decide +kernel)
    (by first | exact .inl (by decide +kernel) | exact .inr (by decide +kernel)) (by rw [isSubtype_type]; kernel_rfl)
theorem type_bytes_upper : typeOf (.builtin "bytes.upper") = pure (.type "method_descriptor") := by show builtinType _ = _; rw [builtinType_eq_fast]; kernel_rfl
theorem entry_bytes_upper : entryFor table "bytes.upper" = some Builtin.«bytes.upper» := entryFor_of_tree (by kernel_rfl)
theorem args_bytes_upper_1 (a : Value) : argsOk "bytes.upper" ⟨[a], []⟩ := by
  unfold argsOk; rw [signature?_of (id := "bytes.upper") (n := ['r', 'e', 'p', 'p', 'u']) (o := ['s', 'e', 't', 'y', 'b']) (by kernel_rfl) FB.owner_bytes]; kernel_rfl

noncomputable def transTab (frm to : Array UInt8) : Array UInt8 := (frm.toList.zip to.toList).foldl (fun t (f, x) => t.setIfInBounds f.toNat x) ((Array.range 256).map (·.toUInt8))
noncomputable def trans (tab b : Array UInt8) : Array UInt8 := b.map fun c => tab.getD c.toNat c

theorem transTab_size (f g : Array UInt8) : (transTab f g).size = 256 := by
  unfold transTab
  generalize f.toList.zip g.toList = l
  have key : ∀ (l : List (UInt8 × UInt8)) (t : Array UInt8), (l.foldl (fun t (f, x) => t.setIfInBounds f.toNat x) t).size = t.size := by
    intro l
    induction l with
    | nil => intro t; rfl
    | cons p r ih => intro t; rw [List.foldl_cons, ih]; simp
  rw [key]
  simp

theorem meets_maketrans {f g : Array UInt8} {t u : Tok} (hfg : f.size = g.size) : Meets («bytes.maketrans» ⟨[.bytes f t, .bytes g u], []⟩) (fun _ R s => R (.ok (.ret (.bytes (transTab f g) s.toks))) { s with toks := s.toks + 1 }) := by
  refine .of_wp fun prog w A R s h => ?_
  show wpAny _ _ (Bytes.bytesLike "bytes.maketrans" (.bytes f t) >>= fun frm => Bytes.bytesLike "bytes.maketrans" (.bytes g u) >>= fun to => if (frm.size != to.size) = true then _ else _) _ _ s
  refine wpAny_bind (wpAny_of_eq KBd.like_eq ?_)
  refine wpAny_bind (wpAny_of_eq KBd.like_eq ?_)
  rw [if_neg (by simp [hfg])]
  exact wpAny_bind (wpAny_mkBytes (wpAny_pure ⟨_, rfl, h⟩) (by show (transTab f g).size ≤ sizeLine; rw [transTab_size, sizeLine_eq]; decide))

theorem meets_translate {b tab : Array UInt8} {t u : Tok} (ht : tab.size = 256) (hz : b.size ≤ sizeLine) : Meets («bytes.translate» ⟨[.bytes b t, .bytes tab u], []⟩) (fun _ R s => ∀ t' k, R (.ok (.ret (.bytes (trans tab b) t'))) { s with toks := k }) := by
  refine .of_wp fun prog w A R s h => ?_
  show wpAny _ _ (Bytes.bytesLike "bytes.translate" (.bytes tab u) >>= fun tt => if (tt.size != 256) = true then _ else _) _ _ s
  refine wpAny_bind (wpAny_of_eq KBd.like_eq ?_)
  rw [if_neg (by simp [ht])]
  have e : (b.filter (!(#[] : Array UInt8).contains ·)).map (fun c => tab.getD c.toNat c) = trans tab b := by
    have : b.filter (!(#[] : Array UInt8).contains ·) = b := by simp
    rw [this]; rfl
  refine wpAny_bind (wpAny_of_eq (a := some tab) rfl ?_)
  refine wpAny_bind (wpAny_of_eq (a := #[]) rfl ?_)
  refine wpAny_bind (wpAny_of_eq (a := b) rfl ?_)
  show wpAny _ _ (if (((b.filter (!(#[] : Array UInt8).contains ·)).map (fun c => tab.getD c.toNat c)) == b) = true then _ else _) _ _ _
  rw [e]
  by_cases hq : (trans tab b == b) = true
  · rw [if_pos hq]
    have hq' : trans tab b = b := eq_of_beq hq
    rw [hq'] at h
    refine wpAny_bind (wpAny_rule ?_)
    refine wpAny_bind (wpAny_of_eq (a := Value.bytes b t) rfl ?_)
    exact wpAny_pure ⟨_, rfl, h _ _⟩
  · rw [if_neg hq]
    exact wpAny_bind (wpAny_mkBytes (wpAny_pure ⟨_, rfl, h _ _⟩) (by rw [trans, Array.size_map]; exact hz))

noncomputable def upB (b : Array UInt8) : Array UInt8 := (b.toList.map Bytes.toUpper).toArray
theorem upB_size (b : Array UInt8) : (upB b).size = b.size := by simp [upB]
theorem meets_upper {b : Array UInt8} {t : Tok} (hz : b.size ≤ sizeLine) : Meets («bytes.upper» ⟨[.bytes b t], []⟩) (fun _ R s => ∀ t' k, R (.ok (.ret (.bytes (upB b) t'))) { s with toks := k }) := by
  refine .of_wp fun prog w A R s h => ?_
  show wpAny _ _ (mkBytes (upB b) >>= fun v => ret v) _ _ s
  exact wpAny_bind (wpAny_mkBytes (wpAny_pure ⟨_, rfl, h _ _⟩) (by rw [upB_size]; exact hz))

noncomputable def hexB (b : Array UInt8) : Str := ⟨b.toList.zipIdx.foldl (fun (out : Array Nat) (c, _) => (out.push (Bytes.hexDigit (c.toNat / 16))).push (Bytes.hexDigit (c.toNat % 16))) #[]⟩
theorem hex_foldl (l : List (UInt8 × Nat)) (acc : Array Nat) : (l.foldl (fun (out : Array Nat) (c, _) => (out.push (Bytes.hexDigit (c.toNat / 16))).push (Bytes.hexDigit (c.toNat % 16))) acc).size = acc.size + 2 * l.length := by
  induction l generalizing acc with
  | nil => rfl
  | cons p r ih => rw [List.foldl_cons, ih]; simp; omega
theorem hexB_length (b : Array UInt8) : (hexB b).length = 2 * b.size := by
  show (b.toList.zipIdx.foldl _ #[]).size = _
  rw [hex_foldl]; simp
theorem hexDigit_lt (n : Nat) (h : n < 16) : Bytes.hexDigit n < 128 := by unfold Bytes.hexDigit; split <;> omega
theorem hexB_ascii (b : Array UInt8) : Ascii (hexB b) := by
  have key : ∀ (l : List (UInt8 × Nat)) (acc : Array Nat), (∀ c ∈ acc, c < 128) → ∀ c ∈ l.foldl (fun (out : Array Nat) (c, _) => (out.push (Bytes.hexDigit (c.toNat / 16))).push (Bytes.hexDigit (c.toNat % 16))) acc, c < 128 := by
    intro l
    induction l with
    | nil => intro acc h; exact h
    | cons p r ih =>
      intro acc h
      rw [List.foldl_cons]
      refine ih _ fun c hc => ?_
      rw [Array.mem_push, Array.mem_push] at hc
      have := p.1.toNat_lt
      rcases hc with (hc | rfl) | rfl
      · exact h c hc
      · exact hexDigit_lt _ (by omega)
      · exact hexDigit_lt _ (by omega)
  exact key _ _ (fun c hc => by simp at hc)
theorem meets_hex {b : Array UInt8} {t : Tok} (hz : 2 * b.size ≤ sizeLine) : Meets («bytes.hex» ⟨[.bytes b t], []⟩) (fun _ R s => ∀ t' k, R (.ok (.ret (.str (hexB b) t'))) { s with toks := k }) := by
  refine .of_wp fun prog w A R s h => ?_
  show wpAny _ _ (mkStr (hexB b) >>= fun v => ret v) _ _ s
  exact wpAny_bind (wpAny_mkStr (wpAny_pure ⟨_, rfl, h _ _⟩) (by rw [hexB_length]; exact hz))

section
variable {prog : Program} {w : World} {A : Around} {E : Value → Shared → Prop} {s : Shared}
theorem call_decode {b : Array UInt8} {t u : Tok} {Q : Value → Shared → Prop} (hb : AsciiB b) (hz : b.size ≤ sizeLine) (hn : b.size ≠ 0) (h : ∀ t' k, 0 < k → Q (.str (ofB b) t') { s with toks := k }) :
    wpAny (model prog w) A (call (.builtin "bytes.decode") [.bytes b t, .str (Str.ofString "ascii") u]) Q E s :=
  call_meets FB.slot_bytes_decode (typeIs_bytes _ _ _) FB.entry_bytes_decode (args_bytes_decode_2 _ _) (meets_decode hb hz hn) h
theorem call_translate {b tab : Array UInt8} {t u : Tok} {Q : Value → Shared → Prop} (ht : tab.size = 256) (hz : b.size ≤ sizeLine) (h : ∀ t' k, Q (.bytes (trans tab b) t') { s with toks := k }) :
    wpAny (model prog w) A (call (.builtin "bytes.translate") [.bytes b t, .bytes tab u]) Q E s :=
  call_meets slot_bytes_translate (typeIs_bytes _ _ _) entry_bytes_translate (args_bytes_translate_2 _ _) (meets_translate ht hz) h
theorem call_upper {b : Array UInt8} {t : Tok} {Q : Value → Shared → Prop} (hz : b.size ≤ sizeLine) (h : ∀ t' k, Q (.bytes (upB b) t') { s with toks := k }) :
    wpAny (model prog w) A (call (.builtin "bytes.upper") [.bytes b t]) Q E s :=
  call_meets slot_bytes_upper (typeIs_bytes _ _ _) entry_bytes_upper (args_bytes_upper_1 _) (meets_upper hz) h
theorem call_hex {b : Array UInt8} {t : Tok} {Q : Value → Shared → Prop} (hz : 2 * b.size ≤ sizeLine) (h : ∀ t' k, Q (.str (hexB b) t') { s with toks := k }) :
    wpAny (model prog w) A (call (.builtin "bytes.hex") [.bytes b t]) Q E s :=
  call_meets FB.slot_bytes_hex (typeIs_bytes _ _ _) FB.entry_bytes_hex (FB.args_bytes_hex_1 _) (meets_hex hz) h
theorem method_bytes {M : Model} {b : Array UInt8} {t : Tok} {name : Str} {id : String} {pl : Sem Bool} {Q : Value × List Value → Shared → Prop} (slot : Slot "bytes" name id) (ty : typeOf (.builtin id) = pure (.type "method_descriptor")) (h : Q (.builtin id, [.bytes b t]) s) :
    wpAny M A (getMethod (.bytes b t) name pl) Q E s := KBd.method_of (.bytes b t) (typeIs_bytes _ _ _) slot ty KBd.noRef h
theorem call_type_bytes {b : Array UInt8} {t : Tok} {Q : Value → Shared → Prop} (h : Q (.type "bytes") s) : wpAny (model prog w) A (call (.type "type") [.bytes b t]) Q E s :=
  call_type_of (typeIs_bytes _ _ _) (by decide +kernel) h
end

theorem find_mt (K : Frag) : findCls K (.type "bytes") (.type "type") "maketrans" = some (.val (.builtin "bytes.maketrans")) := by kernel_rfl
theorem meta_bytes : typeOf (.type "bytes") = pure (.type "type") := by kernel_rfl
theorem plain_mt : plainId "bytes.maketrans" = true := by decide +kernel
theorem entry_mt : entryFor table "bytes.maketrans" = some Builtin.«bytes.maketrans» := entryFor_of_tree (by kernel_rfl)
theorem check_mt (a b : Value) : checkBuiltinCall "bytes.maketrans" ⟨[a, b], []⟩ = pure () := by kernel_rfl
theorem stub_bytes : Manifest.isStub "bytes" = false := by decide +kernel
theorem handed_mt : handedIn (.builtin "bytes.maketrans") = true := by decide +kernel
section
variable {prog : Program} {w : World} {A : Around} {E : Value → Shared → Prop} {s : Shared}
theorem call_maketrans {f g : Array UInt8} {t u : Tok} {Q : Value → Shared → Prop} (hfg : f.size = g.size) (h : ∀ t' k, Q (.bytes (transTab f g) t') { s with toks := k }) :
    wpAny (model prog w) A (call (.builtin "bytes.maketrans") [.bytes f t, .bytes g u]) Q E s := by
  refine wpAny_call (codeAny_call_builtin plain_mt entry_mt (wpAny_of_eq (check_mt _ _) ?_))
  exact meets_maketrans hfg prog w A (wants Q E) s (h _ _)
theorem method_maketrans {K : Frag} {h₀ : Heap} {L : Addr} {m : Str → Option Value} {pl : Sem Bool} {Q : Value × List Value → Shared → Prop} (F : Fr h₀ L s.heap m) (X₀ : K.In h₀) (h : Q (.builtin "bytes.maketrans", []) { s with toks := s.toks + 1 }) :
    wpAny (model prog w) A (getMethod (.type "bytes") "maketrans" pl) Q E s := method_type (T := "bytes") (name := Str.ofString "maketrans") (v := .builtin "bytes.maketrans") F X₀ meta_bytes stub_bytes (find_mt K) handed_mt h
end

theorem join_filter (c : Nat) : ∀ ps : List Str, (∀ p ∈ ps, c ∉ p.cps.toList) → (Str.join Str.empty ps).cps.toList = (Str.join ⟨#[c]⟩ ps).cps.toList.filter (· ≠ c)
  | [], _ => by simp [Str.join, Str.empty]
  | [x], h => by
    have : x.cps.toList.filter (· ≠ c) = x.cps.toList := List.filter_eq_self.mpr fun a ha => by
      have := h x (by simp)
      simp only [ne_eq, decide_not, Bool.not_eq_eq_eq_not, Bool.not_true, decide_eq_false_iff_not]
      exact fun e => this (e ▸ ha)
    simp only [Str.join]
    exact this.symm
  | x :: y :: r, h => by
    have hx : x.cps.toList.filter (· ≠ c) = x.cps.toList := List.filter_eq_self.mpr fun a ha => by
      have := h x (by simp)
      simp only [ne_eq, decide_not, Bool.not_eq_eq_eq_not, Bool.not_true, decide_eq_false_iff_not]
      exact fun e => this (e ▸ ha)
    have ih := join_filter c (y :: r) fun p hp => h p (List.mem_cons_of_mem _ hp)
    have e1 : ∀ a b : Str, (a ++ b).cps.toList = a.cps.toList ++ b.cps.toList := fun a b => by
      show (a.cps ++ b.cps).toList = _
      simp
    show ((x ++ Str.empty) ++ Str.join Str.empty (y :: r)).cps.toList = ((x ++ ⟨#[c]⟩) ++ Str.join ⟨#[c]⟩ (y :: r)).cps.toList.filter (· ≠ c)
    rw [e1, e1, e1, e1, List.filter_append, List.filter_append, hx, ih]
    simp [Str.empty]
theorem replace_filter (x : Str) (c : Nat) : (Txt.replace x ⟨#[c]⟩ Str.empty).cps.toList = x.cps.toList.filter (· ≠ c) := by
  rw [StrLaws.replace_one, join_filter c _ (StrLaws.split_free x c), StrLaws.join_split]

section
variable {prog : Program} {w : World} {A : Around} {E : Value → Shared → Prop} {s : Shared}
theorem call_replace {x y z : Str} {t u v : Tok} {Q : Value → Shared → Prop} (hu : u ≠ 0) (hv : v ≠ 0) (huv : u ≠ v) (hyz : (y == z) = false) (hb : x.length + (x.length + 1) * z.length ≤ 16777216)
    (hq : ∀ t' k, Q (.str (Txt.replace x y z) t') { s with toks := k }) :
    wpAny (model prog w) A (call (.builtin "str.replace") [.str x t, .str y u, .str z v]) Q E s := by
  have hl : Builtin.Str.tooLong (x.length + (Builtin.Str.occurrences x y 0 x.length (x.length + 1)).length * z.length) = false := by
    have h1 := StrLaws.occ_length_le x y 0 x.length (x.length + 1)
    have h2 : (Builtin.Str.occurrences x y 0 x.length (x.length + 1)).length * z.length ≤ (x.length + 1) * z.length := Nat.mul_le_mul_right _ h1
    unfold Builtin.Str.tooLong sizeLine
    exact decide_eq_false (by omega)
  refine call_meets F.slot_str_replace (typeIs_str _ _ _) F.entry_str_replace (F.args_str_replace_3 _ _ _)
    (gives_str_replace x y z t u v fun _ => ⟨by simp [hu, hv], by simp [huv], hyz, hl⟩).meets ?_
  have hq' := hq
  unfold Txt.replace at hq'
  cases hc : ((Builtin.Str.occurrences x y 0 x.length (x.length + 1)).isEmpty || (y.length == 0 && z.length == 0))
  · rw [hc] at hq'
    simp only [Bool.false_eq_true, if_false] at hq' ⊢
    exact ⟨fits_replaced y hb, hq' _ _⟩
  · rw [hc] at hq'
    simp only [if_true] at hq' ⊢
    exact hq' t s.toks
end
end
section
open PySem PySem.W PyProof.Rows
set_option Elab.async false
set_option maxRecDepth 100000
set_option genInjectivity false
set_option genSizeOf false

noncomputable def Stop (P : Prop) : Prop := P
theorem Stop.mk {P : Prop} (h : Stop P) : P := h
theorem Stop.out {P : Prop} (h : P) : Stop P := h

theorem nsub {h₀ h : Heap} {L : Addr} {l l' : List (Addr × Obj)} (N : News h₀ L h l) (hs : ∀ p ∈ l', p ∈ l) : News h₀ L h l' := fun p hp => N p (hs p hp)
theorem napp {h₀ h : Heap} {L : Addr} {l l' : List (Addr × Obj)} (N : News h₀ L h l) (N' : News h₀ L h l') : News h₀ L h (l ++ l') := fun p hp => (List.mem_append.mp hp).elim (N p) (N' p)

theorem rest_kept {h₀ g H h' : Heap} {L L' : Addr} {m' : Str → Option Value} {adr : List Addr} {rest : List (Addr × Obj)} (F' : Fr g L' h' m') (G : GSub H g adr) (N : News h₀ L H rest) (hoff : ∀ p ∈ rest, p.1 ∉ adr) : News h₀ L h' rest :=
  fun p hp => ⟨F'.keep _ _ (G _ _ (N p hp).1 (hoff p hp)), (N p hp).2⟩

theorem off_nil (rest : List (Addr × Obj)) : ∀ p ∈ rest, p.1 ∉ ([] : List (Addr × Obj)).map (·.1) := fun _ _ h => nomatch h
theorem frz {u m₀ : Str → Option Value} {st : List Str} {z : Str} (h : st.contains z = false) : (if st.contains z = true then u z else m₀ z) = m₀ z := by rw [h]; rfl
theorem frk {f : Str → Option Value} {z : Str} {r : Option Value} (h : f z = r) : kstB f [] z = r := h
theorem nk0 {z : Str} {p : Str × Value} {l : List (Str × Value)} (h : ∀ q ∈ p :: l, z ≠ q.1) : z ≠ p.1 := h p (.head _)
theorem nk1 {z : Str} {o p : Str × Value} {l : List (Str × Value)} (h : ∀ q ∈ o :: p :: l, z ≠ q.1) : z ≠ p.1 := h p (.tail _ (.head _))
theorem nk2 {z : Str} {o1 o2 p : Str × Value} {l : List (Str × Value)} (h : ∀ q ∈ o1 :: o2 :: p :: l, z ≠ q.1) : z ≠ p.1 := h p (.tail _ (.tail _ (.head _)))
theorem nk3 {z : Str} {o1 o2 o3 p : Str × Value} {l : List (Str × Value)} (h : ∀ q ∈ o1 :: o2 :: o3 :: p :: l, z ≠ q.1) : z ≠ p.1 := h p (.tail _ (.tail _ (.tail _ (.head _))))
theorem nst {z key : Str} {st : List Str} (h : st.contains z = false) (k : st.contains key = true) : z ≠ key := fun e => by rw [← e, h] at k; cases k
theorem lp1 {a : Addr} {vs : List Value} {x : Value} {n : Nat} {l : List (Addr × Obj)} : ∀ p ∈ (a, W.listOf (vs ++ [x]).toArray n) :: l, p ∈ (a, W.listOf (vs.toArray.push x) n) :: l := by rw [List.push_toArray]; exact fun _ h => h
theorem sub_nil {l : List (Addr × Obj)} : ∀ p ∈ ([] : List (Addr × Obj)), p ∈ l := fun _ h => nomatch h
theorem sub_cons {x : Addr × Obj} {r l : List (Addr × Obj)} (h : x ∈ l) (k : ∀ p ∈ r, p ∈ l) : ∀ p ∈ x :: r, p ∈ l := List.forall_mem_cons.mpr ⟨h, k⟩
theorem sub_app {a b l : List (Addr × Obj)} (h : ∀ p ∈ a, p ∈ l) (k : ∀ p ∈ b, p ∈ l) : ∀ p ∈ a ++ b, p ∈ l := List.forall_mem_append.mpr ⟨h, k⟩
theorem mm0 {x : Addr × Obj} {l : List (Addr × Obj)} : x ∈ x :: l := .head _
theorem mm1 {x a : Addr × Obj} {l : List (Addr × Obj)} : x ∈ a :: x :: l := .tail _ (.head _)
theorem mm2 {x a b : Addr × Obj} {l : List (Addr × Obj)} : x ∈ a :: b :: x :: l := .tail _ (.tail _ (.head _))
theorem mm3 {x a b c : Addr × Obj} {l : List (Addr × Obj)} : x ∈ a :: b :: c :: x :: l := .tail _ (.tail _ (.tail _ (.head _)))
theorem mm4 {x a b c d : Addr × Obj} {l : List (Addr × Obj)} (h : x ∈ l) : x ∈ a :: b :: c :: d :: l := .tail _ (.tail _ (.tail _ (.tail _ h)))
theorem fr_over {h₀ h : Heap} {L : Addr} {m : Str → Option Value} {x : Str} {v : Value} (F : Fr h₀ L h m) (hx : m x = some v) : Fr h₀ L h (fun y => if y = x then some v else m y) := by
  have e : (fun y => if y = x then some v else m y) = m := by
    funext y
    by_cases hy : y = x
    · rw [if_pos hy, hy, hx]
    · rw [if_neg hy]
  rw [e]; exact F
theorem fr_six {h₀ h : Heap} {L : Addr} {m : Str → Option Value} {x1 x2 x3 x4 x5 x6 : Str} {v1 v2 v3 v4 v5 v6 : Value} (F : Fr h₀ L h m) (e1 : m x1 = some v1) (e2 : m x2 = some v2) (e3 : m x3 = some v3) (e4 : m x4 = some v4) (e5 : m x5 = some v5) (e6 : m x6 = some v6) :
    Fr h₀ L h (fun y => if y = x1 then some v1 else if y = x2 then some v2 else if y = x3 then some v3 else if y = x4 then some v4 else if y = x5 then some v5 else if y = x6 then some v6 else m y) := by
  have step : ∀ (x : Str) (v : Value) (f : Str → Option Value), (∀ y, f y = m y) → m x = some v → ∀ y, (if y = x then some v else f y) = m y := fun x v f hf hx y => by
    by_cases hy : y = x
    · rw [if_pos hy, hy, hx]
    · rw [if_neg hy, hf]
  have e := funext (step x1 v1 _ (step x2 v2 _ (step x3 v3 _ (step x4 v4 _ (step x5 v5 _ (step x6 v6 m (fun _ => rfl) e6) e5) e4) e3) e2) e1)
  rw [e]; exact F
theorem room1 {un m lim : Nat} (h : un + m < lim) : un < lim := Nat.lt_of_le_of_lt (Nat.le_add_right un m) h
theorem room2 {un a m lim : Nat} (h : un + m < lim) (e : a ≤ m) : un + a < lim := Nat.lt_of_le_of_lt (Nat.add_le_add_left e un) h
theorem room3 {un a b m lim : Nat} (h : un + m < lim) (e : a + b ≤ m) : un + a + b < lim := by rw [Nat.add_assoc]; exact room2 h e
theorem room4 {un a b c m lim : Nat} (h : un + m < lim) (e : a + (b + c) ≤ m) : un + a + b + c < lim := by rw [Nat.add_assoc]; exact room3 h e
inductive LeaveF (h₀ : Heap) (L : Addr) (m : Str → Option Value) (g : Heap) (rest : List (Addr × Obj)) (R : Value → Shared → Prop) (v : Value) (s' : Shared) : Prop
  | mk (L' : Addr) (m' : Str → Option Value) (foot' : List (Addr × Obj)) (F : Fr g L' s'.heap m') (N : News g L' s'.heap foot') (k : Fr h₀ L s'.heap m → News h₀ L s'.heap (foot' ++ rest) → (∀ q ∈ foot', ∀ p ∈ rest, p.1 ≠ q.1) → R v s') : LeaveF h₀ L m g rest R v s'

section
variable {prog : Program} {w : World} {A A₀ : Around} {E : Value → Shared → Prop} {s : Shared} {K : Frag} {L : Addr} {h₀ base : Heap} {m mg mb : Str → Option Value} {foot rest : List (Addr × Obj)} {p : Program} {loose : List Str} {mean : ExcName → Option Value} {Q : Value → Shared → Prop}
theorem nmL {M : Model} {A : Around} {cn : Str} {cs : Scope} {L a : Addr} {ccd : Value} {cl : List (Str × Addr)} {h₀ : Heap} {m : Str → Option Value} {x : Str} {v : Value} {pos : Pos} {Q E : Value → Shared → Prop} {s : Shared} (F : Fr h₀ L s.heap m) (hv : some v = m x) (h : Q v s)
    (hk : cs.kind = .function := by rfl) (hx : some .local = (envX cn cs L a ccd cl).kindOf x := by rfl) (hd : (x == ("__debug__" : Str)) = false := by decide) :
    wpAny M A (eval (.Name x pos) (envX cn cs L a ccd cl)) Q E s := nameX_L F hv.symm h hk hx.symm hd
theorem enterF {env : Env} {outer : List Env} {name qual : Str} {params : Arguments} {body : List Stmt} {scope : Scope} {dV kV doc pm cdv ct oc : Value} {an od : Option Addr} {osl : Array (Option Value)} {f : Addr} {args : Args} {binds : List (Str × Value)}
    (hA : A.frames = some (env :: outer)) (hf : env.frame = some L) (hke : env.scope.kind = .function)
    (B : Below A₀ base outer h₀) (F : Fr h₀ L s.heap m) (X₀ : K.In h₀) (N : News h₀ L s.heap (foot ++ rest)) (hoff : ∀ p ∈ rest, p.1 ∉ foot.map (·.1)) (T : Top p loose mean mg mb h₀) 
    (ho : K.lookup f = some ⟨oc, od, .func (fnOf name qual params body scope dV kV doc pm an cdv ct), osl⟩) (hcd : codeIn K cdv qual = true) (hroom : A.depth < recursionLimit)
    (hbind : BindsTo s (fnOf name qual params body scope dV kV doc pm an cdv ct) args binds) {bl : List (Str × Value)} (hB : binds = bl) (hloc : ∀ y ∈ binds, scope.names.lookup y.1 = some .local)
    (hco : scope.isCoroutine = false) (hgen : scope.isGenerator = false) (hk : scope.kind = .function)
    (hcell : ∀ x ∈ scope.names, x.2 ≠ .cell)
    (h : ∀ g L' h₁ tk, Fr h₀ L g m → Fr g L' h₁ (fun y => bl.reverse.lookup y) → News g L' h₁ foot → Below A base (env :: outer) g → K.In g → Top p loose mean mg mb g →
      wpAny (model prog w) (A.deeper (envOf qual scope L' f cdv)) (execs body (envOf qual scope L' f cdv))
        (fun fl s' => LeaveF h₀ L m g rest Q (match fl with | .ret v => v | _ => .none) s')
        (fun e s' => wpAny (model prog w) (A.deeper (envOf qual scope L' f cdv)) (leaving (envOf qual scope L' f cdv) e) (fun _ s'' => E e s'') (fun e' s'' => E e' s'') s')
        { s with heap := h₁, toks := tk }) : wpAny (model prog w) A (call (.ref f) args.pos args.kw) Q E s := by
  subst hB
  refine wpAny_call ?_
  refine code_defG B F X₀ (nsub N fun p hp => List.mem_append_left _ hp) T hA hf hke ho hcd hroom hbind hloc (fun g L' h₁ FG F' N' B' X' T' G => ?_) hco hgen hk hcell
  refine wpAny_mono (h g L' h₁ _ FG F' N' B' X' T') (fun fl s' hl => ?_) fun _ _ y => y
  obtain ⟨L'', m'', foot', F'', N'', k⟩ := hl
  have NR : News h₀ L s'.heap rest := rest_kept F'' G (nsub N fun p hp => List.mem_append_right _ hp) hoff
  refine ⟨L'', m'', foot', F'', N'', fun kF kN => k kF (napp kN NR) fun q hq p hp e => ?_⟩
  have h1 := (N'' q hq).2.2
  have h2 := G _ _ (N p (List.mem_append_right _ hp)).1 (hoff p hp)
  rw [e, h1] at h2
  cases h2
end

inductive TurnEnd {σ : Type} (h₀ : Heap) (L : Addr) (x : Str) (stored : List Str) (m₀ : Str → Option Value) (ps : σ → List (Str × Value)) (Led : σ → List (Addr × Obj)) (Ok : σ → Prop) (own : List (Addr × Obj)) (s s₂ : Shared) : Prop
  | mk (c : σ) (h' : Heap) (tk' : Nat) (m' : Str → Option Value) (news' : List (Addr × Obj)) (e : s₂ = { s with heap := h', toks := tk' }) (F : Fr h₀ L h' m') (N : News h₀ L h' news') (sub : ∀ p ∈ Led c ++ own, p ∈ news') (off : OwnOff own ((Led c).map (·.1))) (hp : ∀ p ∈ ps c, m' p.1 = some p.2)
    (hz : ∀ z, z ≠ x → (∀ p ∈ ps c, z ≠ p.1) → stored.contains z = false → m' z = m₀ z) (ok : Ok c) : TurnEnd h₀ L x stored m₀ ps Led Ok own s s₂
noncomputable def TurnPost {σ : Type} (h₀ : Heap) (L : Addr) (x : Str) (stored : List Str) (m₀ : Str → Option Value) (ps : σ → List (Str × Value)) (Led : σ → List (Addr × Obj)) (Ok : σ → Prop) (own : List (Addr × Obj)) (s : Shared) (Q : Flow → Shared → Prop) (f : Flow) (s₂ : Shared) : Prop :=
  match f with
  | .ret v => Q (.ret v) s₂
  | .brk => Q .next s₂
  | _ => TurnEnd h₀ L x stored m₀ ps Led Ok own s s₂

section
variable {prog : Program} {w : World} {A : Around} {E : Value → Shared → Prop} {s : Shared} {env : Env} {h₀ : Heap} {x : Str} {body : List Stmt} {Q : Flow → Shared → Prop}
theorem loop_gen {σ : Type} {I : Addr} {fp wr : List Addr} {n : Nat} {P : Nat → Value → Prop} {St : Nat → Heap → Prop} {m₀ : Str → Option Value} (stored : List Str) (ps : σ → List (Str × Value)) (Led : σ → List (Addr × Obj)) (src : List (Addr × Obj)) (Ok : Nat → σ → Prop) (c₀ : σ)
    (W : Walks prog w A I fp wr n P St) (hLf : env.locals ∉ fp) (hwr : ∀ b ∈ wr, h₀.get? b = none) (hlive : ∀ i h, St i h → ∀ b ∈ fp, ∃ o, h.get? b = some o) (hnw : ∀ p ∈ Led c₀, p.1 ∉ fp) (hsw : ∀ p ∈ src, p.1 ∉ wr) (hsf : ∀ p ∈ src, p.1 ∈ fp) (hst : St 0 s.heap)
    (F : Fr h₀ env.locals s.heap m₀) (N : News h₀ env.locals s.heap (Led c₀)) (NS : News h₀ env.locals s.heap src) (hps : ∀ p ∈ ps c₀, m₀ p.1 = some p.2) (h0 : Ok 0 c₀)
    (turn : ∀ i v c (u : Str → Option Value) h tk own, i < n → P i v → Ok i c → OwnOff own ((Led c).map (·.1)) → (∀ p ∈ own, p.1 ∈ fp) → (∀ p ∈ src, p ∈ own) → Fr h₀ env.locals h (fun y => if y = x then some v else kstB (fun z => if stored.contains z then u z else m₀ z) (ps c) y) → News h₀ env.locals h (Led c ++ own) →
      wpAny (model prog w) A (execs body env) (TurnPost h₀ env.locals x stored m₀ ps Led (Ok (i + 1)) own { s with heap := h, toks := tk } Q) E { s with heap := h, toks := tk })
    (done : ∀ c (u : Str → Option Value) h tk, Ok n c → Fr h₀ env.locals h (fun y => if y = x then u y else kstB (fun z => if stored.contains z then u z else m₀ z) (ps c) y) → News h₀ env.locals h (Led c ++ src) → (∀ p ∈ Led c, p.1 ∉ fp) → Q .next { s with heap := h, toks := tk }) :
    LoopAtV prog w A h₀ env x body Q E (.ref I) s := by
  refine ⟨I, fp, wr, n, P, St, m₀, Led c₀ ++ src, (fun i m₁ news₁ => ∃ c, news₁ = Led c ++ src ∧ (∀ p ∈ Led c, p.1 ∉ fp) ∧ (∀ p ∈ ps c, m₁ p.1 = some p.2) ∧ (∀ z, z ≠ x → (∀ p ∈ ps c, z ≠ p.1) → stored.contains z = false → m₁ z = m₀ z) ∧ Ok i c), rfl, W, hLf, hwr,
    fun p hp hb => (List.mem_append.mp hp).elim (fun z => hnw p z (W.sub _ hb)) fun z => hsw p z hb, hst, F, napp N NS, ⟨c₀, rfl, hnw, hps, fun _ _ _ _ => rfl, h0⟩, ?_, ?_⟩
  · rintro i v m₁ news₁ s₁ own ⟨h, tk, rfl⟩ hin hP ⟨c, rfl, hcf, h1, h2, hOk⟩ hoff hown hget hall hst₁ F₁ N₁
    have hsep : OwnOff own ((Led c).map (·.1)) := by
      intro p hp b hb e
      obtain ⟨q, hq, rfl⟩ := List.mem_map.mp hb
      exact hcf q hq (e ▸ hown p hp)
    have hsrc : ∀ p ∈ src, p ∈ own := fun p hp => by
      have := N₁ p (List.mem_append_right _ (List.mem_append_right _ hp))
      exact hall p.1 (hsf p hp) this.2.2 p.2 this.1
    have N₂ : News h₀ env.locals h (Led c ++ own) := fun p hp => N₁ p ((List.mem_append.mp hp).elim (fun h => List.mem_append_right _ (List.mem_append_left _ h)) fun h => List.mem_append_left _ h)
    refine wpAny_mono (turn i v c m₁ h tk own hin hP hOk hsep hown hsrc (kst_fr h1 h2 F₁) N₂) (fun f s₂ p => ?_) fun _ _ e => e
    have fin : TurnEnd h₀ env.locals x stored m₀ ps Led (Ok (i + 1)) own { s with heap := h, toks := tk } s₂ → LoopStepU h₀ env.locals wr own (fun m₁ news₁ => ∃ c, news₁ = Led c ++ src ∧ (∀ p ∈ Led c, p.1 ∉ fp) ∧ (∀ p ∈ ps c, m₁ p.1 = some p.2) ∧ (∀ z, z ≠ x → (∀ p ∈ ps c, z ≠ p.1) → stored.contains z = false → m₁ z = m₀ z) ∧ Ok (i + 1) c) { s with heap := h, toks := tk } .next s₂ := by
      rintro ⟨c', h', tk', m', news', rfl, F', N', hsub, ho, g1, g2, g3⟩
      have off : ∀ p ∈ Led c', p.1 ∉ fp := fun p hp hm => by
        cases hq : h₀.get? p.1 with
        | some o => have := (N' p (hsub p (List.mem_append_left _ hp))).2.2; rw [hq] at this; cases this
        | none =>
          obtain ⟨o, ho'⟩ := hlive _ _ hst₁ p.1 hm
          exact ho (p.1, o) (hall p.1 hm hq o ho') p.1 (List.mem_map.mpr ⟨p, hp, rfl⟩) rfl
      refine ⟨rfl, h', tk', m', Led c' ++ src, rfl, F', fun p hp => N' p (hsub p ((List.mem_append.mp hp).elim (fun z => List.mem_append_right _ z) fun z => (List.mem_append.mp z).elim (fun y => List.mem_append_left _ y) fun y => List.mem_append_right _ (hsrc p y))),
        fun p hp hm => (List.mem_append.mp hp).elim (fun z => off p z (W.sub _ hm)) fun z => hsw p z hm, c', rfl, off, g1, g2, g3⟩
    cases f with
    | ret v => exact .ret p
    | brk => exact .brk p
    | next => exact .next (fin p)
    | cont => exact .cont (fin p)
  · rintro h' tk m' news' F' N' _ ⟨c, rfl, hcf, h1, h2, hOk⟩
    exact done c m' h' tk hOk (kst_frOut h1 h2 F') N' hcf

theorem for_bytes {σ : Type} {b : Array UInt8} {tb : Tok} {m₀ : Str → Option Value} (stored : List Str) (ps : σ → List (Str × Value)) (Led : σ → List (Addr × Obj)) (Ok : Nat → σ → Prop) (c₀ : σ)
    (hh : A.handled = none) (F : Fr h₀ env.locals s.heap m₀) (N : News h₀ env.locals s.heap (Led c₀)) (hps : ∀ p ∈ ps c₀, m₀ p.1 = some p.2) (h0 : Ok 0 c₀)
    (turn : ∀ i (k : UInt8) t c (u : Str → Option Value) h tk own, b[i]? = some k → Ok i c → OwnOff own ((Led c).map (·.1)) → Fr h₀ env.locals h (fun y => if y = x then some (.int (k.toNat : Int) t) else kstB (fun z => if stored.contains z then u z else m₀ z) (ps c) y) → News h₀ env.locals h (Led c ++ own) →
      wpAny (model prog w) A (execs body env) (TurnPost h₀ env.locals x stored m₀ ps Led (Ok (i + 1)) own { s with heap := h, toks := tk } Q) E { s with heap := h, toks := tk })
    (done : ∀ c (u : Str → Option Value) h tk, Ok b.size c → Fr h₀ env.locals h (fun y => if y = x then u y else kstB (fun z => if stored.contains z then u z else m₀ z) (ps c) y) → News h₀ env.locals h (Led c) → Q .next { s with heap := h, toks := tk }) :
    wpAny (model prog w) A (pyIter (.bytes b tb)) (fun it s₂ => LoopAtV prog w A h₀ env x body Q E it s₂) E s := by
  refine KBw.pyIter_bytes ?_
  have W := KBw.walks (prog := prog) (w := w) hh s.heap.objs.size b tb
  refine loop_gen stored ps Led [] Ok c₀ W ?_ ?_ ?_ ?_ (fun _ h => nomatch h) (fun _ h => nomatch h) ⟨_, Heap.get?_push_size _ rfl, rfl, rfl⟩ (F.push _) (fun p hp => ⟨Heap.get?_push_of_some _ (N p hp).1, (N p hp).2⟩) (fun _ h => nomatch h) hps h0 ?_ ?_
  · intro hm
    exact absurd F.ns.lt ((List.mem_singleton.mp hm) ▸ Nat.lt_irrefl _)
  · intro b' hb
    rw [List.mem_singleton.mp hb]
    exact next_is_new F
  · intro i h st b' hb
    rw [List.mem_singleton.mp hb]
    obtain ⟨o, ho, _⟩ := st
    exact ⟨o, ho⟩
  · intro p hp hI
    exact absurd (Heap.lt_size (N p hp).1) ((List.mem_singleton.mp hI) ▸ Nat.lt_irrefl _)
  · rintro i v c u h tk own hi ⟨k, t, hk, rfl⟩ hOk hoff _ _ F₁ N₁
    exact turn i k t c u h tk own hk hOk hoff F₁ N₁
  · intro c u h tk hOk F₁ N₁ _
    exact done c u h tk hOk F₁ (nsub N₁ fun p hp => List.mem_append_left _ hp)

theorem for_range {σ : Type} {r : Addr} {lo hi st : Int} {t1 t2 t3 : Tok} {n : Nat} {m₀ : Str → Option Value} (stored : List Str) (ps : σ → List (Str × Value)) (Led : σ → List (Addr × Obj)) (Ok : Nat → σ → Prop) (c₀ : σ)
    (hh : A.handled = none) (F : Fr h₀ env.locals s.heap m₀) (hr : IsRange s.heap r lo hi st t1 t2 t3) (hsm : Builtin.Range.small lo hi st = true) (hn : Builtin.Range.rangeSize lo hi st = ((n : Nat) : Int)) (N : News h₀ env.locals s.heap (Led c₀)) (hps : ∀ p ∈ ps c₀, m₀ p.1 = some p.2) (h0 : Ok 0 c₀)
    (turn : ∀ i t c (u : Str → Option Value) h tk own, i < n → Ok i c → OwnOff own ((Led c).map (·.1)) → Fr h₀ env.locals h (fun y => if y = x then some (.int (lo + i * st) t) else kstB (fun z => if stored.contains z then u z else m₀ z) (ps c) y) → News h₀ env.locals h (Led c ++ own) →
      wpAny (model prog w) A (execs body env) (TurnPost h₀ env.locals x stored m₀ ps Led (Ok (i + 1)) own { s with heap := h, toks := tk } Q) E { s with heap := h, toks := tk })
    (done : ∀ c (u : Str → Option Value) h tk, Ok n c → Fr h₀ env.locals h (fun y => if y = x then u y else kstB (fun z => if stored.contains z then u z else m₀ z) (ps c) y) → News h₀ env.locals h (Led c) → Q .next { s with heap := h, toks := tk }) :
    wpAny (model prog w) A (pyIter (.ref r)) (fun it s₂ => LoopAtV prog w A h₀ env x body Q E it s₂) E s := by
  refine wpAny_pyIter_range hr hsm ?_
  have W := Walks.range (prog := prog) (w := w) hh s.heap.objs.size lo st n
  refine loop_gen stored ps Led [] Ok c₀ W ?_ ?_ ?_ ?_ (fun _ h => nomatch h) (fun _ h => nomatch h) ?_ (F.push _) (fun p hp => ⟨Heap.get?_push_of_some _ (N p hp).1, (N p hp).2⟩) (fun _ h => nomatch h) hps h0 ?_ ?_
  · intro hm
    exact absurd F.ns.lt ((List.mem_singleton.mp hm) ▸ Nat.lt_irrefl _)
  · intro b' hb
    rw [List.mem_singleton.mp hb]
    exact next_is_new F
  · intro i h st b' hb
    rw [List.mem_singleton.mp hb]
    exact ⟨_, st⟩
  · intro p hp hI
    exact absurd (Heap.lt_size (N p hp).1) ((List.mem_singleton.mp hI) ▸ Nat.lt_irrefl _)
  · show IsRangeIter _ _ _ _ _
    rw [hn]
    simpa using Heap.get?_push_size _ rfl
  · rintro i v c u h tk own hi ⟨t, rfl⟩ hOk hoff _ _ F₁ N₁
    exact turn i t c u h tk own hi hOk hoff F₁ N₁
  · intro c u h tk hOk F₁ N₁ _
    exact done c u h tk hOk F₁ (nsub N₁ fun p hp => List.mem_append_left _ hp)
end

inductive WTurnEnd {σ : Type} (h₀ : Heap) (L : Addr) (stored : List Str) (m₀ : Str → Option Value) (ps : σ → List (Str × Value)) (Led : σ → List (Addr × Obj)) (Ok : σ → Prop) (s s₂ : Shared) : Prop
  | mk (c : σ) (h' : Heap) (tk' : Nat) (m' : Str → Option Value) (news' : List (Addr × Obj)) (e : s₂ = { s with heap := h', toks := tk' }) (F : Fr h₀ L h' m') (N : News h₀ L h' news') (sub : ∀ p ∈ Led c, p ∈ news') (hp : ∀ p ∈ ps c, m' p.1 = some p.2)
    (hz : ∀ z, (∀ p ∈ ps c, z ≠ p.1) → stored.contains z = false → m' z = m₀ z) (ok : Ok c) : WTurnEnd h₀ L stored m₀ ps Led Ok s s₂
noncomputable def WTurnPost {σ : Type} (h₀ : Heap) (L : Addr) (stored : List Str) (m₀ : Str → Option Value) (ps : σ → List (Str × Value)) (Led : σ → List (Addr × Obj)) (Ok : σ → Prop) (s : Shared) (Q : Flow → Shared → Prop) (f : Flow) (s₂ : Shared) : Prop :=
  match f with
  | .ret v => Q (.ret v) s₂
  | .brk => Q .next s₂
  | _ => WTurnEnd h₀ L stored m₀ ps Led Ok s s₂
theorem while_inv {prog : Program} {w : World} {A : Around} {E : Value → Shared → Prop} {s : Shared} {env : Env} {h₀ : Heap} {test : Expr} {body orelse : List Stmt} {Q : Flow → Shared → Prop} {L : Addr} {σ : Type} {m₀ : Str → Option Value}
    (stored : List Str) (ps : σ → List (Str × Value)) (Led : σ → List (Addr × Obj)) (Ok : σ → Prop) (μ : σ → Nat) (c₀ : σ) (hE : PassesOwn (model prog w) A env E)
    (F : Fr h₀ L s.heap m₀) (N : News h₀ L s.heap (Led c₀)) (hps : ∀ p ∈ ps c₀, m₀ p.1 = some p.2) (h0 : Ok c₀)
    (turn : ∀ c (u : Str → Option Value) h tk, Ok c → Fr h₀ L h (fun y => kstB (fun z => if stored.contains z then u z else m₀ z) (ps c) y) → News h₀ L h (Led c) →
      wpAny (model prog w) A (isTrue test env (eval test env)) (fun b s₂ => WhlIf b (wpAny (model prog w) A (execs body env) (WTurnPost h₀ L stored m₀ ps Led (fun c' => Ok c' ∧ μ c' < μ c) { s with heap := h, toks := tk } Q) E s₂) (wpAny (model prog w) A (execs orelse env) Q E s₂)) E { s with heap := h, toks := tk }) :
    WhlRest prog w A E env test body orelse Q 0 s := by
  have key : ∀ n c m₁ h tk, μ c ≤ n → Ok c → Fr h₀ L h m₁ → News h₀ L h (Led c) → (∀ p ∈ ps c, m₁ p.1 = some p.2) → (∀ z, (∀ p ∈ ps c, z ≠ p.1) → stored.contains z = false → m₁ z = m₀ z) →
      WhlRest prog w A E env test body orelse Q 0 { s with heap := h, toks := tk } := by
    intro n
    induction n using Nat.strongRecOn with
    | ind n ih =>
      intro c m₁ h tk hm hOk F₁ N₁ h1 h2
      have F₂ : Fr h₀ L h (fun y => kstB (fun z => if stored.contains z then m₁ z else m₀ z) (ps c) y) := by
        have e : (fun y => kstB (fun z => if stored.contains z then m₁ z else m₀ z) (ps c) y) = m₁ := by
          funext y
          refine kstB_eq h1 fun hy => ?_
          show (if stored.contains y then m₁ y else m₀ y) = m₁ y
          cases hs : stored.contains y
          · simp only [Bool.false_eq_true, if_false]; exact (h2 y hy hs).symm
          · simp
        rw [e]; exact F₁
      show WhlRest prog w A E env test body orelse Q (0 + 1) { s with heap := h, toks := tk }
      refine whl_turn hE (wpAny_mono (turn c m₁ h tk hOk F₂ N₁) (fun b s₂ hb => ?_) fun _ _ e => e)
      cases b
      · exact hb
      · refine WhlIf.yes rfl ?_
        have hb' : wpAny (model prog w) A (execs body env) (WTurnPost h₀ L stored m₀ ps Led (fun c' => Ok c' ∧ μ c' < μ c) { s with heap := h, toks := tk } Q) E s₂ := hb
        refine wpAny_mono hb' (fun f s₃ h₃ => ?_) fun _ _ e => e
        have fin : WTurnEnd h₀ L stored m₀ ps Led (fun c' => Ok c' ∧ μ c' < μ c) { s with heap := h, toks := tk } s₃ → WhlRest prog w A E env test body orelse Q 0 s₃ := by
          rintro ⟨c', h', tk', m', news', rfl, F', N', hsub, g1, g2, g3, g4⟩
          exact ih (μ c') (by omega) c' m' h' tk' (Nat.le_refl _) g3 F' (nsub N' hsub) g1 g2
        cases f with
        | ret v => exact h₃
        | brk => exact h₃
        | next => exact fin h₃
        | cont => exact fin h₃
  exact key (μ c₀) c₀ m₀ s.heap s.toks (Nat.le_refl _) h0 F N hps fun _ _ _ => rfl
end
section
open PySem PySem.W PyProof.Rows
set_option Elab.async false
set_option linter.unusedVariables false
set_option maxRecDepth 100000
set_option genInjectivity false
set_option genSizeOf false

noncomputable def b64tab : List UInt8 := [65, 66, 67, 68, 69, 70, 71, 72, 73, 74, 75, 76, 77, 78, 79, 80, 81, 82, 83, 84, 85, 86, 87, 88, 89, 90, 97, 98, 99, 100, 101, 102, 103, 104, 105, 106, 107, 108, 109, 110, 111, 112, 113, 114, 115, 116, 117, 118, 119, 120, 121, 122, 48, 49, 50, 51, 52, 53, 54, 55, 56, 57, 43, 47]
noncomputable def b64c (i : Int) : Int := ((b64tab.getD i.toNat 0).toNat : Int)
noncomputable def b64v (c : Int) : Int := if 65 ≤ c ∧ c ≤ 90 then c - 65 else if 97 ≤ c ∧ c ≤ 122 then c - 71 else if 48 ≤ c ∧ c ≤ 57 then c + 4 else if c = 43 then 62 else if c = 47 then 63 else 64

theorem b64_all : ∀ i : Fin 64, b64v (b64c i.val) = i.val ∧ b64c i.val ≠ 61 ∧ 43 ≤ b64c i.val ∧ b64c i.val ≤ 122 := by decide +kernel
theorem b64_at {i : Int} (h0 : 0 ≤ i) (h1 : i < 64) : b64v (b64c i) = i ∧ b64c i ≠ 61 ∧ 43 ≤ b64c i ∧ b64c i ≤ 122 := by
  have := b64_all ⟨i.toNat, by omega⟩
  have e : ((i.toNat : Nat) : Int) = i := by omega
  simpa only [e] using this

theorem or_shift {a b : Int} (k : Nat) (ha : 0 ≤ a) (hb : 0 ≤ b) (hlt : b < 2 ^ k) : Builtin.bitOr (a * 2 ^ k) b = a * 2 ^ k + b := by
  obtain ⟨x, rfl⟩ := Int.eq_ofNat_of_zero_le ha
  obtain ⟨y, rfl⟩ := Int.eq_ofNat_of_zero_le hb
  rw [bitOr_and]
  have hm : (0 : Int) ≤ (x : Int) * 2 ^ k := Int.mul_nonneg (by omega) (Int.le_of_lt (kbt_pos k))
  rw [bitAnd_pp hm (by omega)]
  have e : ((x : Int) * 2 ^ k).toNat = x <<< k := by
    rw [Nat.shiftLeft_eq, ← kbt_cast, ← Int.natCast_mul, Int.toNat_natCast]
  have hy : y < 2 ^ k := by have := kbt_cast k; omega
  rw [e, Int.toNat_natCast]
  have z : x <<< k &&& y = 0 := by
    apply Nat.eq_of_testBit_eq
    intro i
    rw [Nat.testBit_and, Nat.testBit_shiftLeft, Nat.zero_testBit]
    by_cases h : k ≤ i
    · rw [Nat.testBit_lt_two_pow (Nat.lt_of_lt_of_le hy (Nat.pow_le_pow_right (by decide) h))]; simp
    · simp [h]
  rw [z]
  simp

noncomputable def encStep (st : Int × Int × List Int) (k : Int) : Int × Int × List Int :=
  if st.1 = 0 then (2, (st.2.1 * 256 + k) % 65536, st.2.2 ++ [b64c ((st.2.1 * 256 + k) % 65536 / 4 % 64)])
  else if st.1 = 2 then (4, (st.2.1 * 256 + k) % 65536, st.2.2 ++ [b64c ((st.2.1 * 256 + k) % 65536 / 16 % 64)])
  else (0, (st.2.1 * 256 + k) % 65536, st.2.2 ++ [b64c ((st.2.1 * 256 + k) % 65536 / 64 % 64), b64c ((st.2.1 * 256 + k) % 65536 % 64)])
noncomputable def encAt (ks : List Int) : Int × Int × List Int := ks.foldl encStep (0, 0, [])
noncomputable def encL (ks : List Int) : List Int :=
  if (encAt ks).1 = 2 then (encAt ks).2.2 ++ [b64c ((encAt ks).2.1 % 4 * 16), 61, 61]
  else if (encAt ks).1 = 4 then (encAt ks).2.2 ++ [b64c ((encAt ks).2.1 % 16 * 4), 61]
  else (encAt ks).2.2
theorem encAt_snoc (ks : List Int) (k : Int) : encAt (ks ++ [k]) = encStep (encAt ks) k := by simp [encAt]

theorem lc_new {lc k : Int} (h0 : 0 ≤ lc) (hk0 : 0 ≤ k) (hk1 : k < 256) : Builtin.bitAnd (Builtin.bitOr (lc * 2 ^ Int.toNat 8) k) 65535 = (lc * 256 + k) % 65536 := by
  rw [show Int.toNat 8 = 8 from rfl, or_shift 8 h0 hk0 (by omega), bitAnd_m16]
  rfl
theorem idx_of {x : Int} (n : Int) (m : Int) (hx : 0 ≤ x) (hm : (2 : Int) ^ n.toNat = m) (hp : 0 < m) : Builtin.bitAnd (x.fdiv (2 ^ n.toNat)) 63 = x / m % 64 := by
  rw [hm, bitAnd_m6, Int.fdiv_eq_ediv_of_nonneg _ (Int.le_of_lt hp)]

structure EncOk (ks : List Int) (lb lc : Int) (outs : List Int) : Prop where
  at_ : encAt ks = (lb, lc, outs)
  lb3 : lb = 0 ∨ lb = 2 ∨ lb = 4
  lc0 : 0 ≤ lc
  lc1 : lc < 65536
  len : 3 * outs.length + (if lb = 0 then 0 else if lb = 2 then 1 else 2) = 4 * ks.length
  all : ∀ y ∈ outs, ∃ j, 0 ≤ j ∧ j < 64 ∧ y = b64c j

theorem EncOk.nil : EncOk [] 0 0 [] := ⟨rfl, .inl rfl, by omega, by omega, by simp, fun _ h => nomatch h⟩
theorem EncOk.s0 {ks : List Int} {lc : Int} {outs : List Int} (o : EncOk ks 0 lc outs) {k : Int} (hk0 : 0 ≤ k) (hk1 : k < 256) :
    EncOk (ks ++ [k]) 2 ((lc * 256 + k) % 65536) (outs ++ [b64c ((lc * 256 + k) % 65536 / 4 % 64)]) := by
  refine ⟨?_, .inr (.inl rfl), by omega, by omega, ?_, ?_⟩
  · rw [encAt_snoc, o.at_]; simp [encStep]
  · have := o.len; simp at this ⊢; omega
  · intro y hy
    rcases List.mem_append.mp hy with hy | hy
    · exact o.all y hy
    · exact ⟨_, by omega, by omega, List.mem_singleton.mp hy⟩
theorem EncOk.s2 {ks : List Int} {lc : Int} {outs : List Int} (o : EncOk ks 2 lc outs) {k : Int} (hk0 : 0 ≤ k) (hk1 : k < 256) :
    EncOk (ks ++ [k]) 4 ((lc * 256 + k) % 65536) (outs ++ [b64c ((lc * 256 + k) % 65536 / 16 % 64)]) := by
  refine ⟨?_, .inr (.inr rfl), by omega, by omega, ?_, ?_⟩
  · rw [encAt_snoc, o.at_]; simp [encStep]
  · have := o.len; simp at this ⊢; omega
  · intro y hy
    rcases List.mem_append.mp hy with hy | hy
    · exact o.all y hy
    · exact ⟨_, by omega, by omega, List.mem_singleton.mp hy⟩
theorem EncOk.s4 {ks : List Int} {lc : Int} {outs : List Int} (o : EncOk ks 4 lc outs) {k : Int} (hk0 : 0 ≤ k) (hk1 : k < 256) :
    EncOk (ks ++ [k]) 0 ((lc * 256 + k) % 65536) (outs ++ [b64c ((lc * 256 + k) % 65536 / 64 % 64), b64c ((lc * 256 + k) % 65536 / 1 % 64)]) := by
  refine ⟨?_, .inl rfl, by omega, by omega, ?_, ?_⟩
  · rw [encAt_snoc, o.at_]; simp [encStep]
  · have := o.len; simp at this ⊢; omega
  · intro y hy
    rcases List.mem_append.mp hy with hy | hy
    · exact o.all y hy
    · rcases List.mem_cons.mp hy with rfl | hy
      · exact ⟨_, by omega, by omega, rfl⟩
      · exact ⟨_, by omega, by omega, List.mem_singleton.mp hy⟩
theorem encL0 {ks : List Int} {lc : Int} {outs : List Int} (o : EncOk ks 0 lc outs) : encL ks = outs := by unfold encL; rw [o.at_]; simp
theorem encL2 {ks : List Int} {lc : Int} {outs : List Int} (o : EncOk ks 2 lc outs) : encL ks = outs ++ [b64c (lc % 4 * 16)] ++ [61] ++ [61] := by unfold encL; rw [o.at_]; simp
theorem encL4 {ks : List Int} {lc : Int} {outs : List Int} (o : EncOk ks 4 lc outs) : encL ks = outs ++ [b64c (lc % 16 * 4)] ++ [61] := by unfold encL; rw [o.at_]; simp
theorem b64_in {j : Int} (h0 : 0 ≤ j) (h1 : j < 64) : 0 ≤ b64c j ∧ b64c j < 256 := by have := b64_at h0 h1; omega
theorem EncOk.in256 {ks : List Int} {lb lc : Int} {outs : List Int} (o : EncOk ks lb lc outs) : ∀ y ∈ outs, 0 ≤ y ∧ y < 256 := fun y hy => by
  obtain ⟨j, h0, h1, rfl⟩ := o.all y hy
  exact b64_in h0 h1

theorem encL_in256 {ks : List Int} {lb lc : Int} {outs : List Int} (o : EncOk ks lb lc outs) : ∀ y ∈ encL ks, 0 ≤ y ∧ y < 256 := by
  intro y hy
  have h0 := o.lc0
  rcases o.lb3 with h | h | h <;> subst h
  · rw [encL0 o] at hy; exact o.in256 y hy
  · rw [encL2 o] at hy
    simp only [List.append_assoc, List.cons_append, List.nil_append, List.mem_append, List.mem_cons, List.not_mem_nil, or_false] at hy
    rcases hy with hy | rfl | rfl | rfl
    · exact o.in256 y hy
    · exact b64_in (by omega) (by omega)
    · omega
    · omega
  · rw [encL4 o] at hy
    simp only [List.append_assoc, List.cons_append, List.nil_append, List.mem_append, List.mem_cons, List.not_mem_nil, or_false] at hy
    rcases hy with hy | rfl | rfl
    · exact o.in256 y hy
    · exact b64_in (by omega) (by omega)
    · omega

theorem encL_len {b : Array UInt8} : ∃ lb lc outs, EncOk (KBw.bInts b) lb lc outs := by
  have key : ∀ (ks pre : List Int), (∀ k ∈ ks, 0 ≤ k ∧ k < 256) → (∃ lb lc outs, EncOk pre lb lc outs) → ∃ lb lc outs, EncOk (pre ++ ks) lb lc outs := by
    intro ks
    induction ks with
    | nil => intro pre _ h; rw [List.append_nil]; exact h
    | cons k ks ih =>
      rintro pre h ⟨lb, lc, outs, o⟩
      have hk := h k (by simp)
      have := ih (pre ++ [k]) (fun k' hk' => h k' (List.mem_cons_of_mem _ hk')) (by
        rcases o.lb3 with e | e | e <;> subst e
        · exact ⟨_, _, _, o.s0 hk.1 hk.2⟩
        · exact ⟨_, _, _, o.s2 hk.1 hk.2⟩
        · exact ⟨_, _, _, o.s4 hk.1 hk.2⟩)
      simpa using this
  simpa using key (KBw.bInts b) [] (fun k hk => KBw.ints_in hk) ⟨_, _, _, EncOk.nil⟩
theorem encL_size {b : Array UInt8} : (encL (KBw.bInts b)).length ≤ 2 * b.size + 4 := by
  obtain ⟨lb, lc, outs, o⟩ := encL_len (b := b)
  have h1 := o.len
  rw [KBw.ints_length] at h1
  rcases o.lb3 with e | e | e <;> subst e
  · rw [encL0 o]; simp at h1; omega
  · rw [encL2 o]; simp at h1 ⊢; omega
  · rw [encL4 o]; simp at h1 ⊢; omega
theorem encA_size {b : Array UInt8} (hb : b.size ≤ 4096) : (byteArr (encL (KBw.bInts b))).size ≤ sizeLine := by
  rw [byteArr_size, sizeLine_eq]
  have := encL_size (b := b)
  omega

theorem encL_out {ks : List Int} {lb lc : Int} {outs : List Int} (o : EncOk ks lb lc outs) : ∃ os pad, encL ks = os ++ pad ∧ (∀ y ∈ os, ∃ j, 0 ≤ j ∧ j < 64 ∧ y = b64c j) ∧ (∀ y ∈ pad, y = 61) ∧ os.length = (4 * ks.length + 2) / 3 := by
  have h0 := o.lc0
  have h1 := o.len
  rcases o.lb3 with h | h | h <;> subst h
  · refine ⟨outs, [], by rw [encL0 o, List.append_nil], o.all, by simp, ?_⟩
    simp at h1; omega
  · refine ⟨outs ++ [b64c (lc % 4 * 16)], [61, 61], by rw [encL2 o, List.append_assoc]; rfl, ?_, by simp, ?_⟩
    · intro y hy
      rcases List.mem_append.mp hy with hy | hy
      · exact o.all y hy
      · exact ⟨_, by omega, by omega, List.mem_singleton.mp hy⟩
    · simp at h1 ⊢; omega
  · refine ⟨outs ++ [b64c (lc % 16 * 4)], [61], by rw [encL4 o], ?_, by simp, ?_⟩
    · intro y hy
      rcases List.mem_append.mp hy with hy | hy
      · exact o.all y hy
      · exact ⟨_, by omega, by omega, List.mem_singleton.mp hy⟩
    · simp at h1 ⊢; omega

theorem u8_of {y : Int} (h0 : 0 ≤ y) (h1 : y < 256) : (y.toNat.toUInt8).toNat = y.toNat := by
  rw [Nat.toUInt8_eq, UInt8.toNat_ofNat']
  exact Nat.mod_eq_of_lt (by omega)
theorem encA_mem {b : Array UInt8} {c : UInt8} (h : c ∈ byteArr (encL (KBw.bInts b))) : ∃ y ∈ encL (KBw.bInts b), c.toNat = y.toNat ∧ 43 ≤ y ∧ y ≤ 122 := by
  obtain ⟨lb, lc, outs, o⟩ := encL_len (b := b)
  obtain ⟨os, pad, e, h1, h2, _⟩ := encL_out o
  unfold byteArr at h
  rw [List.mem_toArray] at h
  obtain ⟨y, hy, rfl⟩ := List.mem_map.mp h
  have hr : 43 ≤ y ∧ y ≤ 122 := by
    rw [e] at hy
    rcases List.mem_append.mp hy with hy | hy
    · obtain ⟨j, j0, j1, rfl⟩ := h1 y hy
      have := b64_at j0 j1
      omega
    · rw [h2 y hy]; omega
  exact ⟨y, hy, u8_of (by omega) (by omega), hr⟩
theorem encA_ascii (b : Array UInt8) : AsciiB (byteArr (encL (KBw.bInts b))) := fun c hc => by
  obtain ⟨y, _, e, h⟩ := encA_mem hc
  omega
theorem encA_nz {b : Array UInt8} (hb : b.size ≠ 0) : (byteArr (encL (KBw.bInts b))).size ≠ 0 := by
  obtain ⟨lb, lc, outs, o⟩ := encL_len (b := b)
  obtain ⟨os, pad, e, _, _, h3⟩ := encL_out o
  rw [byteArr_size, e, List.length_append, h3, KBw.ints_length]
  omega

noncomputable def bare (b : Array UInt8) : Str := Txt.replace (ofB (byteArr (encL (KBw.bInts b)))) (Str.ofString "=") (Str.ofString "")
theorem bare_cps (b : Array UInt8) : (bare b).cps.toList = (ofB (byteArr (encL (KBw.bInts b)))).cps.toList.filter (· ≠ 61) := replace_filter _ 61
theorem bare_ascii (b : Array UInt8) : Ascii (bare b) := by
  intro c hc
  have hc' : c ∈ (bare b).cps.toList := Array.mem_toList_iff.mpr hc
  rw [bare_cps] at hc'
  have h1 := (List.mem_filter.mp hc').1
  simp only [ofB, Array.toList_map, List.mem_map] at h1
  obtain ⟨k, hk, rfl⟩ := h1
  exact encA_ascii b k (Array.mem_toList_iff.mp hk)
theorem bare_length (b : Array UInt8) : (bare b).length = (4 * b.size + 2) / 3 := by
  obtain ⟨lb, lc, outs, o⟩ := encL_len (b := b)
  obtain ⟨os, pad, e, h1, h2, h3⟩ := encL_out o
  have e1 : (ofB (byteArr (encL (KBw.bInts b)))).cps.toList = (encL (KBw.bInts b)).map Int.toNat := by
    simp only [ofB, byteArr, Array.toList_map, List.map_map]
    refine List.map_congr_left fun y hy => ?_
    have := encL_in256 o y hy
    exact u8_of this.1 this.2
  show (bare b).cps.size = _
  rw [← Array.length_toList, bare_cps, e1, e, List.map_append, List.filter_append, List.length_append]
  have ha : (os.map Int.toNat).filter (· ≠ 61) = os.map Int.toNat := List.filter_eq_self.mpr fun a ha => by
    obtain ⟨y, hy, rfl⟩ := List.mem_map.mp ha
    obtain ⟨j, j0, j1, rfl⟩ := h1 y hy
    have := b64_at j0 j1
    simp only [ne_eq, decide_not, Bool.not_eq_eq_eq_not, Bool.not_true, decide_eq_false_iff_not]
    omega
  have hp : (pad.map Int.toNat).filter (· ≠ 61) = [] := List.filter_eq_nil_iff.mpr fun a ha => by
    obtain ⟨y, hy, rfl⟩ := List.mem_map.mp ha
    rw [h2 y hy]; decide
  rw [ha, hp, List.length_map, h3, KBw.ints_length]
  simp
end
section
local macro_rules | `(tactic| k_mem) => `(tactic| ((repeat (first | exact mm0 | exact mm1 | exact mm2 | exact mm3 | refine mm4 ?_)); done))
local macro_rules | `(tactic| o_head 36) => `(tactic| repeat' (first | (k_unfold; (try dsimp only)) | (k_end; kc_close) | ((with_reducible show wpAny _ _ (execs (_ :: _) _) _ _ _); (try k_fold); walk1) | walk1 | (dsimp only; walk1) | (leave1; walk_say "STEP leave1"; (try dsimp only)) | fail "no step"))
local macro_rules | `(tactic| o_head ($t, $n:num, 0, 0)) => `(tactic| (apply $t; exact rfl; exact rfl; assumption; (iterate $n k_asm); o_head 34; (repeat (first | exact rfl | exact locs rfl | decide +kernel)); k_whole))
local macro_rules | `(tactic| walk_at "eval Name") => `(tactic| (k_here; k_dflt (refine' nmL ?F ?v ?_ ?a ?b; (case F => k_asm); (case a => rfl); (case b => exact rfl); (case v => exact rfl); k_whole)))
local macro_rules | `(tactic| o_head 34) => `(tactic| (k_is; k_is; ktr_room; (first | exact BindsTo.of_eq rfl | exact binds_K (by k_in) rfl (by k_is) rfl rfl rfl); (first | exact (rfl : _ = [(_, _)]) | exact (rfl : _ = [(_, _), (_, _)]) | exact (rfl : _ = [(_, _), (_, _), (_, _)]) | exact rfl)))
local macro_rules | `(tactic| o_head 32) => `(tactic| first | assumption | omega | (simp only [toB_size, hexB_length, sizeLine_eq]; omega))
local macro_rules | `(tactic| o_head ($a, $b, $t)) => `(tactic| (k_here; (with_reducible show wpAny _ _ (call (Value.ref $a) $b _) _ _ _); k_dflt (apply $t; k_asm; k_asm; k_asm; k_asm; k_asm; (first | exact rfl | assumption); ktr_room; ktr_units; (repeat (first | assumption | o_head 35)); intros; (try dsimp only); (try k_sweep))))
local macro_rules | `(tactic| o_head 35) => `(tactic| ((first | with_reducible show _ ≤ _ | with_reducible show _ < _ | with_reducible show _ ≠ _); omega))
local macro_rules | `(tactic| o_head ($a)) => `(tactic| (k_here; (with_reducible show wpAny _ _ (call (Value.ref $a) _ _) _ _ _); refine Stop.mk ?_))
local macro_rules | `(tactic| o_head [$p]) => `(tactic| (k_here; (with_reducible show wpAny _ _ $p _ _ _); refine Stop.mk ?_))
local macro_rules | `(tactic| k_ne) => `(tactic| (refine neN ?_; (try dsimp only); with_reducible (first | assumption | (refine Nat.ne_of_lt ?_; assumption) | (refine Nat.ne_of_gt ?_; assumption) | (refine ne_c1 ‹_› ?_; o_head 10) | (refine ne_c2 ‹_› ?_; o_head 10) | (refine ne_c3 ‹_› ?_; o_head 10) | (refine ne_c4 ‹_› ?_; o_head 10))))
local macro_rules | `(tactic| ktr_room) => `(tactic| first | exact room1 ‹_› | ktr_units)
local macro_rules | `(tactic| ktr_units) => `(tactic| first | exact room2 ‹_› (by decide) | exact room3 ‹_› (by decide) | exact room4 ‹_› (by decide) | decide)
local macro_rules | `(tactic| k_room) => `(tactic| ktr_room)
local macro_rules | `(tactic| k_units) => `(tactic| ktr_units)
local macro_rules | `(tactic| ktr_enter) => `(tactic| (o_head (enterF (args := ⟨_, _⟩), 6, 0, 0); intros; (try dsimp only); (try k_fold)))
local macro_rules | `(tactic| size_fits) => `(tactic| ((simp only [List.size_toArray, Array.size_push, List.length_append, List.length_cons, List.length_nil, sizeLine_eq]); omega))
local macro_rules | `(tactic| walk_at "call type:type") => `(tactic| (k_here; with_reducible refine call_type_bytes ?_))
local macro_rules | `(tactic| o_head {$a, $b}) => `(tactic| with_reducible refine method_bytes $a $b ?_)
local macro_rules | `(tactic| walk_at "getMethod bytes") => `(tactic| (k_here; first | o_head {slot_bytes_translate, type_bytes_translate} | o_head {slot_bytes_upper, type_bytes_upper} | o_head {FB.slot_bytes_hex, FB.type_bytes_hex} | o_head {FB.slot_bytes_decode, FB.type_bytes_decode}))
local macro_rules | `(tactic| walk_at "getMethod type:bytes") => `(tactic| (k_here; k_dflt (apply method_maketrans; k_asm; k_asm)))
local macro_rules | `(tactic| walk_at "getMethod str") => `(tactic| (k_here; with_reducible refine method_encode ?_))
local macro_rules | `(tactic| walk_at "call builtin:bytes.maketrans") => `(tactic| (k_here; refine call_maketrans (by first | assumption | (simp; omega)) ?_; intro t' k'))
local macro_rules | `(tactic| walk_at "call builtin:bytes.translate") => `(tactic| (k_here; refine call_translate (by first | assumption | exact transTab_size _ _) (by o_head 32) ?_; intros))
local macro_rules | `(tactic| walk_at "call builtin:bytes.upper") => `(tactic| (k_here; refine call_upper (by o_head 32) ?_; intros))
local macro_rules | `(tactic| walk_at "call builtin:bytes.hex") => `(tactic| (k_here; refine call_hex (by o_head 32) ?_; intros))
local macro_rules | `(tactic| walk_at "call builtin:str.encode") => `(tactic| (k_here; refine call_encode (by first | assumption | exact hexB_ascii _) (by o_head 32) ?_; intros))
local macro_rules | `(tactic| walk_at "call builtin:bytes.decode") => `(tactic| (k_here; refine call_decode ‹_› (by o_head 32) (by o_head 32) ?_; intros))
local macro_rules | `(tactic| walk_at "call builtin:str.replace") => `(tactic| (k_here; k_dflt (refine call_replace (by k_ne) (by k_ne) (by k_ne) (by decide +kernel) ‹_› ?_); intros))
open PySem PySem.W PyProof.Rows
set_option Elab.async false
set_option linter.unusedVariables false
set_option pp.deepTerms false
set_option pp.deepTerms.threshold 6
set_option pp.proofs false
set_option maxRecDepth 100000
set_option compiler.extract_closed false
set_option rowWalk.seconds 0
set_option genInjectivity false
set_option genSizeOf false
local macro_rules | `(tactic| o_head 40) => `(tactic| first | assumption | (have h := nk0 ‹_›; exact h) | (have h := nk1 ‹_›; exact h) | (have h := nk2 ‹_›; exact h) | (have h := nk3 ‹_›; exact h) | exact nst ‹_› (by decide))
local macro_rules | `(tactic| o_head 37) => `(tactic| (intros; ((repeat (refine (if_neg (by o_head 40)).trans ?_)); (repeat (refine Eq.trans ?_ (if_neg (by o_head 40)).symm)); (first | with_reducible exact rfl | exact frz ‹_› | (refine frk ?_; exact frz ‹_›) | exact rfl))))

theorem pow_t2 : (2 : Int) ^ Int.toNat 2 = 4 := rfl
theorem pow_t4 : (2 : Int) ^ Int.toNat 4 = 16 := rfl
theorem sub_b64 {prog : Program} {w : World} {A : Around} {E : Value → Shared → Prop} {s : Shared} {value slice : Expr} {i : Int} {t u : Tok} {Q : Value → Shared → Prop} (h0 : 0 ≤ i) (h1 : i < 64) (h : ∀ t' k, Q (.int (b64c i) t') { s with toks := k })
    (hs : subscripted slice false (.bytes b64tab.toArray t) (.int i u) = operate [.bytes b64tab.toArray t, .int i u] (getItem (.bytes b64tab.toArray t) (.int i u)) := by with_unfolding_all rfl) :
    wpAny (model prog w) A (subscriptTail value slice (.bytes b64tab.toArray t) (.int i u)) Q E s :=
  tail_any (typeIs_bytes _ _ _) FB.slot_bytes_getitem.lookup (getItem_bytes (by decide) h0 (by show i < 64; exact h1) (h _ _)) hs
local macro_rules | `(tactic| walk_at "binaryOp LShift int int") => `(tactic| (k_here; k_dflt (apply lshift_int_small; omega; omega; ((try simp only [bitAnd_m2, bitAnd_m4, bitAnd_m6]); omega))))
local macro_rules | `(tactic| o_head 55) => `(tactic| (simp only [bitAnd_m2, bitAnd_m4, bitAnd_m6, pow_t2, pow_t4]; omega))
local macro_rules | `(tactic| walk_at "subscriptTail") => `(tactic| (k_here; (with_reducible show wpAny _ _ (subscriptTail _ _ (Value.bytes _ _) _) _ _ _); k_dflt (refine sub_b64 (by o_head 55) (by o_head 55) ?_ (by with_unfolding_all rfl); intros)))

structure B2a where
  lb : Int
  lc : Int
  t1 : Tok
  t2 : Tok
  vs : List Value
  n : Nat
  outs : List Int
section
variable {w : World} {p : Program} {loose : List Str} {mean : ExcName → Option Value} {mg mb : Str → Option Value}
   {dp un : Nat} {gd : Option (List Code)} {cn : Str} {cs : Scope} {a : Addr} {ccd : Value} {cl : List (Str × Addr)} {outer : List Env} {A₀ : Around} {base h₀ : Heap} {L : Addr} {m : Str → Option Value} {rest : List (Addr × Obj)} {s : Shared}
   {Q E : Value → Shared → Prop}
   (B : Below A₀ base outer h₀) (F : Fr h₀ L s.heap m) (X : (hd.heap_1 w.params).In h₀) (N : News h₀ L s.heap rest) (T : Top p loose mean mg mb h₀) (hk : cs.kind = .function)
include B F X N T hk


set_option maxHeartbeats 4000000 in
theorem c_buffer {b : Array UInt8} {t : Tok} (hd' : dp + 1 < recursionLimit) (hu : un + 8 < cLine)
    (hret : ∀ h' tk', Fr h₀ L h' m → News h₀ L h' rest → Q (.bytes b t) { s with heap := h', toks := tk' }) :
    wpAny (model PySem.Challenge.rw_qh0051_01.row.prog w) (ktrTop dp un gd cn cs L a ccd cl outer) (call (.ref 98) [.bytes b t]) Q E s := by
  revert X; k_fill; intro X
  have N0 : News h₀ L s.heap ([] ++ rest) := N
  have O0 := off_nil rest
  k_dflt ktr_enter
  k_steps
  exact ⟨_, _, [], by k_asm, by k_asm, fun kF kN _ => hret _ _ kF kN⟩

set_option maxHeartbeats 4000000 in
theorem c_truth {b : Bool} (hd' : dp + 1 < recursionLimit) (hu : un + 8 < cLine)
    (hret : ∀ h' tk', Fr h₀ L h' m → News h₀ L h' rest → Q (.bool b) { s with heap := h', toks := tk' }) :
    wpAny (model PySem.Challenge.rw_qh0051_01.row.prog w) (ktrTop dp un gd cn cs L a ccd cl outer) (call (.ref 105) [.bool b]) Q E s := by
  revert X; k_fill; intro X
  have N0 : News h₀ L s.heap ([] ++ rest) := N
  have O0 := off_nil rest
  cases b
  all_goals k_dflt ktr_enter
  all_goals k_steps
  all_goals exact ⟨_, _, [], by k_asm, by k_asm, fun kF kN _ => hret _ _ kF kN⟩
omit B F X N T hk
local macro_rules | `(tactic| walk_at "call ref") => `(tactic| o_head (98, _, c_buffer))
local macro_rules | `(tactic| walk_at "call ref") => `(tactic| o_head (105, _, c_truth))

include B F X N T hk
set_option maxHeartbeats 4000000 in
theorem c_b2a {b : Array UInt8} {t : Tok} (hd' : dp + 2 < recursionLimit) (hu : un + 16 < cLine) (hb : b.size ≤ 4096)
    (hret : ∀ h' tk' t', Fr h₀ L h' m → News h₀ L h' rest → Q (.bytes (byteArr (encL (KBw.bInts b))) t') { s with heap := h', toks := tk' }) :
    wpAny (model PySem.Challenge.rw_qh0051_01.row.prog w) (ktrTop dp un gd cn cs L a ccd cl outer) (call (.ref 128) [.bytes b t] [(Str.ofString "newline", .bool false)]) Q E s := by
  revert X; k_fill; intro X
  have N0 : News h₀ L s.heap ([] ++ rest) := N
  have O0 := off_nil rest
  k_dflt ktr_enter
  k_steps
  rename_i lo _ _ _ _ _ _ _
  refine' for_bytes [] (fun c : B2a => [(Str.ofString "leftchar", .int c.lc c.t1), (Str.ofString "leftbits", .int c.lb c.t2)]) (fun c => [(lo, W.listOf c.vs.toArray c.n)]) (fun i c => EncOk ((KBw.bInts b).take i) c.lb c.lc c.outs ∧ IntsAre c.vs c.outs) ⟨0, 0, ?t1, ?t2, [], 0, []⟩ rfl (by k_asm) (by k_asm) ?hps ?h0 ?turn ?done
  case hps => kst_all
  case h0 => exact ⟨EncOk.nil, .nil⟩
  case turn =>
    intro i k t p9x1 u h tk own hk p9x2 hoff F' N'
    (try k_fold)
    obtain ⟨lb, lc, t1, t2, vs, n, outs⟩ := p9x1
    obtain ⟨ho, hI⟩ := p9x2
    dsimp only at ho hI hoff F' N'
    have hi : i < b.size := (Array.getElem?_eq_some_iff.mp hk).1
    have hk0 : (0 : Int) ≤ (k.toNat : Int) := Int.natCast_nonneg _
    have hk1 : (k.toNat : Int) < 256 := by have := k.toNat_lt; omega
    have hsn : (KBw.bInts b).take (i + 1) = (KBw.bInts b).take i ++ [(k.toNat : Int)] := by
      rw [List.take_add_one, KBw.ints_get hk]; rfl
    have hlc0 := ho.lc0
    have hlc1 := ho.lc1
    have hvs : vs.length ≤ 2 * 4096 := by
      have h1 := ho.len
      have h2 := hI.length
      have h3 : ((KBw.bInts b).take i).length ≤ b.size := by rw [List.length_take, KBw.ints_length]; omega
      split at h1 <;> (try split at h1) <;> omega
    have hnew := lc_new hlc0 hk0 hk1
    dsimp only [List.cons_append, List.nil_append] at N'
    rcases ho.lb3 with h | h | h <;> subst h
    · k_steps
      exact ⟨⟨2, _, _, _, vs ++ [_], _, outs ++ [b64c ((lc * 256 + (k.toNat : Int)) % 65536 / 4 % 64)]⟩, _, _, _, _, rfl, by k_asm, by k_asm,
        (by first | exact lp1 | exact fun p hp => hp | (simp only [List.push_toArray, List.append_assoc, List.cons_append, List.nil_append]; exact fun p hp => hp)), hoff, (by kst_all),
        (by
          o_head 37),
        (by
          dsimp only
          rw [hsn, hnew, idx_of _ 4 (by omega) rfl (by decide)]
          exact ⟨ho.s0 hk0 hk1, hI.append (.cons _ _ .nil)⟩)⟩
    · k_steps
      exact ⟨⟨4, _, _, _, vs ++ [_], _, outs ++ [b64c ((lc * 256 + (k.toNat : Int)) % 65536 / 16 % 64)]⟩, _, _, _, _, rfl, by k_asm, by k_asm,
        (by first | exact lp1 | exact fun p hp => hp | (simp only [List.push_toArray, List.append_assoc, List.cons_append, List.nil_append]; exact fun p hp => hp)), hoff, (by kst_all),
        (by
          o_head 37),
        (by
          dsimp only
          rw [hsn, hnew, idx_of _ 16 (by omega) rfl (by decide)]
          exact ⟨ho.s2 hk0 hk1, hI.append (.cons _ _ .nil)⟩)⟩
    · k_steps
      exact ⟨⟨0, _, _, _, vs ++ [_, _], _, outs ++ [b64c ((lc * 256 + (k.toNat : Int)) % 65536 / 64 % 64), b64c ((lc * 256 + (k.toNat : Int)) % 65536 / 1 % 64)]⟩, _, _, _, _, rfl, by k_asm, by k_asm,
        (by first | exact lp1 | exact fun p hp => hp | (simp only [List.push_toArray, List.append_assoc, List.cons_append, List.nil_append]; exact fun p hp => hp)), hoff, (by kst_all),
        (by
          o_head 37),
        (by
          dsimp only
          rw [hsn, hnew, idx_of _ 64 (by omega) rfl (by decide), idx_of _ 1 (by omega) rfl (by decide)]
          exact ⟨ho.s4 hk0 hk1, hI.append (.cons _ _ (.cons _ _ .nil))⟩)⟩
  case done =>
    intro p9x3 u h tk p9x4 F' N'
    (try k_fold)
    obtain ⟨lb, lc, t1, t2, vs, n, outs⟩ := p9x3
    obtain ⟨ho, hI⟩ := p9x4
    dsimp only at ho hI F' N'
    rw [show b.size = (KBw.bInts b).length from (KBw.ints_length b).symm, List.take_length] at ho
    have hlc0 := ho.lc0
    have hlc1 := ho.lc1
    have h3 := ho.len
    have h4 := hI.length
    have hvs : vs.length ≤ 2 * 4096 := by
      rw [KBw.ints_length] at h3
      split at h3 <;> (try split at h3) <;> omega
    rcases ho.lb3 with h | h | h <;> subst h
    · k_steps
      have e := encL0 ho
      exact call_bytes_ints (vs := vs ++ []) (ns := encL (KBw.bInts b)) (by rw [List.append_nil]; exact News.isList (by k_asm) (.head _)) (by rw [e]; rw [List.append_nil]; exact hI) (encL_in256 ho) (by simp only [List.length_append, List.length_cons, List.length_nil, sizeLine_eq]; omega) rfl
        (fun h' t' k' hkp => ⟨_, _, [], Fr.keeps (by k_asm) hkp, News.nil, fun kF kN _ => hret h' k' t' kF kN⟩)
    · k_steps
      have e := encL2 ho
      exact call_bytes_ints (vs := vs ++ [_, _, _]) (ns := encL (KBw.bInts b)) (News.isList (nsub (by k_asm) (by first | exact lp1 | exact fun p hp => hp | (simp only [List.push_toArray, List.append_assoc, List.cons_append, List.nil_append]; exact fun p hp => hp))) (.head _)) (by rw [e]; simp only [bitAnd_m2, pow_t4, List.append_assoc, List.cons_append, List.nil_append]; exact hI.append (.cons _ _ (.cons _ _ (.cons _ _ .nil)))) (encL_in256 ho) (by simp only [List.length_append, List.length_cons, List.length_nil, sizeLine_eq]; omega) rfl
        (fun h' t' k' hkp => ⟨_, _, [], Fr.keeps (by k_asm) hkp, News.nil, fun kF kN _ => hret h' k' t' kF kN⟩)
    · k_steps
      have e := encL4 ho
      exact call_bytes_ints (vs := vs ++ [_, _]) (ns := encL (KBw.bInts b)) (News.isList (nsub (by k_asm) (by first | exact lp1 | exact fun p hp => hp | (simp only [List.push_toArray, List.append_assoc, List.cons_append, List.nil_append]; exact fun p hp => hp))) (.head _)) (by rw [e]; simp only [bitAnd_m4, pow_t2, List.append_assoc, List.cons_append, List.nil_append]; exact hI.append (.cons _ _ (.cons _ _ .nil))) (encL_in256 ho) (by simp only [List.length_append, List.length_cons, List.length_nil, sizeLine_eq]; omega) rfl
        (fun h' t' k' hkp => ⟨_, _, [], Fr.keeps (by k_asm) hkp, News.nil, fun kF kN _ => hret h' k' t' kF kN⟩)
end
local macro_rules | `(tactic| walk_at "pyIter ref") => `(tactic| (k_here; refine Stop.mk ?_))
local macro_rules | `(tactic| walk_at "pyIter bytes") => `(tactic| (k_here; refine Stop.mk ?_))
local macro_rules | `(tactic| walk_at "pyIter str") => `(tactic| (k_here; refine Stop.mk ?_))
section
section
open PySem PySem.W PyProof.Rows
set_option Elab.async false
set_option linter.unusedVariables false
set_option linter.unusedSimpArgs false
set_option linter.unusedSectionVars false
set_option pp.deepTerms false
set_option pp.deepTerms.threshold 6
set_option pp.proofs false
set_option maxRecDepth 100000
set_option compiler.extract_closed false
set_option rowWalk.seconds 0
set_option genInjectivity false
set_option genSizeOf false
local macro_rules | `(tactic| walk_at "call ref") => `(tactic| o_head (128, _, c_b2a))
section
variable {w : World} {p : Program} {loose : List Str} {mean : ExcName → Option Value} {mg mb : Str → Option Value}
   {dp un : Nat} {gd : Option (List Code)} {cn : Str} {cs : Scope} {a : Addr} {ccd : Value} {cl : List (Str × Addr)} {outer : List Env} {A₀ : Around} {base h₀ : Heap} {L : Addr} {m : Str → Option Value} {rest : List (Addr × Obj)} {s : Shared}
   {Q E : Value → Shared → Prop}
   (B : Below A₀ base outer h₀) (F : Fr h₀ L s.heap m) (X : (hd.heap_1 w.params).In h₀) (N : News h₀ L s.heap rest) (T : Top p loose mean mg mb h₀) (hk : cs.kind = .function)
include B F X N T hk
set_option maxHeartbeats 4000000 in
theorem c_enc1 {b : Array UInt8} {t : Tok} (hd' : dp + 3 < recursionLimit) (hu : un + 24 < cLine) (hb : b.size ≤ 4096)
    (hret : ∀ h' tk' t', Fr h₀ L h' m → News h₀ L h' rest → Q (.bytes (byteArr (encL (KBw.bInts b))) t') { s with heap := h', toks := tk' }) :
    wpAny (model PySem.Challenge.rw_qh0051_01.row.prog w) (ktrTop dp un gd cn cs L a ccd cl outer) (call (.ref 145) [.bytes b t]) Q E s := by
  revert X; k_fill; intro X
  have N0 : News h₀ L s.heap ([] ++ rest) := N
  have O0 := off_nil rest
  k_dflt ktr_enter
  k_steps
  exact ⟨_, _, [], by k_asm, by k_asm, fun kF kN _ => hret _ _ _ kF kN⟩
set_option maxHeartbeats 4000000 in
theorem c_enc2 {b g : Array UInt8} {t u : Tok} (hd' : dp + 3 < recursionLimit) (hu : un + 24 < cLine) (hb : b.size ≤ 4096) (hg : g.size = 2)
    (hret : ∀ h' tk' t', Fr h₀ L h' m → News h₀ L h' rest → Q (.bytes (trans (transTab #[43, 47] g) (byteArr (encL (KBw.bInts b)))) t') { s with heap := h', toks := tk' }) :
    wpAny (model PySem.Challenge.rw_qh0051_01.row.prog w) (ktrTop dp un gd cn cs L a ccd cl outer) (call (.ref 145) [.bytes b t, .bytes g u]) Q E s := by
  revert X; k_fill; intro X
  have N0 : News h₀ L s.heap ([] ++ rest) := N
  have O0 := off_nil rest
  have hsz := encA_size hb
  have hfg : (#[43, 47] : Array UInt8).size = g.size := hg.symm
  k_dflt ktr_enter
  k_steps
  · exact ⟨_, _, [], by k_asm, by k_asm, fun kF kN _ => hret _ _ _ kF kN⟩
  · exfalso; omega
set_option maxHeartbeats 4000000 in
theorem c_hex {b : Array UInt8} {t : Tok} (hd' : dp + 2 < recursionLimit) (hu : un + 16 < cLine) (hb : b.size ≤ 4096)
    (hret : ∀ h' tk' t', Fr h₀ L h' m → News h₀ L h' rest → Q (.bytes (toB (hexB b)) t') { s with heap := h', toks := tk' }) :
    wpAny (model PySem.Challenge.rw_qh0051_01.row.prog w) (ktrTop dp un gd cn cs L a ccd cl outer) (call (.ref 137) [.bytes b t]) Q E s := by
  revert X; k_fill; intro X
  have N0 : News h₀ L s.heap ([] ++ rest) := N
  have O0 := off_nil rest
  k_dflt ktr_enter
  k_steps
  exact ⟨_, _, [], by k_asm, by k_asm, fun kF kN _ => hret _ _ _ kF kN⟩
omit B F X N T hk
local macro_rules | `(tactic| walk_at "call ref") => `(tactic| o_head (137, _, c_hex))
include B F X N T hk
set_option maxHeartbeats 4000000 in
theorem c_b16 {b : Array UInt8} {t : Tok} (hd' : dp + 3 < recursionLimit) (hu : un + 24 < cLine) (hb : b.size ≤ 4096)
    (hret : ∀ h' tk' t', Fr h₀ L h' m → News h₀ L h' rest → Q (.bytes (upB (toB (hexB b))) t') { s with heap := h', toks := tk' }) :
    wpAny (model PySem.Challenge.rw_qh0051_01.row.prog w) (ktrTop dp un gd cn cs L a ccd cl outer) (call (.ref 160) [.bytes b t]) Q E s := by
  revert X; k_fill; intro X
  have N0 : News h₀ L s.heap ([] ++ rest) := N
  have O0 := off_nil rest
  k_dflt ktr_enter
  k_steps
  exact ⟨_, _, [], by k_asm, by k_asm, fun kF kN _ => hret _ _ _ kF kN⟩
omit B F X N T hk
local macro_rules | `(tactic| walk_at "call ref") => `(tactic| o_head (160, _, c_b16))
local macro_rules | `(tactic| walk_at "call ref") => `(tactic| o_head (145, [_], c_enc1))
include B F X N T hk
set_option maxHeartbeats 4000000 in
theorem c_longer2 {b : Array UInt8} {t u : Tok} (hd' : dp + 4 < recursionLimit) (hu : un + 32 < cLine) (hb : b.size ≤ 4096)
    (hret : ∀ h' tk' t' b', b'.size = 2 * b.size → Fr h₀ L h' m → News h₀ L h' rest → Q (.bytes b' t') { s with heap := h', toks := tk' }) :
    wpAny (model PySem.Challenge.rw_qh0051_01.row.prog w) (ktrTop dp un gd cn cs L a ccd cl outer) (call (.ref 186) [.bytes b t, .int 2 u]) Q E s := by
  revert X; k_fill; intro X
  have N0 : News h₀ L s.heap ([] ++ rest) := N
  have O0 := off_nil rest
  k_dflt ktr_enter
  k_steps
  exact ⟨_, _, [], by k_asm, by k_asm, fun kF kN _ => hret _ _ _ _ (by rw [upB_size, toB_size, hexB_length]) kF kN⟩
set_option maxHeartbeats 4000000 in
theorem c_longer4 {b : Array UInt8} {t u : Tok} (hd' : dp + 4 < recursionLimit) (hu : un + 32 < cLine) (hb : b.size ≤ 4096) (hb0 : b.size ≠ 0)
    (hret : ∀ h' tk' t' b', b'.size = (4 * b.size + 2) / 3 → Fr h₀ L h' m → News h₀ L h' rest → Q (.bytes b' t') { s with heap := h', toks := tk' }) :
    wpAny (model PySem.Challenge.rw_qh0051_01.row.prog w) (ktrTop dp un gd cn cs L a ccd cl outer) (call (.ref 186) [.bytes b t, .int 4 u]) Q E s := by
  revert X; k_fill; intro X
  have N0 : News h₀ L s.heap ([] ++ rest) := N
  have O0 := off_nil rest
  have hsz := encA_size hb
  have hasc := encA_ascii b
  have hnz := encA_nz hb0
  have hbl : (ofB (byteArr (encL (KBw.bInts b)))).length + ((ofB (byteArr (encL (KBw.bInts b)))).length + 1) * (Str.ofString "").length ≤ 16777216 := by
    rw [ofB_length, show (Str.ofString "").length = 0 from rfl]
    rw [sizeLine_eq] at hsz
    omega
  have hba : Ascii (Txt.replace (ofB (byteArr (encL (KBw.bInts b)))) (Str.ofString "=") (Str.ofString "")) := bare_ascii b
  have hbz : (Txt.replace (ofB (byteArr (encL (KBw.bInts b)))) (Str.ofString "=") (Str.ofString "")).length ≤ sizeLine := by
    show (bare b).length ≤ sizeLine
    rw [bare_length, sizeLine_eq]; omega
  k_dflt ktr_enter
  k_steps
  exact ⟨_, _, [], by k_asm, by k_asm, fun kF kN _ => hret _ _ _ _ (by rw [toB_size]; exact bare_length b) kF kN⟩
end
end
section
open PySem PySem.W PyProof.Rows
set_option Elab.async false
set_option linter.unusedVariables false
set_option linter.unusedSimpArgs false
set_option linter.unusedSectionVars false
set_option pp.deepTerms false
set_option pp.deepTerms.threshold 6
set_option pp.proofs false
set_option maxRecDepth 100000
set_option compiler.extract_closed false
set_option rowWalk.seconds 0
set_option genInjectivity false
set_option genSizeOf false
local macro_rules | `(tactic| walk_at "exec While") => `(tactic| (k_here; refine whl_start 0 ?_))
local macro_rules | `(tactic| walk_at "exec While Compare") => `(tactic| (k_here; refine whl_start 0 ?_))
local macro_rules | `(tactic| walk_at "exec While Compare cons nil") => `(tactic| (k_here; refine whl_start 0 ?_))
local macro_rules | `(tactic| walk_at "WhlRest") => `(tactic| (k_here; refine Stop.mk ?_))

noncomputable def longer (e n : Nat) : Nat := if e = 2 then 2 * n else (4 * n + 2) / 3
noncomputable def growN (e lim : Nat) : Nat → Nat → Nat
  | 0, n => n
  | f + 1, n => if n ≤ lim then growN e lim f (longer e n) else n
noncomputable def toldAt (e c l : Nat) : Int := ((e * c : Nat) : Int) - ((growN e ((e - 1) * c) ((e - 1) * c + 1) (e * l + 1) : Nat) : Int)
noncomputable def told (e c : Nat) : List Int := (List.range c).map fun i => toldAt e c (c - 1 - i)
theorem growN_stop {e lim f n : Nat} (h : ¬ n ≤ lim) : growN e lim f n = n := by
  cases f with
  | zero => rfl
  | succ f => unfold growN; rw [if_neg h]
theorem growN_step {e lim f n : Nat} (h : n ≤ lim) : growN e lim (f + 1) n = growN e lim f (longer e n) := by
  show (if n ≤ lim then _ else _) = _
  rw [if_pos h]
theorem longer_facts {e n : Nat} (he : e = 2 ∨ e = 4) (h1 : 1 ≤ n) (h2 : n ≤ 36) : n < longer e n ∧ longer e n ≤ 100 := by
  unfold longer
  rcases he with rfl | rfl
  · rw [if_pos rfl]; exact ⟨by omega, by omega⟩
  · rw [if_neg (by decide)]; exact ⟨by omega, by omega⟩
theorem told_take {e c i : Nat} (h : i < c) : (told e c).take (i + 1) = (told e c).take i ++ [toldAt e c (c - 1 - i)] := by
  rw [List.take_add_one]
  congr 1
  simp [told, h]
theorem told_all (e c : Nat) : (told e c).take c = told e c := List.take_of_length_le (by simp [told])
theorem down_small {c : Nat} (h : c ≤ 12) : Builtin.Range.small ((c : Int) - 1) (-1) (-1) = true := small_down (by omega) (by omega) (by omega) (by omega)
theorem down_size {c : Nat} : Builtin.Range.rangeSize ((c : Int) - 1) (-1) (-1) = ((c : Nat) : Int) := by
  unfold Builtin.Range.rangeSize
  rw [if_neg (by decide)]
  split
  · rw [show (-(-1) : Int) = 1 from rfl, Int.ediv_one]; omega
  · omega
theorem fill_size {o : Int} {n : Nat} : (byteArr (List.replicate n [o]).flatten).size = n := by
  rw [byteArr_size]
  simp
section
variable {w : World} {p : Program} {loose : List Str} {mean : ExcName → Option Value} {mg mb : Str → Option Value}
   {dp un : Nat} {gd : Option (List Code)} {cn : Str} {cs : Scope} {a : Addr} {ccd : Value} {cl : List (Str × Addr)} {outer : List Env} {A₀ : Around} {base h₀ : Heap} {L : Addr} {m : Str → Option Value} {rest : List (Addr × Obj)} {s : Shared}
   {Q E : Value → Shared → Prop}
   (B : Below A₀ base outer h₀) (F : Fr h₀ L s.heap m) (X : (hd.heap_1 w.params).In h₀) (N : News h₀ L s.heap rest) (T : Top p loose mean mg mb h₀) (hk : cs.kind = .function)
include B F X N T hk
theorem c_longerE {e : Nat} {b : Array UInt8} {t u : Tok} (hd' : dp + 4 < recursionLimit) (hu : un + 32 < cLine) (he : e = 2 ∨ e = 4) (hb : b.size ≤ 4096) (hb0 : b.size ≠ 0)
    (hret : ∀ h' tk' t' b', b'.size = longer e b.size → Fr h₀ L h' m → News h₀ L h' rest → Q (.bytes b' t') { s with heap := h', toks := tk' }) :
    wpAny (model PySem.Challenge.rw_qh0051_01.row.prog w) (ktrTop dp un gd cn cs L a ccd cl outer) (call (.ref 186) [.bytes b t, .int (e : Int) u]) Q E s := by
  rcases he with rfl | rfl
  · exact c_longer2 B F X N T hk hd' hu hb hret
  · exact c_longer4 B F X N T hk hd' hu hb hb0 hret
omit B F X N T hk
local macro_rules | `(tactic| walk_at "call ref") => `(tactic| o_head (186, _, c_longerE))
include B F X N T hk
set_option maxHeartbeats 4000000 in
theorem c_toldE {e c : Nat} {o : Int} {t1 t2 t3 : Tok} (hd' : dp + 5 < recursionLimit) (hu : un + 40 < cLine) (he : e = 2 ∨ e = 4) (hc : c ≤ 12) (ho0 : 0 ≤ o) (ho1 : o < 256)
    (hret : ∀ h' tk' q vs n, Fr h₀ L h' m → IntsAre vs (told e c) → News h₀ L h' ((q, W.listOf vs.toArray n) :: rest) → (∀ p ∈ rest, p.1 ≠ q) → Q (.ref q) { s with heap := h', toks := tk' }) :
    wpAny (model PySem.Challenge.rw_qh0051_01.row.prog w) (ktrTop dp un gd cn cs L a ccd cl outer) (call (.ref 193) [.int (c : Int) t1, .int (e : Int) t2, .int o t3]) Q E s := by
  have he4 : e ≤ 4 := by rcases he with rfl | rfl <;> decide
  have he1 : 1 ≤ e := by rcases he with rfl | rfl <;> decide
  revert X; k_fill; intro X
  have N0 : News h₀ L s.heap ([] ++ rest) := N
  have O0 := off_nil rest
  k_dflt ktr_enter
  k_steps
  rename_i lo _ _ _ _ _ _ _ _ _ _ hR _ _ _
  refine Stop.out ?_
  refine' for_range [Str.ofString "row"] (fun c : List Value × Nat => []) (fun c => [(lo, W.listOf c.1.toArray c.2)]) (fun i d => IntsAre d.1 ((told e c).take i)) ([], 0) rfl (by k_asm) hR (down_small hc) (n := c) down_size (by k_asm) ?hps .nil ?turn ?done
  case hps => kst_all
  case turn =>
    intro i t p9x5 u h tk own hi hI hoff F' N'
    (try k_fold)
    obtain ⟨vs, n⟩ := p9x5
    dsimp only at hI hoff F' N'
    obtain ⟨l, hl, e0⟩ : ∃ l : Nat, l = c - 1 - i ∧ ((c : Int) - 1 + (i : Int) * (-1)) = (l : Int) := ⟨_, rfl, by omega⟩
    obtain ⟨el, hel, hel2⟩ : ∃ el : Nat, el = e * l ∧ (e : Int) * (l : Int) = (el : Int) := ⟨_, rfl, (Int.natCast_mul e l).symm⟩
    have hel3 : el ≤ 44 := by rw [hel]; rcases he with rfl | rfl <;> omega
    obtain ⟨lim, hlm, hlm2⟩ : ∃ lim : Nat, lim = (e - 1) * c ∧ ((e : Int) - 1) * (c : Int) = (lim : Int) := ⟨_, rfl, by rcases he with rfl | rfl <;> omega⟩
    have hlm3 : lim ≤ 36 := by rw [hlm]; rcases he with rfl | rfl <;> omega
    obtain ⟨ec, hec, hec2⟩ : ∃ ec : Nat, ec = e * c ∧ (e : Int) * (c : Int) = (ec : Int) := ⟨_, rfl, (Int.natCast_mul e c).symm⟩
    have hec3 : ec ≤ 48 := by rw [hec]; rcases he with rfl | rfl <;> omega
    have hvs : vs.length ≤ 12 := by rw [hI.length, List.length_take]; simp [told]; omega
    rw [e0] at F'
    dsimp only [List.cons_append, List.nil_append] at N'
    k_steps
    rename_i i1 n1 s1 e1 e2 e3 l1
    refine call_bytes_ints (News.isList (by k_asm) (by k_mem)) i1 ?_ ?_ rfl fun h9 t9 k9 keep9 => ?_
    · intro n hn
      simp only [List.mem_flatten, List.mem_replicate] at hn
      obtain ⟨x, ⟨_, rfl⟩, hn⟩ := hn
      rw [List.mem_singleton.mp hn]
      exact ⟨ho0, ho1⟩
    · rw [List.size_toArray] at s1; rw [s1, sizeLine_eq]; omega
    have F9 := Fr.keeps (by k_asm) keep9
    have N9 := nsub (l' := (lo, W.listOf vs.toArray n) :: own) (News.grown (by k_asm) keep9) (fun p hp => by simp only [List.mem_cons] at hp ⊢; exact .inr (.inr hp))
    have hsz : (byteArr (List.replicate ((e : Int) * (l : Int) + 1).toNat [o]).flatten).size = el + 1 := by rw [fill_size]; omega
    generalize byteArr (List.replicate ((e : Int) * (l : Int) + 1).toNat [o]).flatten = b9 at hsz ⊢
    clear keep9 i1 s1 e1 e2 e3 l1
    dsimp only
    k_steps
    refine Stop.out ?_
    refine' while_inv [] (fun c : Array UInt8 × Tok => [(Str.ofString "row", .bytes c.1 c.2)]) (fun _ => (lo, W.listOf vs.toArray n) :: own)
      (fun d => (d.1.size ≤ 100 ∧ 1 ≤ d.1.size) ∧ ∃ f, lim + 1 ≤ f + d.1.size ∧ growN e lim f d.1.size = growN e lim (lim + 1) (el + 1)) (fun d => lim + 1 - d.1.size) (b9, t9) ?hE ?hF ?hN ?hps2 ⟨?hz, lim + 1, ?hz2, ?hz3⟩ ?wturn
    case hE => passes_own
    case hF => k_asm
    case hN => k_asm
    case hps2 => kst_all
    case hz => dsimp only; omega
    case hz2 => dsimp only; omega
    case hz3 => dsimp only; rw [hsz]
    intro p9x6 u2 h2 tk2 p9x7 F2 N2
    (try k_fold)
    obtain ⟨b, tb⟩ := p9x6
    obtain ⟨⟨hb1, hb2⟩, f, hf, hg⟩ := p9x7
    dsimp only at hb1 hb2 hf hg F2 N2
    by_cases hle : b.size ≤ lim
    · obtain ⟨f', rfl⟩ : ∃ f', f = f' + 1 := ⟨f - 1, by omega⟩
      rw [growN_step hle] at hg
      have hb9 : b.size ≠ 0 := Nat.ne_of_gt hb2
      obtain ⟨hq1, hq2⟩ := longer_facts he hb2 (Nat.le_trans hle hlm3)
      k_steps
      refine WhlIf.yes (decide_eq_true (by omega)) ?_
      (try dsimp only)
      k_steps
      exact ⟨(_, _), _, _, _, _, rfl, by k_asm, by k_asm, (fun p hp => hp), (by kst_all),
        (by
          o_head 37),
        ⟨⟨by dsimp only; rw [show Array.size _ = longer e b.size from by assumption]; exact hq2, by dsimp only; rw [show Array.size _ = longer e b.size from by assumption]; exact Nat.lt_of_le_of_lt (Nat.zero_le _) hq1⟩, f', by dsimp only; rw [show Array.size _ = longer e b.size from by assumption]; exact Nat.le_trans hf (by rw [Nat.add_right_comm]; exact Nat.add_le_add_left hq1 f'), by dsimp only; rw [show Array.size _ = longer e b.size from by assumption]; exact hg⟩, by dsimp only; rw [show Array.size _ = longer e b.size from by assumption]; exact Nat.sub_lt_sub_left (Nat.lt_succ_of_le hle) hq1⟩
    · rw [growN_stop hle] at hg
      k_steps
      refine WhlIf.no (decide_eq_false (by omega)) ?_
      (try dsimp only)
      k_steps
      exact ⟨(vs ++ [_], _), _, _, _, _, rfl, by k_asm, by k_asm, (by first | exact lp1 | exact fun p hp => hp | (simp only [List.push_toArray, List.append_assoc, List.cons_append, List.nil_append]; exact fun p hp => hp)), hoff, (by kst_all),
        (by
          (intros; rename_i h2 h3; (try simp only [List.forall_mem_cons, List.not_mem_nil, false_implies, implies_true, and_true, ne_eq] at h2); (try simp only [List.contains_cons, List.contains_nil, Bool.or_false, Bool.or_eq_false_iff, beq_eq_false_iff_ne, ne_eq] at h3); simp [kstB, *])),
        (by
          dsimp only
          rw [told_take hi]
          refine hI.append ?_
          have e2 : toldAt e c (c - 1 - i) = (e : Int) * (c : Int) - (b.size : Int) := by
            unfold toldAt
            rw [← hl, ← hlm, ← hel, ← hg, hec2, ← hec]
          rw [e2]
          exact .cons _ _ .nil)⟩
  case done =>
    intro p9x8 u h tk hI F' N'
    (try k_fold)
    obtain ⟨vs, n⟩ := p9x8
    dsimp only at hI F' N'
    rw [told_all] at hI
    k_steps
    exact ⟨_, _, [(lo, W.listOf vs.toArray n)], by k_asm, by k_asm, fun kF kN off => hret _ _ lo vs n kF hI kN (fun p hp => off _ (.head _) p hp)⟩
set_option maxHeartbeats 4000000 in
theorem c_told2 {c : Nat} {o : Int} {t1 t2 t3 : Tok} (hd' : dp + 5 < recursionLimit) (hu : un + 40 < cLine) (hc : c ≤ 12) (ho0 : 0 ≤ o) (ho1 : o < 256)
    (hret : ∀ h' tk' q vs n, Fr h₀ L h' m → IntsAre vs (told 2 c) → News h₀ L h' ((q, W.listOf vs.toArray n) :: rest) → (∀ p ∈ rest, p.1 ≠ q) → Q (.ref q) { s with heap := h', toks := tk' }) :
    wpAny (model PySem.Challenge.rw_qh0051_01.row.prog w) (ktrTop dp un gd cn cs L a ccd cl outer) (call (.ref 193) [.int (c : Int) t1, .int 2 t2, .int o t3]) Q E s := c_toldE (e := 2) B F X N T hk hd' hu (.inl rfl) hc ho0 ho1 hret
theorem c_told4 {c : Nat} {o : Int} {t1 t2 t3 : Tok} (hd' : dp + 5 < recursionLimit) (hu : un + 40 < cLine) (hc : c ≤ 12) (ho0 : 0 ≤ o) (ho1 : o < 256)
    (hret : ∀ h' tk' q vs n, Fr h₀ L h' m → IntsAre vs (told 4 c) → News h₀ L h' ((q, W.listOf vs.toArray n) :: rest) → (∀ p ∈ rest, p.1 ≠ q) → Q (.ref q) { s with heap := h', toks := tk' }) :
    wpAny (model PySem.Challenge.rw_qh0051_01.row.prog w) (ktrTop dp un gd cn cs L a ccd cl outer) (call (.ref 193) [.int (c : Int) t1, .int 4 t2, .int o t3]) Q E s := c_toldE (e := 4) B F X N T hk hd' hu (.inr rfl) hc ho0 ho1 hret
end
end
section
open PySem PySem.W PyProof.Rows
set_option Elab.async false
set_option linter.unusedVariables false
set_option linter.unusedSimpArgs false
set_option linter.unusedSectionVars false
set_option pp.deepTerms false
set_option pp.deepTerms.threshold 6
set_option pp.proofs false
set_option maxRecDepth 100000
set_option compiler.extract_closed false
set_option rowWalk.seconds 0
set_option genInjectivity false
set_option genSizeOf false
structure A2b where
  qp : Int
  lc : Int
  pd : Int
  ii : Int
  t1 : Tok
  t2 : Tok
  t3 : Tok
  t4 : Tok
  vs : List Value
  n : Nat
noncomputable def A2bOk (i0 i1 i2 : Int) (i : Nat) (c : A2b) : Prop := match i with
  | 0 => c.qp = 0 ∧ c.lc = 0 ∧ c.pd = 0 ∧ c.vs = []
  | 1 => c.qp = 1 ∧ c.lc = i0 ∧ c.pd = 0 ∧ c.vs = []
  | 2 => c.qp = 2 ∧ c.lc = i1 % 16 ∧ c.pd = 0 ∧ ∃ t, c.vs = [.int (i0 * 4 + i1 / 16) t]
  | 3 => c.qp = 3 ∧ c.lc = i2 % 4 ∧ c.pd = 0 ∧ ∃ t t', c.vs = [.int (i0 * 4 + i1 / 16) t, .int (i1 % 16 * 16 + i2 / 4) t']
  | _ => c.qp = 3 ∧ c.lc = i2 % 4 ∧ c.pd = 1 ∧ ∃ t t', c.vs = [.int (i0 * 4 + i1 / 16) t, .int (i1 % 16 * 16 + i2 / 4) t']
theorem pow_t4x : (2 : Int) ^ Int.toNat 4 = 2 ^ 4 := rfl
theorem pow_t2x : (2 : Int) ^ Int.toNat 2 = 2 ^ 2 := rfl
theorem fdiv_t4 (x : Int) : x.fdiv (2 ^ Int.toNat 4) = x / 16 := by rw [pow_t4, Int.fdiv_eq_ediv_of_nonneg _ (by decide)]
theorem fdiv_t2 (x : Int) : x.fdiv (2 ^ Int.toNat 2) = x / 4 := by rw [pow_t2, Int.fdiv_eq_ediv_of_nonneg _ (by decide)]
theorem ret_int {Q : Value → Shared → Prop} {x y : Int} {t : Tok} {s : Shared} (h : Q (.int x t) s) (e : x = y) : Q (.int y t) s := e ▸ h
section
variable {w : World} {p : Program} {loose : List Str} {mean : ExcName → Option Value} {mg mb : Str → Option Value}
   {dp un : Nat} {gd : Option (List Code)} {cn : Str} {cs : Scope} {a : Addr} {ccd : Value} {cl : List (Str × Addr)} {outer : List Env} {A₀ : Around} {base h₀ : Heap} {L : Addr} {m : Str → Option Value} {rest : List (Addr × Obj)} {s : Shared}
   {Q E : Value → Shared → Prop}
   (B : Below A₀ base outer h₀) (F : Fr h₀ L s.heap m) (X : (hd.heap_1 w.params).In h₀) (N : News h₀ L s.heap rest) (T : Top p loose mean mg mb h₀) (hk : cs.kind = .function)
include B F X N T hk
set_option maxHeartbeats 4000000 in
theorem c_b64v {c v : Int} {t : Tok} (hd' : dp + 1 < recursionLimit) (hu : un + 8 < cLine) (hv : b64v c = v)
    (hret : ∀ h' tk' t', Fr h₀ L h' m → News h₀ L h' rest → Q (.int v t') { s with heap := h', toks := tk' }) :
    wpAny (model PySem.Challenge.rw_qh0051_01.row.prog w) (ktrTop dp un gd cn cs L a ccd cl outer) (call (.ref 112) [.int c t]) Q E s := by
  subst hv
  revert X; k_fill; intro X
  have N0 : News h₀ L s.heap ([] ++ rest) := N
  have O0 := off_nil rest
  k_dflt ktr_enter
  k_steps
  all_goals exact ⟨_, _, [], by k_asm, by k_asm, fun kF kN _ => ret_int (hret _ _ _ kF kN) (by unfold b64v; (first | rw [if_pos (c := 65 ≤ c ∧ c ≤ 90) ⟨‹_›, ‹_›⟩] | rw [if_neg (c := 65 ≤ c ∧ c ≤ 90) fun h => absurd h.1 ‹_›] | rw [if_neg (c := 65 ≤ c ∧ c ≤ 90) fun h => absurd h.2 ‹_›] | rw [if_neg (c := 65 ≤ c ∧ c ≤ 90) fun h => by omega]); (try (first | rw [if_pos (c := 97 ≤ c ∧ c ≤ 122) ⟨‹_›, ‹_›⟩] | rw [if_neg (c := 97 ≤ c ∧ c ≤ 122) fun h => absurd h.1 ‹_›] | rw [if_neg (c := 97 ≤ c ∧ c ≤ 122) fun h => absurd h.2 ‹_›] | rw [if_neg (c := 97 ≤ c ∧ c ≤ 122) fun h => by omega])); (try (first | rw [if_pos (c := 48 ≤ c ∧ c ≤ 57) ⟨‹_›, ‹_›⟩] | rw [if_neg (c := 48 ≤ c ∧ c ≤ 57) fun h => absurd h.1 ‹_›] | rw [if_neg (c := 48 ≤ c ∧ c ≤ 57) fun h => absurd h.2 ‹_›] | rw [if_neg (c := 48 ≤ c ∧ c ≤ 57) fun h => by omega])); (try (first | rw [if_pos (c := c = 43) ‹_›] | rw [if_neg (c := c = 43) ‹_›])); (try (first | rw [if_pos (c := c = 47) ‹_›] | rw [if_neg (c := c = 47) ‹_›])); (try rfl))⟩
set_option maxHeartbeats 4000000 in
theorem c_asc {b : Array UInt8} {t : Tok} (hd' : dp + 1 < recursionLimit) (hu : un + 8 < cLine)
    (hret : ∀ h' tk', Fr h₀ L h' m → News h₀ L h' rest → Q (.bytes b t) { s with heap := h', toks := tk' }) :
    wpAny (model PySem.Challenge.rw_qh0051_01.row.prog w) (ktrTop dp un gd cn cs L a ccd cl outer) (call (.ref 91) [.bytes b t]) Q E s := by
  revert X; k_fill; intro X
  have N0 : News h₀ L s.heap ([] ++ rest) := N
  have O0 := off_nil rest
  k_dflt ktr_enter
  k_steps
  exact ⟨_, _, [], by k_asm, by k_asm, fun kF kN _ => hret _ _ kF kN⟩
set_option maxHeartbeats 4000000 in
theorem c_bfb {b : Array UInt8} {t : Tok} (hd' : dp + 1 < recursionLimit) (hu : un + 8 < cLine)
    (hret : ∀ h' tk', Fr h₀ L h' m → News h₀ L h' rest → Q (.bytes b t) { s with heap := h', toks := tk' }) :
    wpAny (model PySem.Challenge.rw_qh0051_01.row.prog w) (ktrTop dp un gd cn cs L a ccd cl outer) (call (.ref 71) [.bytes b t]) Q E s := by
  revert X; k_fill; intro X
  have N0 : News h₀ L s.heap ([] ++ rest) := N
  have O0 := off_nil rest
  k_dflt ktr_enter
  k_steps
  exact ⟨_, _, [], by k_asm, by k_asm, fun kF kN _ => hret _ _ kF kN⟩
set_option maxHeartbeats 4000000 in
theorem c_bfs {x : Str} {t : Tok} (hd' : dp + 1 < recursionLimit) (hu : un + 8 < cLine) (hx : Ascii x) (hz : x.length ≤ sizeLine)
    (hret : ∀ h' tk' t', Fr h₀ L h' m → News h₀ L h' rest → Q (.bytes (toB x) t') { s with heap := h', toks := tk' }) :
    wpAny (model PySem.Challenge.rw_qh0051_01.row.prog w) (ktrTop dp un gd cn cs L a ccd cl outer) (call (.ref 71) [.str x t]) Q E s := by
  revert X; k_fill; intro X
  have N0 : News h₀ L s.heap ([] ++ rest) := N
  have O0 := off_nil rest
  k_dflt ktr_enter
  k_steps
  exact ⟨_, _, [], by k_asm, by k_asm, fun kF kN _ => hret _ _ _ kF kN⟩
omit B F X N T hk
local macro_rules | `(tactic| walk_at "call ref") => `(tactic| o_head (112, _, c_b64v))
local macro_rules | `(tactic| walk_at "call ref") => `(tactic| o_head (91, _, c_asc))
local macro_rules | `(tactic| walk_at "call ref") => `(tactic| o_head (71, [.bytes _ _], c_bfb))
local macro_rules | `(tactic| walk_at "call ref") => `(tactic| o_head (71, [.str _ _], c_bfs))
include B F X N T hk
set_option maxHeartbeats 4000000 in
theorem c_a2b {b : Array UInt8} {x0 x1 x2 : UInt8} {i0 i1 i2 : Int} {t : Tok} (hd' : dp + 2 < recursionLimit) (hu : un + 16 < cLine) (hb : b = #[x0, x1, x2, 61])
    (h0 : b64v (x0.toNat : Int) = i0 ∧ (x0.toNat : Int) ≠ 61 ∧ 0 ≤ i0 ∧ i0 < 64) (h1 : b64v (x1.toNat : Int) = i1 ∧ (x1.toNat : Int) ≠ 61 ∧ 0 ≤ i1 ∧ i1 < 64) (h2 : b64v (x2.toNat : Int) = i2 ∧ (x2.toNat : Int) ≠ 61 ∧ 0 ≤ i2 ∧ i2 < 64)
    (hret : ∀ h' tk' t', Fr h₀ L h' m → News h₀ L h' rest → Q (.bytes (byteArr [i0 * 4 + i1 / 16, i1 % 16 * 16 + i2 / 4]) t') { s with heap := h', toks := tk' }) :
    wpAny (model PySem.Challenge.rw_qh0051_01.row.prog w) (ktrTop dp un gd cn cs L a ccd cl outer) (call (.ref 120) [.bytes b t] [(Str.ofString "strict_mode", .bool false)]) Q E s := by
  subst hb
  revert X; k_fill; intro X
  have N0 : News h₀ L s.heap ([] ++ rest) := N
  have O0 := off_nil rest
  obtain ⟨a0, b0, c0, d0⟩ := h0
  obtain ⟨a1, b1, c1, d1⟩ := h1
  obtain ⟨a2, b2, c2, d2⟩ := h2
  k_dflt ktr_enter
  k_steps
  (try refine Stop.out ?_)
  rename_i lo _ _ _ _ _ _ _ _ _
  refine' for_bytes [] (fun c : A2b => [(Str.ofString "quad_pos", .int c.qp c.t1), (Str.ofString "leftchar", .int c.lc c.t2), (Str.ofString "pads", .int c.pd c.t3), (Str.ofString "i", .int c.ii c.t4)]) (fun c => [(lo, W.listOf c.vs.toArray c.n)]) (A2bOk i0 i1 i2) ⟨0, 0, 0, 0, _, _, _, _, [], 0⟩ rfl (by k_asm) (by k_asm) (by kst_all) ⟨rfl, rfl, rfl, rfl⟩ ?turn ?done
  case turn =>
    intro i k t p9x9 u h tk own hk hOk hoff F' N'
    (try k_fold)
    obtain ⟨qp, lc, pd, ii, t1, t2, t3, t4, vs, n⟩ := p9x9
    dsimp only at hoff F' N'
    dsimp only [List.cons_append, List.nil_append] at N'
    rcases i with _ | _ | _ | _ | i
    · obtain rfl : x0 = k := by simpa using hk
      obtain ⟨h1, h2, h3, h4⟩ := hOk
      dsimp only at h1 h2 h3 h4
      subst h1 h2 h3 h4
      k_steps
      all_goals first
        | (exfalso; omega)
        | exact ⟨⟨1, _, 0, _, _, _, _, _, [], _⟩, _, _, _, _, rfl, by k_asm, by k_asm, (by first | exact lp1 | exact fun p hp => hp | (simp only [List.push_toArray, List.append_assoc, List.cons_append, List.nil_append]; exact fun p hp => hp)), hoff, (by kst_all),
        (by
          o_head 37), ⟨rfl, rfl, rfl, rfl⟩⟩
    · obtain rfl : x1 = k := by simpa using hk
      obtain ⟨h1, h2, h3, h4⟩ := hOk
      dsimp only at h1 h2 h3 h4
      subst h1 h2 h3 h4
      have q1 := or_shift 2 c0 (show 0 ≤ i1 / 16 by omega) (show i1 / 16 < 2 ^ 2 by omega)
      k_steps
      all_goals first
        | (exfalso; omega)
        | exact ⟨⟨2, _, 0, _, _, _, _, _, [_], _⟩, _, _, _, _, rfl, by k_asm, by k_asm, (by first | exact lp1 | exact fun p hp => hp | (simp only [List.push_toArray, List.append_assoc, List.cons_append, List.nil_append]; exact fun p hp => hp)), hoff, (by kst_all),
        (by
          o_head 37), ⟨rfl, bitAnd_m4 _, rfl, _, by rw [pow_t2x, fdiv_t4, q1]; rfl⟩⟩
    · obtain rfl : x2 = k := by simpa using hk
      obtain ⟨h1, h2, h3, tv, h4⟩ := hOk
      dsimp only at h1 h2 h3 h4
      subst h1 h2 h3 h4
      have q1 := or_shift 4 (show 0 ≤ i1 % 16 by omega) (show 0 ≤ i2 / 4 by omega) (show i2 / 4 < 2 ^ 4 by omega)
      k_steps
      all_goals first
        | (exfalso; omega)
        | exact ⟨⟨3, _, 0, _, _, _, _, _, [_, _], _⟩, _, _, _, _, rfl, by k_asm, by k_asm, (by first | exact lp1 | exact fun p hp => hp | (simp only [List.push_toArray, List.append_assoc, List.cons_append, List.nil_append]; exact fun p hp => hp)), hoff, (by kst_all),
        (by
          o_head 37), ⟨rfl, bitAnd_m2 _, rfl, _, _, by rw [pow_t4x, fdiv_t2, q1]; rfl⟩⟩
    · obtain rfl : (61 : UInt8) = k := by simpa using hk
      obtain ⟨h1, h2, h3, tv, tv', h4⟩ := hOk
      dsimp only at h1 h2 h3 h4
      subst h1 h2 h3 h4
      k_steps
      all_goals first
        | (exfalso; omega)
        | exact ⟨⟨3, _, 1, _, _, _, _, _, [_, _], _⟩, _, _, _, _, rfl, by k_asm, by k_asm, (by first | exact lp1 | exact fun p hp => hp | (simp only [List.push_toArray, List.append_assoc, List.cons_append, List.nil_append]; exact fun p hp => hp)), hoff, (by kst_all),
        (by
          o_head 37), ⟨rfl, rfl, rfl, _, _, rfl⟩⟩
    · simp at hk
  case done =>
    intro p9x10 u h tk hOk F' N'
    (try k_fold)
    obtain ⟨qp, lc, pd, ii, t1, t2, t3, t4, vs, n⟩ := p9x10
    obtain ⟨h1, h2, h3, tv, tv', h4⟩ := (hOk : A2bOk i0 i1 i2 4 _)
    dsimp only at F' N' h1 h2 h3 h4
    subst h1 h2 h3 h4
    k_steps
    exact ⟨_, _, [], by k_asm, (fun _ h => nomatch h), fun kF kN _ => hret _ _ _ kF kN⟩
omit B F X N T hk
local macro_rules | `(tactic| walk_at "call ref") => `(tactic| o_head (120))
include B F X N T hk
set_option maxHeartbeats 4000000 in
theorem c_dec {x : Str} {g : Array UInt8} {x0 x1 x2 : UInt8} {i0 i1 i2 : Int} {t u : Tok} (hd' : dp + 3 < recursionLimit) (hu : un + 24 < cLine) (hx : Ascii x) (hz : x.length ≤ sizeLine) (hg : g.size = 2)
    (hb : trans (transTab g #[43, 47]) (toB x) = #[x0, x1, x2, 61])
    (h0 : b64v (x0.toNat : Int) = i0 ∧ (x0.toNat : Int) ≠ 61 ∧ 0 ≤ i0 ∧ i0 < 64) (h1 : b64v (x1.toNat : Int) = i1 ∧ (x1.toNat : Int) ≠ 61 ∧ 0 ≤ i1 ∧ i1 < 64) (h2 : b64v (x2.toNat : Int) = i2 ∧ (x2.toNat : Int) ≠ 61 ∧ 0 ≤ i2 ∧ i2 < 64)
    (hret : ∀ h' tk' t', Fr h₀ L h' m → News h₀ L h' rest → Q (.bytes (byteArr [i0 * 4 + i1 / 16, i1 % 16 * 16 + i2 / 4]) t') { s with heap := h', toks := tk' }) :
    wpAny (model PySem.Challenge.rw_qh0051_01.row.prog w) (ktrTop dp un gd cn cs L a ccd cl outer) (call (.ref 153) [.str x t, .bytes g u]) Q E s := by
  revert X; k_fill; intro X
  have N0 : News h₀ L s.heap ([] ++ rest) := N
  have O0 := off_nil rest
  have hsz : (toB x).size ≤ sizeLine := by rw [toB_size]; exact hz
  have hfg : g.size = (#[43, 47] : Array UInt8).size := hg
  k_dflt ktr_enter
  k_steps
  · refine Stop.out ?_
    refine' c_a2b ?k1 ?k2 ?k3 ?k4 ?k5 ?k6 ?k7 ?k8 hb h0 h1 h2 ?_
    case k1 => k_asm
    case k2 => k_asm
    case k3 => k_asm
    case k4 => k_asm
    case k5 => k_asm
    case k6 => first | exact rfl | assumption
    case k7 => ktr_room
    case k8 => ktr_units
    intro h' tk' t' F' N'
    (try dsimp only); (try k_sweep)
    k_steps
    exact ⟨_, _, [], by k_asm, (fun _ h => nomatch h), fun kF kN _ => hret _ _ _ kF kN⟩
  all_goals (exfalso; omega)
end
end
end
section
open PySem PySem.W PyProof.Rows PySem.Calls
set_option Elab.async false
set_option maxRecDepth 100000
set_option genInjectivity false
set_option genSizeOf false
abbrev txt (l : List Nat) : Str := ⟨l.toArray⟩
theorem slice_one (l : List Nat) (n : Nat) : Txt.slice (txt l) (some (n : Int)) (some ((n : Int) + 1)) = txt ((l.drop n).take 1) := by
  show StrLaws.sliceText (txt l) (some (n : Int)) (some ((n : Int) + 1)) = _
  have hlen : (txt l).length = l.length := by simp [Str.length]
  by_cases h : n + 1 ≤ l.length
  · have := StrLaws.sliceText_nat (txt l) (a := n) (b := n + 1) (by omega) (by rw [hlen]; exact h)
    rw [show ((n : Int) + 1) = ((n + 1 : Nat) : Int) by omega, this]
    simp
  · have e : Builtin.Str.strSliceIndices (some (n : Int)) (some ((n : Int) + 1)) 1 (txt l).length = Builtin.Str.strSliceIndices (some (l.length : Int)) (some (l.length : Int)) 1 (txt l).length := by
      unfold Builtin.Str.strSliceIndices
      rw [hlen]
      have a1 : ¬ ((n : Int) < 0) := Int.not_lt.mpr (Int.natCast_nonneg _)
      have a2 : ¬ ((n : Int) + 1 < 0) := Int.not_lt.mpr (Int.natCast_nonneg (n + 1))
      have a3 : ¬ ((l.length : Int) < 0) := Int.not_lt.mpr (Int.natCast_nonneg _)
      have b1 : (l.length : Int) ≤ n := Int.ofNat_le.mpr (Nat.le_of_lt_succ (Nat.lt_of_not_le h))
      have b2 : (l.length : Int) ≤ (n : Int) + 1 := Int.le_trans b1 (Int.le_add_one (Int.le_refl _))
      simp only [a1, a2, a3, if_false, show (1 : Int) > 0 by decide, if_true]
      rw [Int.min_eq_right b1, Int.min_eq_right b2, Int.min_self]
    have e2 : StrLaws.sliceText (txt l) (some (n : Int)) (some ((n : Int) + 1)) = StrLaws.sliceText (txt l) (some (l.length : Int)) (some (l.length : Int)) := by
      unfold StrLaws.sliceText; rw [e]
    rw [e2, StrLaws.sliceText_nat (txt l) (a := l.length) (b := l.length) (Nat.le_refl _) (by rw [hlen]; exact Nat.le_refl _)]
    rw [List.drop_eq_nil_of_le (by omega : l.length ≤ n)]
    simp
theorem one_len (l : List Nat) (n : Nat) : (txt ((l.drop n).take 1)).length = ((l.drop n).take 1).length := by simp [Str.length]
theorem one_le (l : List Nat) (n : Nat) : ((l.drop n).take 1).length ≤ 1 := by simp only [List.length_take]; omega
theorem walks_shift {prog : Program} {w : World} {A : Around} {I : Addr} {fp wr : List Addr} {n : Nat} {P : Nat → Value → Prop} {St : Nat → Heap → Prop} (W : Walks prog w A I fp wr n P St) (acc : Array Value) :
    Walks prog w A I fp wr (acc.size + n) (fun i v => if i < acc.size then acc[i]? = some v else P (i - acc.size) v) (fun i h => acc.size ≤ i ∧ St (i - acc.size) h) where
  sub := W.sub
  frame := fun i h h' st k => ⟨st.1, W.frame _ h h' st.2 k⟩
  item := fun i s Q E hi st hQ => W.item (i - acc.size) s Q E (by have := st.1; omega) st.2 fun v h' tk hP hst hk => hQ v h' tk (by rw [if_neg (by have := st.1; omega)]; exact hP) ⟨by have := st.1; omega, by have := st.1; rw [show i + 1 - acc.size = i - acc.size + 1 by omega]; exact hst⟩ hk
  done := fun s Q E st hQ => W.done s Q E (by have := st.2; rwa [Nat.add_sub_cancel_left] at this) hQ
  self := fun i s Q E st hQ => W.self _ s Q E st.2 hQ
section
variable {prog : Program} {w : World} {A : Around} {E : Value → Shared → Prop} {s : Shared}
theorem wpAny_extend_strA {R : Result → Shared → Prop} (hh : A.handled = none) (x : Str) (t : Tok) (S : Addr) (res : Value) (acc : Array Value) (c₀ : Nat) (hS : s.heap.get? S = some { cls := .type "list", data := .seq acc c₀ })
    (hR : ∀ h' tk acc' c', (∀ b o, b ≠ S → s.heap.get? b = some o → h'.get? b = some o) → h'.get? S = some { cls := .type "list", dict := none, data := .seq acc' c', slots := #[] } →
      ItemsOf (fun i v => if i < acc.size then acc[i]? = some v else SignAt x (i - acc.size) v) acc' (acc.size + x.cps.size) → R (.ok (.ret res)) { s with heap := h', toks := tk }) (hn : acc.size + x.cps.size ≤ sizeLine) :
    wpAny (model prog w) A.in1 (Builtin.List.listExtendWith (.ref S) (.str x t) res)
      (fun fin s' => match fin with | .done f => R (.ok f) s' | .again c' => c'.quiet = true ∧ codeAny (model prog w) A c' R s') (fun e s' => R (.error e) s') s := by
  have hSI : S ≠ s.heap.objs.size := Nat.ne_of_lt (Heap.lt_size hS)
  have hSf : S ∉ [s.heap.objs.size] := fun hm => hSI (List.mem_singleton.mp hm)
  unfold Builtin.List.listExtendWith
  refine wpAny_bind (wpAny_typeOf (T := "str") (v := .str x t) rfl ?_)
  have h1 : Builtin.List.listSameRef (.ref S) (.str x t) = false := rfl
  have h2 : (Value.type "str" == Value.type "list") = false := by decide
  have h3 : (Value.type "str" == Value.type "tuple") = false := by decide
  simp only [h1, h2, h3, Bool.or_false, Bool.false_eq_true, if_false]
  refine wpAny_bind (wpAny_pyIter_str fun o St W hst => ?_)
  refine wpAny_bind (wpAny_holding ?_)
  unfold Builtin.List.listLengthHint
  refine wpAny_bind (wpAny_specialOf (T := "str") (v := .str x t) rfl PySem.F.str_len ?_)
  wp_delta
  refine wpAny_bind (wpAny_isInstance (T := "str") (v := .str x t) (b := true) rfl (by rw [isSubtype_type]; kernel_rfl) ?_)
  show wpAny _ _ (typeOf (Value.str x t) >>= _) _ _ _
  refine wpAny_bind (wpAny_typeOf (T := "str") (v := .str x t) rfl ?_)
  refine wpAny_pure ?_
  rw [if_neg (by decide)]
  refine wpAny_pure ⟨plainId_quiet PySem.F.plain_extend_loop _, codeAny_extend_loopS (walks_shift (W A.in1 hh) acc).toS hn _ hSf _ x.cps.size acc.size _ _ _ (by omega) (Nat.le_add_right _ _) ⟨Nat.le_refl _, by rw [Nat.sub_self]; exact hst⟩ (Heap.get?_push_of_some _ hS) ⟨rfl, fun j v hj => ?_⟩ fun s' acc' c' hm hS' hacc => ?_⟩
  · have hlt : j < acc.size := by
      by_cases h : j < acc.size
      · exact h
      · rw [Array.getElem?_eq_none (by omega)] at hj; cases hj
    dsimp only; rw [if_pos hlt]; exact hj
  rw [Moved.eq_with hm]
  refine hR s'.heap s'.toks acc' c' (fun b ob hb e => hm.heap b ob (fun hmem => ?_) (Heap.get?_push_of_some _ e)) hS' hacc
  rcases List.mem_cons.mp hmem with e' | hmem
  · exact hb e'
  · exact absurd (Heap.lt_size e) (by rw [List.mem_singleton.mp hmem]; exact Nat.lt_irrefl _)
theorem items_shift {acc acc' : Array Value} {n : Nat} {P : Nat → Value → Prop} (h : ItemsOf (fun i v => if i < acc.size then acc[i]? = some v else P (i - acc.size) v) acc' (acc.size + n)) : ∃ vs : List Value, vs.length = n ∧ acc' = (acc.toList ++ vs).toArray := by
  refine ⟨acc'.toList.drop acc.size, by simp [h.1], ?_⟩
  apply Array.toList_inj.mp
  rw [List.toList_toArray]
  have e : acc.toList = acc'.toList.take acc.size := by
    apply List.ext_getElem?
    intro i
    rw [List.getElem?_take]
    split
    · rename_i hi
      have hi' : i < acc'.size := by have := h.1; omega
      have := h.2 i acc'[i] (by rw [Array.getElem?_eq_getElem hi'])
      dsimp only at this
      rw [if_pos hi] at this
      rw [Array.getElem?_toList, Array.getElem?_toList, this, Array.getElem?_eq_getElem hi']
    · rename_i hi
      rw [List.getElem?_eq_none (by simp; omega)]
  rw [e, List.take_append_drop]
theorem call_extend_str {Q : Value → Shared → Prop} {x : Str} {t : Tok} {S : Addr} {acc : List Value} {c₀ : Nat} {h₀ : Heap} {L : Addr} {m : Str → Option Value} {news : List (Addr × Obj)} {g : Obj → List (Addr × Obj)} (hh : A.handled = none) (F : Fr h₀ L s.heap m) (N : News h₀ L s.heap news) (U : UpdF S (W.listOf acc.toArray c₀) news g)
    (hn : acc.length + x.length ≤ sizeLine)
    (h : ∀ h' tk vs n, vs.length = x.length → Fr h₀ L h' m → News h₀ L h' (g (W.listOf (acc ++ vs).toArray n)) → Q .none { s with heap := h', toks := tk }) :
    wpAny (model prog w) A (call (.builtin "list.extend") [.ref S, .str x t]) Q E s := by
  obtain ⟨own, rest, rfl, hgr, h1, h2⟩ := U.split
  have hm := N (S, W.listOf acc.toArray c₀) (List.mem_append_right _ (.head _))
  refine wpAny_call (codeAny_call_builtin PySem.F.slot_list_extend.plain PySem.F.entry_list_extend (PySem.F.slot_list_extend.check _ _ _ _ _ _ _ _ ⟨_, hm.1, rfl⟩ (PySem.F.args_list_extend_2 _ _) ?_))
  show wpAny _ _ (Builtin.List.listExtendWith (.ref S) (.str x t) .none) _ _ _
  refine wpAny_extend_strA (A := A) (R := fun r s' => match r with | .ok (.ret v) => Q v s' | .ok _ => False | .error e => E e s') hh x t S .none acc.toArray c₀ hm.1 (fun h' tk acc' c' hk hS' hacc => ?_) (by rw [List.size_toArray]; exact hn)
  obtain ⟨vs, hl, rfl⟩ := items_shift hacc
  refine h h' tk vs c' hl ⟨?_, fun b o e => hk b o (fun q => by rw [q, hm.2.2] at e; cases e) (F.keep b o e), F.above⟩ fun p hp => ?_
  · obtain ⟨oL, es, ep, hL, r⟩ := F.ns
    exact ⟨oL, es, ep, hk _ _ hm.2.1.symm hL, r⟩
  · rw [hgr] at hp
    rcases List.mem_append.mp hp with hp | hp
    · have n := N p (List.mem_append_left _ hp)
      exact ⟨hk _ _ (h1 p hp) n.1, n.2⟩
    · rcases List.mem_cons.mp hp with rfl | hp
      · exact ⟨hS', hm.2⟩
      · have n := N p (List.mem_append_right _ (.tail _ hp))
        exact ⟨hk _ _ (h2 p hp) n.1, n.2⟩
end
end
section
open PySem PySem.W PyProof.Rows
set_option Elab.async false
set_option linter.unusedVariables false
set_option linter.unusedSimpArgs false
set_option linter.unusedSectionVars false
set_option pp.deepTerms false
set_option pp.deepTerms.threshold 6
set_option pp.proofs false
set_option maxRecDepth 100000
set_option compiler.extract_closed false
set_option rowWalk.seconds 0
set_option genInjectivity false
set_option genSizeOf false

section
variable {prog : Program} {w : World} {A A₀ : Around} {E : Value → Shared → Prop} {s : Shared} {K : Frag} {L : Addr} {h₀ base : Heap} {m mg mb : Str → Option Value} {foot rest : List (Addr × Obj)} {p : Program} {loose : List Str} {mean : ExcName → Option Value} {Q : Value → Shared → Prop}
theorem enterFN {env : Env} {outer : List Env} {name qual : Str} {params : Arguments} {body : List Stmt} {scope : Scope} {cl : List (Str × Addr)} {doc pm ctv : Value} {c' : Addr} {f : Addr} {args : Args} {binds : List (Str × Value)}
    (B : Below A₀ base outer h₀) (F : Fr h₀ L s.heap m) (X₀ : K.In h₀) (N : News h₀ L s.heap (foot ++ rest)) (hoff : ∀ p ∈ rest, p.1 ∉ foot.map (·.1)) (T : Top p loose mean mg mb h₀) (hA : A.frames = some (env :: outer)) (hf : env.frame = some L) (hke : env.scope.kind = .function)
    (ho : (f, fnMade name qual params body scope cl doc pm c' ctv) ∈ foot) (hcd : s.heap.CodeRec (.ref c') qual) (hroom : A.depth < recursionLimit)
    (hbind : BindsTo s (fnX name qual params body scope cl .none .none doc pm none (.ref c') ctv) args binds) (hloc : ∀ y ∈ binds, scope.names.lookup y.1 = some .local)
    (h : ∀ g L' h₁, Fr h₀ L g m → Fr g L' h₁ (fun y => binds.reverse.lookup y) → News g L' h₁ foot → Below A base (env :: outer) g → K.In g → Top p loose mean mg mb g →
      wpAny (model prog w) (A.deeper (envX qual scope L' f (.ref c') cl)) (execs body (envX qual scope L' f (.ref c') cl))
        (fun fl s' => LeaveF h₀ L m g rest Q (match fl with | .ret v => v | _ => .none) s')
        (fun e s' => wpAny (model prog w) (A.deeper (envX qual scope L' f (.ref c') cl)) (leaving (envX qual scope L' f (.ref c') cl) e) (fun _ s'' => E e s'') (fun e' s'' => E e' s'') s')
        { s with heap := h₁, toks := s.toks + binds.length })
    (hco : scope.isCoroutine = false) (hgen : scope.isGenerator = false) (hk : scope.kind = .function)
    (hcell : ∀ x ∈ scope.names, x.2 ≠ .cell) : wpAny (model prog w) A (call (.ref f) args.pos args.kw) Q E s := by
  refine wpAny_call ?_
  have N1 : News h₀ L s.heap foot := nsub N fun p hp => List.mem_append_left _ hp
  obtain ⟨FG, BG, st, lv⟩ := groundX (R := fun r s' => match r with | .ok (.ret v) => Q v s' | .ok _ => False | .error e => E e s') B F N1 hA hf hke
  have G : GSub s.heap (hideAll s.heap (foot.map (·.1))) (foot.map (·.1)) := fun b o e n => hideAll_get _ e n
  refine codeAny_call_def (fd := fnX name qual params body scope cl .none .none doc pm none (.ref c') ctv) (body := body) (binds := binds) hroom (N1 _ ho).1 rfl (T.nolimit.keeps F.keep) hcd rfl hbind hcell hloc (fun h₁ hns hk₁ => ?_) hco hgen hk
  refine wpAny_mono (h _ s.heap.objs.size h₁ FG ⟨hns, fun b o e => hk₁ b o (of_hideAll _ e), Nat.le_of_eq (hideAll_size _ _)⟩
    (fun p hp => ⟨hk₁ _ _ (N1 p hp).1, Nat.ne_of_lt (Heap.lt_size (N1 p hp).1), hideAll_none _ (List.mem_map_of_mem hp)⟩) BG (X₀.keeps st) (T.keeps st)) (fun fl s' hl => lv _ _ ?_) fun _ _ y => y
  obtain ⟨L'', m'', foot', F'', N'', k⟩ := hl
  have NR : News h₀ L s'.heap rest := rest_kept F'' G (nsub N fun p hp => List.mem_append_right _ hp) hoff
  refine ⟨L'', m'', foot', F'', N'', fun kF kN => k kF (napp kN NR) fun q hq p hp e => ?_⟩
  have h1 := (N'' q hq).2.2
  have h2 := G _ _ (N p (List.mem_append_right _ hp)).1 (hoff p hp)
  rw [e, h1] at h2
  cases h2
end
section
variable {prog : Program} {w : World} {A A₀ : Around} {E : Value → Shared → Prop} {s : Shared} {K : Frag} {L : Addr} {h₀ base : Heap} {m mg mb : Str → Option Value} {foot rest : List (Addr × Obj)} {p : Program} {loose : List Str} {mean : ExcName → Option Value} {Q : Value → Shared → Prop}
theorem enterFC {env : Env} {outer : List Env} {name qual : Str} {params : Arguments} {body : List Stmt} {scope : Scope} {dV kV doc pm cdv ct oc : Value} {an od : Option Addr} {osl : Array (Option Value)} {f : Addr} {args : Args} {binds : List (Str × Value)}
    (hA : A.frames = some (env :: outer)) (hf : env.frame = some L) (hke : env.scope.kind = .function)
    (B : Below A₀ base outer h₀) (F : Fr h₀ L s.heap m) (X₀ : K.In h₀) (N : News h₀ L s.heap (foot ++ rest)) (hoff : ∀ p ∈ rest, p.1 ∉ foot.map (·.1)) (T : Top p loose mean mg mb h₀) 
    (ho : K.lookup f = some ⟨oc, od, .func (fnOf name qual params body scope dV kV doc pm an cdv ct), osl⟩) (hcd : codeIn K cdv qual = true) (hroom : A.depth < recursionLimit)
    (hbind : BindsTo s (fnOf name qual params body scope dV kV doc pm an cdv ct) args binds) {bl : List (Str × Value)} (hB : binds = bl) (hkind : (binds.all fun y => scope.names.lookup y.1 == some .local || scope.names.lookup y.1 == some .cell) = true)
    (hnd : ((cellsFrom 0 scope.names []).map (·.1)).Nodup)
    (hco : scope.isCoroutine = false) (hgen : scope.isGenerator = false) (hk : scope.kind = .function)
    (h : ∀ g L' h₁ tk cells, Fr h₀ L g m → Fr g L' h₁ (bindL (envOfC qual scope L' f cdv).kindOf bl fun _ => none) → News g L' h₁ (cells ++ foot) →
      CellsAre (bindC (envOfC qual scope L' f cdv).kindOf bl fun _ => none) (cellsFrom (L' + 1) scope.names []) cells → Below A base (env :: outer) g → K.In g → Top p loose mean mg mb g → (∀ p ∈ foot, p.1 < L') → (∀ p ∈ rest, p.1 < L') →
      wpAny (model prog w) (A.deeper (envOfC qual scope L' f cdv)) (execs body (envOfC qual scope L' f cdv))
        (fun fl s' => LeaveF h₀ L m g rest Q (match fl with | .ret v => v | _ => .none) s')
        (fun e s' => wpAny (model prog w) (A.deeper (envOfC qual scope L' f cdv)) (leaving (envOfC qual scope L' f cdv) e) (fun _ s'' => E e s'') (fun e' s'' => E e' s'') s')
        { s with heap := h₁, toks := tk }) : wpAny (model prog w) A (call (.ref f) args.pos args.kw) Q E s := by
  subst hB
  refine wpAny_call ?_
  have N1 : News h₀ L s.heap foot := nsub N fun p hp => List.mem_append_left _ hp
  obtain ⟨FG, BG, st, lv⟩ := groundX (R := fun r s' => match r with | .ok (.ret v) => Q v s' | .ok _ => False | .error e => E e s') B F N1 hA hf hke
  refine codeAny_call_function hroom ((X₀.keeps F.keep) _ _ ho) rfl hco hgen rfl (codeRec_of (X₀.keeps F.keep) hcd) (hbind _ _ _ _ ?_)
  refine wpAny_newFunctionEnv_cells hk (kindsX hkind _) fun env' he s' x => ?_
  subst he
  refine ⟨(T.nolimit.keeps F.keep).keeps x.toInCall.keep, codeAny_func ?_⟩
  obtain ⟨h₁, tk, rfl, _⟩ := x.done
  have hk₁ := x.toInCall.keep
  obtain ⟨cells, NC, Y⟩ := Cl.news (h₀ := s.heap) (Nat.le_refl _) fun n c hm => ⟨x.cell n c (lookup_of_mem_nodup (cellsFrom_names scope.names 0 (s.heap.objs.size + 1) [] [] rfl ▸ hnd) hm), x.above n c hm⟩
  have G : GSub s.heap (hideAll s.heap (foot.map (·.1))) (foot.map (·.1)) := fun b o e n => hideAll_get _ e n
  refine wpAny_mono (h _ s.heap.objs.size h₁ tk cells FG ⟨x.toInCall.ns, fun b o e => hk₁ b o (of_hideAll _ e), Nat.le_of_eq (hideAll_size _ _)⟩ (fun p hp => ?_) Y BG (X₀.keeps st) (T.keeps st) (fun p hp => Heap.lt_size (N1 p hp).1) (fun p hp => Heap.lt_size (N p (List.mem_append_right _ hp)).1)) (fun fl s' hl => lv _ _ ?_) fun _ _ y => y
  · rcases List.mem_append.mp hp with hp | hp
    · refine ⟨(NC p hp).1, (NC p hp).2.1, ?_⟩
      cases q : (hideAll s.heap (foot.map (·.1))).get? p.1 with
      | none => rfl
      | some o => have := of_hideAll _ q; rw [(NC p hp).2.2] at this; cases this
    · exact ⟨hk₁ _ _ (N1 p hp).1, Nat.ne_of_lt (Heap.lt_size (N1 p hp).1), hideAll_none _ (List.mem_map_of_mem hp)⟩
  · obtain ⟨L'', m'', foot', F'', N'', k⟩ := hl
    have NR : News h₀ L s'.heap rest := rest_kept F'' G (nsub N fun p hp => List.mem_append_right _ hp) hoff
    refine ⟨L'', m'', foot', F'', N'', fun kF kN => k kF (napp kN NR) fun q hq p hp e => ?_⟩
    have h1 := (N'' q hq).2.2
    have h2 := G _ _ (N p (List.mem_append_right _ hp)).1 (hoff p hp)
    rw [e, h1] at h2
    cases h2
end

noncomputable def PieceSpec (w : World) (f : Addr) (fo : Obj) (c : Addr) (oc : Obj) (ct cg : Addr) : Prop :=
  ∀ {p : Program} {loose : List Str} {mean : ExcName → Option Value} {mg mb : Str → Option Value}
   {dp un : Nat} {gd : Option (List Code)} {cn : Str} {cs : Scope} {a : Addr} {ccd : Value} {cl : List (Str × Addr)} {outer : List Env} {A₀ : Around} {base h₀ : Heap} {L : Addr} {m : Str → Option Value} {rest : List (Addr × Obj)} {s : Shared}
   {Q E : Value → Shared → Prop} {g : Addr} {gs : List Value} {gn : Nat} {og ot : Obj} {text : List Nat} {tt t : Tok}
   (_ : Below A₀ base outer h₀) (_ : Fr h₀ L s.heap m) (_ : (hd.heap_1 w.params).In h₀) (_ : CodeHd base 173 169) (_ : News h₀ L s.heap ([(f, fo), (c, oc), (g, W.listOf gs.toArray gn), (cg, og), (ct, ot)] ++ rest))
   (_ : ∀ p ∈ rest, p.1 ∉ ([(f, fo), (c, oc), (g, W.listOf gs.toArray gn), (cg, og), (ct, ot)] : List (Addr × Obj)).map (·.1)) (_ : Top p loose mean mg mb h₀) (_ : cs.kind = .function)
   (_ : dp + 1 < recursionLimit) (_ : un + 8 < cLine)
   (_ : @LT.lt Nat _ ct cg ∧ @LT.lt Nat _ cg g ∧ @LT.lt Nat _ g f ∧ @Ne Nat c g)
   (_ : og.data = .cell (some (.ref g))) (_ : ot.data = .cell (some (.str (txt text) tt))) (_ : gs.length ≤ 2000) (_ : text.length ≤ 1000)
   (_ : ∀ h' tk' t' vs n, Fr h₀ L h' m → News h₀ L h' ([(f, fo), (c, oc), (g, W.listOf (gs ++ vs).toArray n), (cg, og), (ct, ot)] ++ rest) → vs.length = ((text.drop gs.length).take 1).length → Q (.str (txt ((text.drop gs.length).take 1)) t') { s with heap := h', toks := tk' }),
   wpAny (model PySem.Challenge.rw_qh0051_01.row.prog w) (ktrTop dp un gd cn cs L a ccd cl outer) (call (.ref f) [.int 1 t]) Q E s
theorem piece_have {G : Prop} {w : World} {f : Addr} {n q : Str} {ps : Arguments} {b : List Stmt} {sc : Scope} {n1 n2 : Str} {ct cg : Addr} {doc pm : Value} {c : Addr} {ctv : Value} {l : List (Addr × Obj)} {h₀ h : Heap} {L : Addr} {oc : Obj} {vs : Array Value} {t : Tok} (N : News h₀ L h l)
    (hm : (f, fnMade n q ps b sc [(n1, ct), (n2, cg)] doc pm c ctv) ∈ l) (hm2 : (c, oc) ∈ l) (hoc : oc.data = .fields vs) (hv : vs[1]? = some (.str q t))
    (h1 : oc.data = .fields vs → vs[1]? = some (.str q t) → PieceSpec w f (fnMade n q ps b sc [(n1, ct), (n2, cg)] doc pm c ctv) c oc ct cg)
    (h2 : PieceSpec w f (fnMade n q ps b sc [(n1, ct), (n2, cg)] doc pm c ctv) c oc ct cg → G) : G := h2 (h1 hoc hv)

structure Lx where
  x : Addr
  d : Addr
  l : Addr
  f : Addr
  g : Addr
  k : Addr
  y : Addr
  e : Addr
  cg : Addr
  ct : Addr
  c : Addr
  oc : Obj
  fcls : Value
  fdict : Option Addr
  fdat : FuncData
  fsl : Array (Option Value)
  og : Obj
  ot : Obj
  text : List Nat
  tt : Tok
  k1 : Tok
  k2 : Tok
  k3 : Tok
  k4 : Tok
  tw : Tok
  e1 : Tok
  e2 : Tok
  e3 : Tok
  e4 : Tok
  e5 : Tok
  te : Tok
  tv : Tok
  ln : Int
  tl : Tok
  ps : List Value
  pn : Nat
  gs : List Value
  gn : Nat
abbrev Lx.fo (z : Lx) : Obj := ⟨z.fcls, z.fdict, .func z.fdat, z.fsl⟩
abbrev lexLed (P : Params) (z : Lx) : List (Addr × Obj) :=
  [(z.l, W.listOf z.ps.toArray z.pn), (z.x, instObj 59 z.d),
   (z.d, dictOf [⟨PyData.keyHash P (Str.ofString "lineno"), .str (Str.ofString "lineno") z.k1, .int z.ln z.tl⟩, ⟨PyData.keyHash P (Str.ofString "instream"), .str (Str.ofString "instream") z.k2, .ref z.y⟩,
     ⟨PyData.keyHash P (Str.ofString "whitespace"), .str (Str.ofString "whitespace") z.k3, .str (Str.ofString "\n\t\x0d ") z.tw⟩, ⟨PyData.keyHash P (Str.ofString "pushback"), .str (Str.ofString "pushback") z.k4, .ref z.l⟩] 4),
   (z.f, z.fo), (z.g, W.listOf z.gs.toArray z.gn), (z.k, W.listOf #[] 0), (z.y, instObj 59 z.e),
   (z.e, dictOf [⟨PyData.keyHash P (Str.ofString "lineno"), .str (Str.ofString "lineno") z.e1, .int 1 z.te⟩, ⟨PyData.keyHash P (Str.ofString "instream"), .str (Str.ofString "instream") z.e2, .none⟩,
     ⟨PyData.keyHash P (Str.ofString "whitespace"), .str (Str.ofString "whitespace") z.e3, .str (Str.ofString "\n\t\x0d ") z.tv⟩, ⟨PyData.keyHash P (Str.ofString "pushback"), .str (Str.ofString "pushback") z.e4, .ref z.k⟩,
     ⟨PyData.keyHash P (Str.ofString "read"), .str (Str.ofString "read") z.e5, .ref z.f⟩] 5),
   (z.cg, z.og), (z.ct, z.ot)]
structure LxOk (w : World) (z : Lx) : Prop where
  spec : PieceSpec w z.f z.fo z.c z.oc z.ct z.cg
  og : z.og.data = .cell (some (.ref z.g))
  ot : z.ot.data = .cell (some (.str (txt z.text) z.tt))
  lt : @LT.lt Nat _ z.ct z.cg ∧ @LT.lt Nat _ z.cg z.e ∧ @LT.lt Nat _ z.e z.y ∧ @LT.lt Nat _ z.y z.k ∧ @LT.lt Nat _ z.k z.g ∧ @LT.lt Nat _ z.g z.f ∧ @LT.lt Nat _ z.f z.d ∧ @LT.lt Nat _ z.d z.x ∧ @LT.lt Nat _ z.x z.l
theorem zc1 {z : Lx} (h : @LT.lt Nat _ z.ct z.cg ∧ @LT.lt Nat _ z.cg z.e ∧ @LT.lt Nat _ z.e z.y ∧ @LT.lt Nat _ z.y z.k ∧ @LT.lt Nat _ z.k z.g ∧ @LT.lt Nat _ z.g z.f ∧ @LT.lt Nat _ z.f z.d ∧ @LT.lt Nat _ z.d z.x ∧ @LT.lt Nat _ z.x z.l) : @LT.lt Nat _ z.ct z.cg := h.1
theorem zc2 {z : Lx} (h : @LT.lt Nat _ z.ct z.cg ∧ @LT.lt Nat _ z.cg z.e ∧ @LT.lt Nat _ z.e z.y ∧ @LT.lt Nat _ z.y z.k ∧ @LT.lt Nat _ z.k z.g ∧ @LT.lt Nat _ z.g z.f ∧ @LT.lt Nat _ z.f z.d ∧ @LT.lt Nat _ z.d z.x ∧ @LT.lt Nat _ z.x z.l) : @LT.lt Nat _ z.cg z.e := h.2.1
theorem zc3 {z : Lx} (h : @LT.lt Nat _ z.ct z.cg ∧ @LT.lt Nat _ z.cg z.e ∧ @LT.lt Nat _ z.e z.y ∧ @LT.lt Nat _ z.y z.k ∧ @LT.lt Nat _ z.k z.g ∧ @LT.lt Nat _ z.g z.f ∧ @LT.lt Nat _ z.f z.d ∧ @LT.lt Nat _ z.d z.x ∧ @LT.lt Nat _ z.x z.l) : @LT.lt Nat _ z.e z.y := h.2.2.1
theorem zc4 {z : Lx} (h : @LT.lt Nat _ z.ct z.cg ∧ @LT.lt Nat _ z.cg z.e ∧ @LT.lt Nat _ z.e z.y ∧ @LT.lt Nat _ z.y z.k ∧ @LT.lt Nat _ z.k z.g ∧ @LT.lt Nat _ z.g z.f ∧ @LT.lt Nat _ z.f z.d ∧ @LT.lt Nat _ z.d z.x ∧ @LT.lt Nat _ z.x z.l) : @LT.lt Nat _ z.y z.k := h.2.2.2.1
theorem zc5 {z : Lx} (h : @LT.lt Nat _ z.ct z.cg ∧ @LT.lt Nat _ z.cg z.e ∧ @LT.lt Nat _ z.e z.y ∧ @LT.lt Nat _ z.y z.k ∧ @LT.lt Nat _ z.k z.g ∧ @LT.lt Nat _ z.g z.f ∧ @LT.lt Nat _ z.f z.d ∧ @LT.lt Nat _ z.d z.x ∧ @LT.lt Nat _ z.x z.l) : @LT.lt Nat _ z.k z.g := h.2.2.2.2.1
theorem zc6 {z : Lx} (h : @LT.lt Nat _ z.ct z.cg ∧ @LT.lt Nat _ z.cg z.e ∧ @LT.lt Nat _ z.e z.y ∧ @LT.lt Nat _ z.y z.k ∧ @LT.lt Nat _ z.k z.g ∧ @LT.lt Nat _ z.g z.f ∧ @LT.lt Nat _ z.f z.d ∧ @LT.lt Nat _ z.d z.x ∧ @LT.lt Nat _ z.x z.l) : @LT.lt Nat _ z.g z.f := h.2.2.2.2.2.1
theorem zc7 {z : Lx} (h : @LT.lt Nat _ z.ct z.cg ∧ @LT.lt Nat _ z.cg z.e ∧ @LT.lt Nat _ z.e z.y ∧ @LT.lt Nat _ z.y z.k ∧ @LT.lt Nat _ z.k z.g ∧ @LT.lt Nat _ z.g z.f ∧ @LT.lt Nat _ z.f z.d ∧ @LT.lt Nat _ z.d z.x ∧ @LT.lt Nat _ z.x z.l) : @LT.lt Nat _ z.f z.d := h.2.2.2.2.2.2.1
theorem zc8 {z : Lx} (h : @LT.lt Nat _ z.ct z.cg ∧ @LT.lt Nat _ z.cg z.e ∧ @LT.lt Nat _ z.e z.y ∧ @LT.lt Nat _ z.y z.k ∧ @LT.lt Nat _ z.k z.g ∧ @LT.lt Nat _ z.g z.f ∧ @LT.lt Nat _ z.f z.d ∧ @LT.lt Nat _ z.d z.x ∧ @LT.lt Nat _ z.x z.l) : @LT.lt Nat _ z.d z.x := h.2.2.2.2.2.2.2.1
theorem zc9 {z : Lx} (h : @LT.lt Nat _ z.ct z.cg ∧ @LT.lt Nat _ z.cg z.e ∧ @LT.lt Nat _ z.e z.y ∧ @LT.lt Nat _ z.y z.k ∧ @LT.lt Nat _ z.k z.g ∧ @LT.lt Nat _ z.g z.f ∧ @LT.lt Nat _ z.f z.d ∧ @LT.lt Nat _ z.d z.x ∧ @LT.lt Nat _ z.x z.l) : @LT.lt Nat _ z.x z.l := h.2.2.2.2.2.2.2.2
theorem zc10 {z : Lx} (h : @LT.lt Nat _ z.g z.c ∧ @LT.lt Nat _ z.c z.f) : @LT.lt Nat _ z.g z.c := h.1
theorem zc11 {z : Lx} (h : @LT.lt Nat _ z.g z.c ∧ @LT.lt Nat _ z.c z.f) : @LT.lt Nat _ z.c z.f := h.2
theorem zc0 {z : Lx} (k : (@LT.lt Nat _ z.c z.ct) ∨ (@LT.lt Nat _ z.g z.c ∧ @LT.lt Nat _ z.c z.f)) (h : @LT.lt Nat _ z.ct z.cg ∧ @LT.lt Nat _ z.cg z.e ∧ @LT.lt Nat _ z.e z.y ∧ @LT.lt Nat _ z.y z.k ∧ @LT.lt Nat _ z.k z.g ∧ @LT.lt Nat _ z.g z.f ∧ @LT.lt Nat _ z.f z.d ∧ @LT.lt Nat _ z.d z.x ∧ @LT.lt Nat _ z.x z.l) : @LT.lt Nat _ z.c z.f := by omega
noncomputable def CodeOk (oc : Obj) : Prop := ∃ vs t, oc.data = .fields vs ∧ vs[1]? = some (.str (Str.ofString "_law_lexer.<locals>._law_piece") t)
abbrev lexMid (P : Params) (z : Lx) : List (Addr × Obj) := match lexLed P z with
  | a1 :: a2 :: a3 :: a4 :: r => a1 :: a2 :: a3 :: a4 :: (z.c, z.oc) :: r
  | l => l
theorem mv5 {h₀ h : Heap} {L : Addr} {a1 a2 a3 a4 c : Addr × Obj} {r : List (Addr × Obj)} (N : News h₀ L h (a1 :: a2 :: a3 :: a4 :: c :: r)) : News h₀ L h (c :: a1 :: a2 :: a3 :: a4 :: r) :=
  nsub N (by intro p hp; simp only [List.mem_cons] at hp ⊢; rcases hp with h | h | h | h | h | h <;> simp [h])
theorem lex_made1 {P : Params} (z : Lx) {tab : Addr × Obj} {h₀ g : Heap} {L L' : Addr} {m m' : Str → Option Value} {rest : List (Addr × Obj)} {Q : Value → Shared → Prop} {s' : Shared} (F9 : Fr g L' s'.heap m') (N9 : News g L' s'.heap (lexLed P z ++ [tab, (z.c, z.oc)]))
    (k : Fr h₀ L s'.heap m → News h₀ L s'.heap ((lexLed P z ++ [tab, (z.c, z.oc)]) ++ rest) → Q (.ref z.x) s') : LeaveF h₀ L m g rest Q (.ref z.x) s' :=
  ⟨L', m', lexLed P z ++ [tab, (z.c, z.oc)], F9, N9, fun kF kN _ => k kF kN⟩
theorem lex_made {P : Params} (z : Lx) {tab : Addr × Obj} {h₀ g : Heap} {L L' : Addr} {m m' : Str → Option Value} {rest : List (Addr × Obj)} {Q : Value → Shared → Prop} {s' : Shared} (F9 : Fr g L' s'.heap m') (N9 : News g L' s'.heap (lexMid P z ++ [tab]))
    (k : Fr h₀ L s'.heap m → News h₀ L s'.heap ((z.c, z.oc) :: (lexLed P z ++ [tab]) ++ rest) → Q (.ref z.x) s') : LeaveF h₀ L m g rest Q (.ref z.x) s' :=
  ⟨L', m', (z.c, z.oc) :: (lexLed P z ++ [tab]), F9, mv5 N9, fun kF kN _ => k kF kN⟩
local macro_rules | `(tactic| ktr_enter) => `(tactic| (o_head (enterFC (args := ⟨_, _⟩), 6, 0, 0); intro g' L' h' tk' cells' FG' F' N' Y' B' X' T' l1 lR; (try k_lt l1); k_cells Y'; (try dsimp only [List.cons_append, List.nil_append] at N'); (try dsimp only); (try k_lift B'); (try k_fold)))
local macro_rules | `(tactic| walk_at "call builtin:len") => `(tactic| (k_here; (with_reducible show wpAny _ _ (call _ [Value.ref _]) _ _ _); k_dflt (apply len_list; exact News.isList (by k_asm) (by k_mem); (rw [List.size_toArray]; omega)); (try rw [List.size_toArray])))
local macro_rules | `(tactic| walk_at "call builtin:list.extend") => `(tactic| (k_here; (with_reducible show wpAny _ _ (call _ [_, Value.str _ _]) _ _ _); k_dflt (apply call_extend_str; exact rfl; k_asm; k_asm; k_updF; (first | assumption | (rw [sizeLine_eq]; omega))); intro h' tk' vs' n' hl' F' N'; (try dsimp only at N')))
section
variable {w : World} {p : Program} {loose : List Str} {mean : ExcName → Option Value} {mg mb : Str → Option Value}
   {dp un : Nat} {gd : Option (List Code)} {cn : Str} {cs : Scope} {a : Addr} {ccd : Value} {cl : List (Str × Addr)} {outer : List Env} {A₀ : Around} {base h₀ : Heap} {L : Addr} {m : Str → Option Value} {rest : List (Addr × Obj)} {s : Shared}
   {Q E : Value → Shared → Prop}
   (B : Below A₀ base outer h₀) (F : Fr h₀ L s.heap m) (X : (hd.heap_1 w.params).In h₀) (C : CodeHd base 173 169) (N : News h₀ L s.heap ([(169, tabObj #[])] ++ rest)) (O : ∀ p ∈ rest, p.1 ∉ ([(169, tabObj #[])] : List (Addr × Obj)).map (·.1)) (T : Top p loose mean mg mb h₀) (hk : cs.kind = .function)
include B F X C N O T hk
set_option maxHeartbeats 4000000 in
theorem c_lexer0 {text : List Nat} {t : Tok} (hd' : dp + 3 < recursionLimit) (hu : un + 24 < cLine)
    (hret : ∀ h' tk' (z : Lx), Fr h₀ L h' m → LxOk w z → CodeOk z.oc → @LT.lt Nat _ z.g z.c ∧ @LT.lt Nat _ z.c z.f → z.ps = [] → z.gs = [] → z.ln = 1 → z.text = text → (∀ p ∈ rest, @LT.lt Nat _ p.1 z.ct) → @LT.lt Nat _ 169 z.ct →
      News h₀ L h' ((z.c, z.oc) :: (lexLed w.params z ++ [(169, tabObj #[rawInt 249, rawInt 4, .ref z.c])]) ++ rest) → Q (.ref z.x) { s with heap := h', toks := tk' }) :
    wpAny (model PySem.Challenge.rw_qh0051_01.row.prog w) (ktrTop dp un gd cn cs L a ccd cl outer) (call (.ref 174) [.str (txt text) t]) Q E s := by
  revert X; k_fill; intro X
  k_dflt ktr_enter
  k_steps
  (with_reducible rename News _ _ _ _ => N9)
  refine piece_have (w := w) N9 (by k_mem) (by k_mem) (by assumption) (by assumption) ?piece ?go
  case piece =>
    intro hoc hv p loose mean mg mb dp un gd cn cs a ccd cl outer A₀ base h₀ L m rest s Q E g gs gn og ot text tt t B F X C N O T hk hd' hu hlt ho1 ho2 hz1 hz2 hret
    revert X; k_fill; intro X
    k_dflt (refine' enterFN (args := ⟨_, _⟩) ?k1 ?k2 ?k3 ?k4 ?k4o ?k5 ?kA ?kF ?kK ?k6 ?k7 ?k8 ?k9 ?kB ?_ ?c2 ?c3 ?c4 ?c5; (case kA => exact rfl); (case kF => exact rfl); (case kK => assumption); (case k1 => k_asm); (case k2 => k_asm); (case k3 => k_asm); (case k4 => k_asm); (case k4o => assumption); (case k5 => k_asm); (case k6 => k_mem); (case k7 => exact codeRec_news N (List.mem_append_left _ (by k_mem)) hoc hv); (case k8 => ktr_room); (case k9 => exact BindsTo.of_eq rfl); (case c5 => decide); (case kB => exact locs rfl); (case c2 => exact rfl); (case c3 => exact rfl); (case c4 => exact rfl); k_whole; intro g' L' h' FG' F' N' B' X' T'; (try dsimp only); (try k_fold))
    k_steps
    rw [slice_one]
    have z1 := one_len text gs.length
    have z2 := one_le text gs.length
    k_steps
    exact ⟨_, _, [_, _, _, _, _], by k_asm, by k_asm, fun kF kN _ => by dsimp only; rw [slice_one]; exact hret _ _ _ _ _ kF kN (by rw [← one_len]; assumption)⟩
  case go =>
    intro PS
    refine lex_made ⟨_, _, _, _, _, _, _, _, _, _, _, _, _, _, _, _, _, _, text, t, _, _, _, _, _, _, _, _, _, _, _, _, _, _, [], _, [], _⟩ (by k_asm) N9 (fun kF kN => ?_)
    refine hret _ _ _ kF ⟨PS, by assumption, ?ot, ?lt⟩ ?co ?ord rfl rfl rfl rfl ?rst ?r9 kN
    case ot => assumption
    case co => exact ⟨_, _, by assumption, by assumption⟩
    case lt => dsimp only; and_intros <;> omega
    case ord => dsimp only; (first | (and_intros <;> omega) | omega)
    case rst => (rename (∀ p, p ∈ rest → p.1 < _) => lR; intro p hp; exact Nat.lt_of_lt_of_le (lR p hp) (Nat.le_succ _))
    case r9 => dsimp only; omega
end
section
variable {w : World} {p : Program} {loose : List Str} {mean : ExcName → Option Value} {mg mb : Str → Option Value}
   {dp un : Nat} {gd : Option (List Code)} {cn : Str} {cs : Scope} {a : Addr} {ccd : Value} {cl : List (Str × Addr)} {outer : List Env} {A₀ : Around} {base h₀ : Heap} {L : Addr} {m : Str → Option Value} {rest : List (Addr × Obj)} {s : Shared}
   {Q E : Value → Shared → Prop}
   (B : Below A₀ base outer h₀) (F : Fr h₀ L s.heap m) (X : (hd.heap_1 w.params).In h₀) {c : Addr} {oc : Obj} (C : CodeHd base 173 169) (N : News h₀ L s.heap ([(169, tabObj #[rawInt 249, rawInt 4, .ref c]), (c, oc)] ++ rest)) (O : ∀ p ∈ rest, p.1 ∉ ([(169, tabObj #[rawInt 249, rawInt 4, .ref c]), (c, oc)] : List (Addr × Obj)).map (·.1)) (T : Top p loose mean mg mb h₀) (hk : cs.kind = .function)
include B F X C N O T hk
set_option maxHeartbeats 4000000 in
theorem c_lexer1 {text : List Nat} {t : Tok} (hd' : dp + 3 < recursionLimit) (hu : un + 24 < cLine) (hc : @LT.lt Nat _ 169 c) (hoc : CodeOk oc)
    (hret : ∀ h' tk' (z : Lx), Fr h₀ L h' m → LxOk w z → z.c = c → z.oc = oc → @LT.lt Nat _ c z.ct → z.ps = [] → z.gs = [] → z.ln = 1 → z.text = text → (∀ p ∈ rest, @LT.lt Nat _ p.1 z.ct) → @LT.lt Nat _ 169 z.ct →
      News h₀ L h' ((lexLed w.params z ++ [(169, tabObj #[rawInt 249, rawInt 4, .ref c]), (c, oc)]) ++ rest) → Q (.ref z.x) { s with heap := h', toks := tk' }) :
    wpAny (model PySem.Challenge.rw_qh0051_01.row.prog w) (ktrTop dp un gd cn cs L a ccd cl outer) (call (.ref 174) [.str (txt text) t]) Q E s := by
  revert X; k_fill; intro X
  obtain ⟨vs0, t0, hv0, hv1⟩ := hoc
  k_dflt ktr_enter
  k_steps
  (with_reducible rename News _ _ _ _ => N9)
  refine piece_have (w := w) N9 (by k_mem) (by k_mem) (by assumption) (by assumption) ?piece ?go
  case piece =>
    intro hoc hv p loose mean mg mb dp un gd cn cs a ccd cl outer A₀ base h₀ L m rest s Q E g gs gn og ot text tt t B F X C N O T hk hd' hu hlt ho1 ho2 hz1 hz2 hret
    revert X; k_fill; intro X
    k_dflt (refine' enterFN (args := ⟨_, _⟩) ?k1 ?k2 ?k3 ?k4 ?k4o ?k5 ?kA ?kF ?kK ?k6 ?k7 ?k8 ?k9 ?kB ?_ ?c2 ?c3 ?c4 ?c5; (case kA => exact rfl); (case kF => exact rfl); (case kK => assumption); (case k1 => k_asm); (case k2 => k_asm); (case k3 => k_asm); (case k4 => k_asm); (case k4o => assumption); (case k5 => k_asm); (case k6 => k_mem); (case k7 => exact codeRec_news N (List.mem_append_left _ (by k_mem)) hoc hv); (case k8 => ktr_room); (case k9 => exact BindsTo.of_eq rfl); (case c5 => decide); (case kB => exact locs rfl); (case c2 => exact rfl); (case c3 => exact rfl); (case c4 => exact rfl); k_whole; intro g' L' h' FG' F' N' B' X' T'; (try dsimp only); (try k_fold))
    k_steps
    rw [slice_one]
    have z1 := one_len text gs.length
    have z2 := one_le text gs.length
    k_steps
    exact ⟨_, _, [_, _, _, _, _], by k_asm, by k_asm, fun kF kN _ => by dsimp only; rw [slice_one]; exact hret _ _ _ _ _ kF kN (by rw [← one_len]; assumption)⟩
  case go =>
    intro PS
    refine lex_made1 ⟨_, _, _, _, _, _, _, _, _, _, _, _, _, _, _, _, _, _, text, t, _, _, _, _, _, _, _, _, _, _, _, _, _, _, [], _, [], _⟩ (by k_asm) N9 (fun kF kN => ?_)
    refine hret _ _ _ kF ⟨PS, by assumption, ?ot, ?lt⟩ rfl rfl ?ord rfl rfl rfl rfl ?rst ?r9 kN
    case ot => assumption
    case lt => dsimp only; and_intros <;> omega
    case ord => dsimp only; (first | (and_intros <;> omega) | omega)
    case rst => (rename (∀ p, p ∈ rest → p.1 < _) => lR; intro p hp; exact Nat.lt_of_lt_of_le (lR p hp) (Nat.le_succ _))
    case r9 => dsimp only; omega
end
end
section
local macro_rules | `(tactic| o_head 19) => `(tactic| first | assumption | exact zc1 ‹_› | exact zc2 ‹_› | exact zc3 ‹_› | exact zc4 ‹_› | exact zc5 ‹_› | exact zc6 ‹_› | exact zc7 ‹_› | exact zc8 ‹_› | exact zc9 ‹_› | exact zc10 ‹_› | exact zc11 ‹_› | exact zc0 ‹_› ‹_›)
local macro_rules | `(tactic| walk_at "call builtin:len") => `(tactic| (k_here; (with_reducible show wpAny _ _ (call _ [Value.ref _]) _ _ _); k_dflt (apply len_list; exact News.isList (by k_asm) (by k_mem); (rw [List.size_toArray]; omega)); (try rw [List.size_toArray])))
local macro_rules | `(tactic| walk_at "call builtin:list.extend") => `(tactic| (k_here; (with_reducible show wpAny _ _ (call _ [_, Value.str _ _]) _ _ _); k_dflt (apply call_extend_str; exact rfl; k_asm; k_asm; k_updF; (first | assumption | (rw [sizeLine_eq]; omega))); intro h' tk' vs' n' hl' F' N'; (try dsimp only at N')))
local macro_rules | `(tactic| walk_at "truthy ref") => `(tactic| (k_here; k_dflt (apply kgr_truthy; k_asm; k_mem; exact rfl; exact rfl; (first | assumption | omega)); (try simp only [List.isEmpty_cons, List.isEmpty_nil, Bool.not_false, Bool.not_true])))
section
open PySem PySem.W PyProof.Rows
set_option Elab.async false
set_option linter.unusedVariables false
set_option linter.unusedSimpArgs false
set_option linter.unusedSectionVars false
set_option pp.deepTerms false
set_option pp.deepTerms.threshold 6
set_option pp.proofs false
set_option maxRecDepth 100000
set_option compiler.extract_closed false
set_option rowWalk.seconds 0
set_option genInjectivity false
set_option genSizeOf false

section
variable {prog : Program} {w : World} {A A₀ : Around} {E : Value → Shared → Prop} {s : Shared} {K : Frag} {L : Addr} {h₀ base : Heap} {m mg mb : Str → Option Value} {foot rest : List (Addr × Obj)} {p : Program} {loose : List Str} {mean : ExcName → Option Value} {Q : Value → Shared → Prop}
theorem enterFq {env : Env} {outer : List Env} {name qual : Str} {params : Arguments} {body : List Stmt} {scope : Scope} {dV kV doc pm cdv ct oc : Value} {an od : Option Addr} {osl : Array (Option Value)} {f : Addr} {args : Args} {binds : List (Str × Value)}
    (B : Below A₀ base outer h₀) (F : Fr h₀ L s.heap m) (X₀ : K.In h₀) (N : News h₀ L s.heap (foot ++ rest)) (hoff : ∀ p ∈ rest, p.1 ∉ foot.map (·.1)) (T : Top p loose mean mg mb h₀) (hA : A.frames = some (env :: outer)) (hf : env.frame = some L) (hke : env.scope.kind = .function)
    (ho : K.lookup f = some ⟨oc, od, .func (fnOf name qual params body scope dV kV doc pm an cdv ct), osl⟩) (hcd : codeIn K cdv qual = true) (hroom : A.depth < recursionLimit)
    (hbind : BindsTo s (fnOf name qual params body scope dV kV doc pm an cdv ct) args binds) (hloc : ∀ y ∈ binds, scope.names.lookup y.1 = some .local)
    (h : ∀ g L' h₁, Fr h₀ L g m → Fr g L' h₁ (fun y => binds.reverse.lookup y) → News g L' h₁ foot → Below A base (env :: outer) g → K.In g → Top p loose mean mg mb g →
      wpAny (model prog w) (A.deeper (envOf qual scope L' f cdv)) (execs body (envOf qual scope L' f cdv))
        (fun fl s' => LeaveF h₀ L m g rest Q (match fl with | .ret v => v | _ => .none) s')
        (fun e s' => wpAny (model prog w) (A.deeper (envOf qual scope L' f cdv)) (leaving (envOf qual scope L' f cdv) e) (fun _ s'' => E e s'') (fun e' s'' => E e' s'') s')
        { s with heap := h₁, toks := s.toks + binds.length })
    (hco : scope.isCoroutine = false) (hgen : scope.isGenerator = false) (hk : scope.kind = .function)
    (hcell : ∀ x ∈ scope.names, x.2 ≠ .cell) : codeAny (model prog w) A (.call (.ref f) args) (fun r s' => match r with | .ok (.ret v) => Q v s' | .ok _ => False | .error e => E e s') s := by
  refine code_defG B F X₀ (nsub N fun p hp => List.mem_append_left _ hp) T hA hf hke ho hcd hroom hbind hloc (fun g L' h₁ FG F' N' B' X' T' G => ?_) hco hgen hk hcell
  refine wpAny_mono (h g L' h₁ FG F' N' B' X' T') (fun fl s' hl => ?_) fun _ _ y => y
  obtain ⟨L'', m'', foot', F'', N'', k⟩ := hl
  have NR : News h₀ L s'.heap rest := rest_kept F'' G (nsub N fun p hp => List.mem_append_right _ hp) hoff
  refine ⟨L'', m'', foot', F'', N'', fun kF kN => k kF (napp kN NR) fun q hq p hp e => ?_⟩
  have h1 := (N'' q hq).2.2
  have h2 := G _ _ (N p (List.mem_append_right _ hp)).1 (hoff p hp)
  rw [e, h1] at h2
  cases h2
end

abbrev lexRest (P : Params) (z : Lx) : List (Addr × Obj) := match lexLed P z with
  | [a, b, c, _, _, k, y, e, _, _] => [a, b, c, k, y, e]
  | _ => []
theorem pop0 {prog : Program} {w : World} {A : Around} {E : Value → Shared → Prop} {s : Shared} {h₀ : Heap} {L D : Addr} {m : Str → Option Value} {news news' : List (Addr × Obj)} {n : Nat} {u : Tok} {q : List Value} {y : Value} {Q : Value → Shared → Prop} (F : Fr h₀ L s.heap m) (N : News h₀ L s.heap news)
    (U : Upd D (W.listOf (y :: q).toArray n) (W.listOf q.toArray (n + 1)) news news') (hz : (y :: q).length ≤ sizeLine) (h : ∀ h', Fr h₀ L h' m → News h₀ L h' news' → Q y { s with heap := h' }) : wpAny (model prog w) A (call (.builtin "list.pop") [.ref D, .int 0 u]) Q E s :=
  kl_popAt (k := 0) (p := []) (q := q) F N rfl (by rw [List.size_toArray]; unfold seqIndex?; simp) rfl U hz h
theorem nl_txt : Str.ofString "\n" = txt [10] := by kernel_rfl
theorem txt_inj {a b : List Nat} (h : txt a = txt b) : a = b := by
  have := congrArg (fun x : Str => x.cps.toList) h
  simpa using this
theorem nl_t {l : List Nat} (h : (txt l == Str.ofString "\n") = true) : l = [10] := by
  rw [nl_txt] at h
  exact txt_inj (eq_of_beq h)
theorem nl_f {l : List Nat} (h : (txt l == Str.ofString "\n") = false) : l ≠ [10] := by
  rintro rfl
  rw [nl_txt, beq_self_eq_true] at h
  cases h
theorem off_cons {a b : Nat} {l : List Nat} (h : a ≠ b) (r : a ∉ l) : a ∉ (b :: l) := fun hm => (List.mem_cons.mp hm).elim h r
theorem piece_use {w : World} {f : Addr} {fo : Obj} {c : Addr} {oc : Obj} {ct cg : Addr} (S : PieceSpec w f fo c oc ct cg) {p : Program} {loose : List Str} {mean : ExcName → Option Value} {mg mb : Str → Option Value}
   {dp un : Nat} {gd : Option (List Code)} {cn : Str} {cs : Scope} {a : Addr} {ccd : Value} {cl : List (Str × Addr)} {outer : List Env} {A₀ : Around} {base h₀ : Heap} {L : Addr} {m : Str → Option Value} {rest : List (Addr × Obj)} {s : Shared}
   {Q E : Value → Shared → Prop} {g : Addr} {gs : List Value} {gn : Nat} {og ot : Obj} {text : List Nat} {tt t : Tok}
   (k1 : Below A₀ base outer h₀) (k2 : Fr h₀ L s.heap m) (k3 : (hd.heap_1 w.params).In h₀) (k4 : CodeHd base 173 169) (k5 : News h₀ L s.heap ([(f, fo), (c, oc), (g, W.listOf gs.toArray gn), (cg, og), (ct, ot)] ++ rest))
   (k6 : ∀ p ∈ rest, p.1 ∉ ([(f, fo), (c, oc), (g, W.listOf gs.toArray gn), (cg, og), (ct, ot)] : List (Addr × Obj)).map (·.1)) (k7 : Top p loose mean mg mb h₀) (k8 : cs.kind = .function)
   (k9 : dp + 1 < recursionLimit) (k10 : un + 8 < cLine)
   (k11 : @LT.lt Nat _ ct cg ∧ @LT.lt Nat _ cg g ∧ @LT.lt Nat _ g f ∧ @Ne Nat c g)
   (k12 : og.data = .cell (some (.ref g))) (k13 : ot.data = .cell (some (.str (txt text) tt))) (k14 : gs.length ≤ 2000) (k15 : text.length ≤ 1000)
   (k16 : ∀ h' tk' t' vs n, Fr h₀ L h' m → News h₀ L h' ([(f, fo), (c, oc), (g, W.listOf (gs ++ vs).toArray n), (cg, og), (ct, ot)] ++ rest) → vs.length = ((text.drop gs.length).take 1).length → Q (.str (txt ((text.drop gs.length).take 1)) t') { s with heap := h', toks := tk' }) :
   wpAny (model PySem.Challenge.rw_qh0051_01.row.prog w) (ktrTop dp un gd cn cs L a ccd cl outer) (call (.ref f) [.int 1 t]) Q E s :=
  S k1 k2 k3 k4 k5 k6 k7 k8 k9 k10 k11 k12 k13 k14 k15 k16
local macro_rules | `(tactic| walk_at "call builtin:list.pop") => `(tactic| (k_here; k_dflt (apply pop0; k_asm; k_asm; k_upd; (first | assumption | (rw [sizeLine_eq]; omega))); intro h' F' N'; (try dsimp only at N')))
local macro_rules | `(tactic| walk_at "call ref") => `(tactic| o_head [call (Value.ref (Lx.f _)) _])
section
variable {w : World} {p : Program} {loose : List Str} {mean : ExcName → Option Value} {mg mb : Str → Option Value}
   {dp un : Nat} {gd : Option (List Code)} {cn : Str} {cs : Scope} {a : Addr} {ccd : Value} {cl : List (Str × Addr)} {outer : List Env} {A₀ : Around} {base h₀ : Heap} {L : Addr} {m : Str → Option Value} {rest : List (Addr × Obj)} {s : Shared}
   {Q E : Value → Shared → Prop}
   (B : Below A₀ base outer h₀) (F : Fr h₀ L s.heap m) (X : (hd.heap_1 w.params).In h₀) {z : Lx} (C : CodeHd base 173 169) (N : News h₀ L s.heap ((lexLed w.params z ++ [(z.c, z.oc)]) ++ rest)) (O : ∀ p ∈ rest, p.1 ∉ (lexLed w.params z ++ [(z.c, z.oc)]).map (·.1)) (Z : LxOk w z) (hcz : (@LT.lt Nat _ z.c z.ct) ∨ (@LT.lt Nat _ z.g z.c ∧ @LT.lt Nat _ z.c z.f)) (T : Top p loose mean mg mb h₀) (hk : cs.kind = .function)
include B F X C N O Z hcz T hk
set_option maxHeartbeats 4000000 in
theorem c_readcC (hd' : dp + 2 < recursionLimit) (hu : un + 16 < cLine) (hg : z.gs.length ≤ 2000) (ht : z.text.length ≤ 1000)
    (hret : ∀ h' tk' t' vs n ln tl, Fr h₀ L h' m → vs.length = ((z.text.drop z.gs.length).take 1).length → ln = z.ln + (if (z.text.drop z.gs.length).take 1 = [10] then 1 else 0) →
      News h₀ L h' ((lexLed w.params { z with gs := z.gs ++ vs, gn := n, ln := ln, tl := tl } ++ [(z.c, z.oc)]) ++ rest) → Q (.str (txt ((z.text.drop z.gs.length).take 1)) t') { s with heap := h', toks := tk' }) :
    codeAny (model PySem.Challenge.rw_qh0051_01.row.prog w) (ktrTop dp un gd cn cs L a ccd cl outer) (.call (.ref 42) ⟨[.ref z.x], []⟩) (fun r s' => match r with | .ok (.ret v) => Q v s' | .ok _ => False | .error e => E e s') s := by
  revert X; k_fill; intro X
  have Zg := Z.og
  have Zt := Z.ot
  have Zl := Z.lt
  k_dflt (refine' enterFq (args := ⟨_, _⟩) ?k1 ?k2 ?k3 ?k4 ?k4o ?k5 ?kA ?kF ?kK ?k6 ?k7 ?k8 ?k9 ?kB ?_ ?c2 ?c3 ?c4 ?c5; (case kA => exact rfl); (case kF => exact rfl); (case kK => assumption); (case k1 => k_asm); (case k2 => k_asm); (case k3 => k_asm); (case k4 => k_asm); (case k4o => assumption); (case k5 => k_asm); (case k6 => k_is); (case k7 => k_is); (case k8 => ktr_room); (case k9 => exact BindsTo.of_eq rfl); (case c5 => decide); (case kB => exact locs rfl); (case c2 => exact rfl); (case c3 => exact rfl); (case c4 => exact rfl); k_whole; intro g' L' h' FG' F' N' B' X' T'; (try dsimp only); (try k_fold))
  (with_reducible rename News _ _ _ _ => N9)
  dsimp only [List.cons_append, List.nil_append] at N9
  k_steps
  refine Stop.out ?_
  (with_reducible rename News _ _ _ _ => N8)
  k_dflt (refine' piece_use Z.spec (rest := lexRest w.params z) ?k1 ?k2 ?k3 ?k4 ?k5 ?k6 ?k7 ?k8 ?k9 ?k10 ?k11 Zg Zt hg ht ?_)
  case k1 => k_asm
  case k2 => k_asm
  case k3 => k_asm
  case k4 => kn_code
  case k5 => exact nsub N8 (by k_dflt (repeat (first | exact sub_nil | (refine sub_cons ?_ ?_; (focus k_mem)))))
  case k6 => k_dflt (repeat' (first | exact List.forall_mem_nil _ | refine List.forall_mem_cons.mpr ⟨?_, ?_⟩ | exact List.not_mem_nil | refine off_cons ?_ ?_ | k_ne))
  case k7 => k_asm
  case k8 => exact rfl
  case k9 => ktr_room
  case k10 => ktr_units
  case k11 => exact ⟨Zl.1, by omega, by omega, by omega⟩
  intro h' tk' t' vs n F' N' hl
  (try dsimp only)
  dsimp only [List.cons_append, List.nil_append] at N'
  k_steps
  · skip
    (with_reducible rename News _ _ _ _ => N8)
    exact ⟨_, _, lexLed w.params { z with gs := z.gs ++ vs, gn := n, ln := z.ln + 1, tl := _ } ++ [(z.c, z.oc)], by k_asm, nsub N8 (by k_dflt (repeat (first | exact sub_nil | (refine sub_cons ?_ ?_; (focus k_mem))))), fun kF kN _ => hret _ _ _ vs n _ _ kF hl (by rw [if_pos (nl_t (by assumption))]) kN⟩
  · skip
    (with_reducible rename News _ _ _ _ => N8)
    exact ⟨_, _, lexLed w.params { z with gs := z.gs ++ vs, gn := n } ++ [(z.c, z.oc)], by k_asm, nsub N8 (by k_dflt (repeat (first | exact sub_nil | (refine sub_cons ?_ ?_; (focus k_mem))))), fun kF kN _ => hret _ _ _ vs n _ _ kF hl (by rw [if_neg (nl_f (by assumption))]; exact (Int.add_zero _).symm) kN⟩
theorem c_readc (hd' : dp + 2 < recursionLimit) (hu : un + 16 < cLine) (hg : z.gs.length ≤ 2000) (ht : z.text.length ≤ 1000)
    (hret : ∀ h' tk' t' vs n ln tl, Fr h₀ L h' m → vs.length = ((z.text.drop z.gs.length).take 1).length → ln = z.ln + (if (z.text.drop z.gs.length).take 1 = [10] then 1 else 0) →
      News h₀ L h' ((lexLed w.params { z with gs := z.gs ++ vs, gn := n, ln := ln, tl := tl } ++ [(z.c, z.oc)]) ++ rest) → Q (.str (txt ((z.text.drop z.gs.length).take 1)) t') { s with heap := h', toks := tk' }) :
    wpAny (model PySem.Challenge.rw_qh0051_01.row.prog w) (ktrTop dp un gd cn cs L a ccd cl outer) (call (.ref 42) [.ref z.x]) Q E s := wpAny_call (c_readcC B F X C N O Z hcz T hk hd' hu hg ht hret)
set_option maxHeartbeats 4000000 in
theorem c_push {v : Value} (hd' : dp + 1 < recursionLimit) (hu : un + 8 < cLine) (hp : z.ps.length ≤ 2000)
    (hret : ∀ h' tk' n, Fr h₀ L h' m → News h₀ L h' ((lexLed w.params { z with ps := z.ps ++ [v], pn := n } ++ [(z.c, z.oc)]) ++ rest) → Q .none { s with heap := h', toks := tk' }) :
    wpAny (model PySem.Challenge.rw_qh0051_01.row.prog w) (ktrTop dp un gd cn cs L a ccd cl outer) (call (.ref 56) [.ref z.x, v]) Q E s := by
  revert X; k_fill; intro X
  have Zl := Z.lt
  k_dflt ktr_enter
  (with_reducible rename News _ _ _ _ => N9)
  dsimp only [List.cons_append, List.nil_append] at N9
  k_steps
  (with_reducible rename News _ _ _ _ => N8)
  simp only [List.push_toArray] at N8
  exact ⟨_, _, lexLed w.params { z with ps := z.ps ++ [v], pn := _ } ++ [(z.c, z.oc)], by k_asm, nsub N8 (by k_dflt (repeat (first | exact sub_nil | (refine sub_cons ?_ ?_; (focus k_mem))))), fun kF kN _ => hret _ _ _ kF kN⟩
set_option maxHeartbeats 4000000 in
theorem c_get1 {v : Value} {vs : List Value} (hd' : dp + 1 < recursionLimit) (hu : un + 8 < cLine) (hp : z.ps.length ≤ 2000) (hv : z.ps = v :: vs)
    (hret : ∀ h' tk' n, Fr h₀ L h' m → News h₀ L h' ((lexLed w.params { z with ps := vs, pn := n } ++ [(z.c, z.oc)]) ++ rest) → Q v { s with heap := h', toks := tk' }) :
    wpAny (model PySem.Challenge.rw_qh0051_01.row.prog w) (ktrTop dp un gd cn cs L a ccd cl outer) (call (.ref 49) [.ref z.x]) Q E s := by
  revert X; k_fill; intro X
  have Zl := Z.lt
  k_dflt ktr_enter
  (with_reducible rename News _ _ _ _ => N9)
  dsimp only [List.cons_append, List.nil_append] at N9
  rw [hv] at N9
  have hlen : (v :: vs).length < 2 ^ 62 := by rw [← hv]; omega
  have hlen2 : (v :: vs).length ≤ sizeLine := by rw [← hv, sizeLine_eq]; omega
  k_steps
  (with_reducible rename News _ _ _ _ => N8)
  exact ⟨_, _, lexLed w.params { z with ps := vs, pn := _ } ++ [(z.c, z.oc)], by k_asm, nsub N8 (by k_dflt (repeat (first | exact sub_nil | (refine sub_cons ?_ ?_; (focus k_mem))))), fun kF kN _ => hret _ _ _ kF kN⟩
end
end
section
open PySem PySem.W PyProof.Rows PySem.Calls
set_option Elab.async false
set_option maxRecDepth 100000
set_option genInjectivity false
set_option genSizeOf false
open Builtin
theorem slot_ci_next : Slot "callable_iterator" "__next__" "callable_iterator.__next__" :=
  .of (owner := "callable_iterator") (n := "__next__") (by rw [typeLookup_type, builtinLookup_eq_fast]; kernel_rfl) (by decide +kernel) (by decide +kernel) (by decide +kernel)
    (by first | exact .inl (by decide +kernel) | exact .inr (by decide +kernel)) (by rw [isSubtype_type]; kernel_rfl)
theorem slot_ci_self : Slot "callable_iterator" "__iter__" "callable_iterator.__iter__" :=
  .of (owner := "callable_iterator") (n := "__iter__") (by rw [typeLookup_type, builtinLookup_eq_fast]; kernel_rfl) (by decide +kernel) (by decide +kernel) (by decide +kernel)
    (by first | exact .inl (by decide +kernel) | exact .inr (by decide +kernel)) (by rw [isSubtype_type]; kernel_rfl)
theorem entry_ci_next : entryFor table "callable_iterator.__next__" = some Builtin.«callable_iterator.__next__» := entryFor_of_tree (by kernel_rfl)
theorem entry_ci_self : entryFor table "callable_iterator.__iter__" = some Builtin.«dict_keyiterator.__iter__» := entryFor_alias (id' := "dict_keyiterator.__iter__") (by kernel_rfl) rfl (by decide +kernel) (by kernel_rfl)
theorem args_ci_next (a : Value) : argsOk "callable_iterator.__next__" ⟨[a], []⟩ := by unfold argsOk; kernel_rfl
theorem args_ci_self (a : Value) : argsOk "callable_iterator.__iter__" ⟨[a], []⟩ := by unfold argsOk; kernel_rfl
theorem empty_txt : Str.ofString "" = txt [] := by kernel_rfl
theorem txt_nil_ne {l : List Nat} (h : ¬ l = []) : (txt [] == txt l) = false := by
  cases hb : (txt [] == txt l)
  · rfl
  · exact absurd (txt_inj (eq_of_beq hb)).symm h
abbrev ciObj (q : Addr) (t : Tok) : Obj := { cls := .type "callable_iterator", data := .fields #[.ref q, .str (Str.ofString "") t, .bool false] }
theorem wpAny_callBorrowed {M : Model} {A : Around} {E : Value → Shared → Prop} {s : Shared} {f : Value} {pos : List Value} {Q : Value → Shared → Prop} (h : wpAny M A (call f pos) Q E s) : wpAny M A (callBorrowed f pos) Q E s := fun Γ p hΓ => by
  have := h Γ p hΓ
  rw [Sem.wp_cmd_call] at this
  show wpCode M _ _ p s
  refine cast (congrArg (fun R => wpCode M _ R p s) (funext fun r => funext fun s' => ?_)) this
  cases r with
  | error e => rfl
  | ok f => cases f <;> rfl
section
variable {prog : Program} {w : World} {A : Around} {E : Value → Shared → Prop} {s : Shared}
theorem pyIter_ci {it q : Addr} {t : Tok} {Q : Value → Shared → Prop} (hit : s.heap.get? it = some (ciObj q t)) (h : Q (.ref it) s) : wpAny (model prog w) A (pyIter (.ref it)) Q E s := by
  have ty : s.TypeIs (.ref it) "callable_iterator" := ⟨_, hit, rfl⟩
  refine wpAny_pyIter_slot ty slot_ci_self (wpAny_call_entry slot_ci_self ty entry_ci_self ?_ (args_ci_self _))
  show wpAny _ _ (ret (.ref it)) _ _ s
  exact wpAny_pure ⟨_, rfl, "callable_iterator", _, ty, slot_ci_next.lookup, h⟩
theorem borrows_method {q a : Addr} {self : Value} {fo : Obj} {fd : FuncData} {Q : Bool → Shared → Prop} (hq : s.heap.get? q = some (methodObj (.ref a) self)) (ha : s.heap.get? a = some fo) (hd : fo.data = .func fd) (h : Q true s) :
    wpAny (model prog w) A (borrowsExactly (.ref q)) Q E s := by
  unfold borrowsExactly
  refine wpAny_bind (wpAny_load hq ?_)
  show wpAny _ _ (load a >>= _) _ _ _
  refine wpAny_bind (wpAny_load ha ?_)
  rw [hd]
  exact wpAny_pure h
theorem pyNext_ci {it q a : Addr} {t : Tok} {self : Value} {fo : Obj} {fd : FuncData} {Q : Option Value → Shared → Prop} (hh : A.handled = none) (hit : s.heap.get? it = some (ciObj q t)) (hq : s.heap.get? q = some (methodObj (.ref a) self)) (hne : q ≠ it)
    (ha : s.heap.get? a = some fo) (hd : fo.data = .func fd)
    (h : codeAny (model prog w) A.in1 (.call (.ref a) ⟨[self], []⟩) (fun r s' => match r with | .ok (.ret v) => (s'.heap.get? it = some (ciObj q t) ∧ s'.heap.get? q = some (methodObj (.ref a) self) ∧ s'.heap.get? a = some fo ∧ ∃ l u, v = .str (txt l) u ∧
      (l ≠ [] → Q (some v) s') ∧ (l = [] → ∀ h' tk, Heap.ExtBut it s'.heap h' → Q none { s' with heap := h', toks := tk })) | .ok _ => False | .error _ => False) s) : wpAny (model prog w) A (pyNext (.ref it)) Q E s := by
  have ty : s.TypeIs (.ref it) "callable_iterator" := ⟨_, hit, rfl⟩
  unfold pyNext
  refine wpAny_bind (wpAny_attempt (wpAny_callSpecial?_slot (name := PySem.Str.ofString "__next__") ty slot_ci_next
    (wpAny_call_entry slot_ci_next ty entry_ci_next ?_ (args_ci_next _))))
  unfold «callable_iterator.__next__»
  show wpAny _ _ (field (.ref it) 2 >>= _) _ _ s
  refine wpAny_bind (wpAny_field hit rfl (x := .bool false) rfl ?_)
  show wpAny _ _ (field (.ref it) 0 >>= _) _ _ s
  refine wpAny_bind (wpAny_field hit rfl (x := .ref q) rfl ?_)
  refine wpAny_bind (wpAny_attempt ?_)
  unfold callOutOfASlot
  refine wpAny_bind (borrows_method hq ha hd ?_)
  rw [if_pos rfl]
  refine wpAny_callBorrowed (wpAny_call (method_call hq ?_))
  refine codeAny_mono h (fun r s' hr => ?_)
  rcases r with e | f
  · exact (hr : False).elim
  cases f
  case ret v =>
    obtain ⟨hit', hq', ha', l, u, rfl, h1, h2⟩ := hr
    dsimp only
    refine wpAny_bind (wpAny_field hit' rfl (x := .bool false) rfl ?_)
    show wpAny _ _ (field (.ref it) 1 >>= _) _ _ _
    refine wpAny_bind (wpAny_field hit' rfl (x := .str (Str.ofString "") t) rfl ?_)
    refine wpAny_bind (wpAny_holding (eqBool_str ?_))
    by_cases hl : l = []
    · subst hl
      rw [if_neg (by rw [empty_txt, beq_self_eq_true]; simp)]
      refine wpAny_bind (wpAny_rule ?_)
      refine wpAny_bind ?_
      show wpAny _ _ (field (.ref it) 0 >>= _) _ _ _
      refine wpAny_bind (wpAny_field hit' rfl (x := .ref q) rfl ?_)
      refine wpAny_bind ?_
      unfold slotLetsGo
      refine wpAny_bind (borrows_method hq' ha' hd ?_)
      refine wpAny_pure ?_
      have d0 : (ciObj q t).data = .fields #[.ref q, .str (Str.ofString "") t, .bool false] := rfl
      refine wpAny_bind (wpAny_setField hit' d0 (by simp) ?_)
      have g1 := Heap.get?_update_self (Obj.mapFields fun vs => vs.setIfInBounds 0 .none) hit' (Obj.isFreed_of_fields (Obj.data_mapFields d0 _))
      have d1 := Obj.data_mapFields d0 (fun vs => vs.setIfInBounds 0 Value.none)
      refine wpAny_bind (wpAny_setField g1 d1 (by simp) ?_)
      have g2 := Heap.get?_update_self (Obj.mapFields fun vs => vs.setIfInBounds 1 .none) g1 (Obj.isFreed_of_fields (Obj.data_mapFields d1 _))
      have d2 := Obj.data_mapFields d1 (fun vs => vs.setIfInBounds 1 Value.none)
      refine wpAny_setField g2 d2 (by simp) ?_
      show wpAny _ _ (newExc (.type "StopIteration") [] >>= _) _ _ _
      refine wpAny_bind ?_
      simp only [newExc, newTuple]
      refine wpAny_bind (wpAny_newObj_type ?_ (by size_fits))
      refine wpAny_bind (m := firstArgMember _ _) (wpAny_of_eq (a := Value.none) (by first | rfl | (simp only [firstArgMember]; rfl)) ?_)
      refine wpAny_newObj_type ?_ (by size_fits)
      simp only [raiseNew]
      refine wpAny_bind (wpAny_handled ?_)
      rw [show A.in1.handled = none from hh]
      refine wpAny_bind (wpAny_pure (wpAny_throw ?_))
      refine wpAny_bind (wpAny_isInstance (T := "StopIteration") (b := true) ⟨_, Heap.get?_push_size _ rfl, rfl⟩ isSubtype_stop ?_)
      refine wpAny_pure (h2 rfl _ _ ?_)
      refine Heap.ExtBut.push (Heap.ExtBut.push ?_ _) _
      intro b o hb e
      exact (Heap.get?_update_other _ _ (Ne.symm hb)).trans ((Heap.get?_update_other _ _ (Ne.symm hb)).trans ((Heap.get?_update_other _ _ (Ne.symm hb)).trans e))
    · rw [if_pos (by rw [empty_txt, txt_nil_ne hl]; rfl)]
      exact wpAny_pure ⟨_, rfl, wpAny_pure (h1 hl)⟩
  all_goals exact (hr : False).elim
theorem plain_iter : plainId "iter" = true := by decide +kernel
theorem entry_iter : entryFor table "iter" = some Builtin.«iter» := entryFor_of_tree (by kernel_rfl)
theorem check_iter (a b : Value) : checkBuiltinCall "iter" ⟨[a, b], []⟩ = pure () := by kernel_rfl
theorem look_method_call : typeLookup (.type "method") "__call__" = pure (some (.builtin "method.__call__")) := by rw [typeLookup_type, builtinLookup_eq_fast]; kernel_rfl
theorem call_iter2 {q : Addr} {t : Tok} {f self : Value} {h₀ : Heap} {L : Addr} {m : Str → Option Value} {news : List (Addr × Obj)} {Q : Value → Shared → Prop} (F : Fr h₀ L s.heap m) (N : News h₀ L s.heap news) (hq : (q, methodObj f self) ∈ news)
    (h : ∀ I h', Fr h₀ L h' m → News h₀ L h' ((I, ciObj q t) :: news) → (∀ p ∈ news, p.1 < I) → Q (.ref I) { s with heap := h' }) :
    wpAny (model prog w) A (call (.builtin "iter") [.ref q, .str (Str.ofString "") t]) Q E s := by
  refine wpAny_call (codeAny_call_builtin plain_iter entry_iter (wpAny_of_eq (check_iter _ _) ?_))
  show wpAny _ _ (specialOf (.ref q) "__call__" >>= _) _ _ s
  refine wpAny_bind (wpAny_specialOf (T := "method") (v := .ref q) ⟨_, (N _ hq).1, rfl⟩ look_method_call ?_)
  refine wpAny_bind (wpAny_rule ?_)
  refine wpAny_bind (wpAny_newObj_type (wpAny_pure ?_))
  refine h _ _ (F.push _) (fun p hp => ?_) (fun p hp => Heap.lt_size (N p hp).1)
  rcases List.mem_cons.mp hp with rfl | hp
  · exact ⟨Heap.get?_push_size _ rfl, Nat.ne_of_gt F.ns.lt, next_is_new F⟩
  · exact ⟨Heap.get?_push_of_some _ (N p hp).1, (N p hp).2⟩
end
end
section
open PySem PySem.W PyProof.Rows PySem.Calls
set_option Elab.async false
set_option maxRecDepth 100000
set_option genInjectivity false
set_option genSizeOf false
section
variable {prog : Program} {w : World} {A : Around} {E : Value → Shared → Prop} {s : Shared} {env : Env}
noncomputable def LoopC (prog : Program) (w : World) (A : Around) (env : Env) (x : Str) (px : Pos) (body : List Stmt) (Q : Flow → Shared → Prop) (E : Value → Shared → Prop) (I : Addr) (s₂ : Shared) : Prop :=
  codeAny (model prog w) A (.forLoop (.Name x px) (.ref I) body [] env) (fun r s' => match r with | .ok f => Q f s' | .error e => cameBackBy (model prog w) A env E e s') s₂
noncomputable def CiAt (prog : Program) (w : World) (A : Around) (env : Env) (x : Str) (px : Pos) (body : List Stmt) (Q : Flow → Shared → Prop) (E : Value → Shared → Prop) (I : Addr) (xv : Value) (s₁ : Shared) : Prop :=
  xv = .ref I ∧ (∃ q t, s₁.heap.get? I = some (ciObj q t)) ∧ LoopC prog w A env x px body Q E I s₁
theorem CiAt.mk {x : Str} {px : Pos} {body : List Stmt} {Q : Flow → Shared → Prop} {I q : Addr} {t : Tok} (h : s.heap.get? I = some (ciObj q t)) (h2 : LoopC prog w A env x px body Q E I s) : CiAt prog w A env x px body Q E I (.ref I) s := ⟨rfl, ⟨q, t, h⟩, h2⟩
theorem for_ci {Q : Flow → Shared → Prop} {x : Str} {px pos : Pos} {iter : Expr} {body : List Stmt} {I : Addr}
    (h : wpAny (model prog w) A (eval iter env) (fun xv s₁ => CiAt prog w A env x px body Q E I xv s₁) E s)
    (hs : ∀ x, foldedSetIterable iter env x = pure x) :
    wpAny (model prog w) A (exec (.For (.Name x px) iter body [] pos) env) Q E s := by
  refine wpAny_For (wpAny_mono h (fun xv s₁ h₁ => ?_) fun _ _ e => e) hs
  obtain ⟨rfl, ⟨q, t, h2⟩, h3⟩ := h₁
  exact pyIter_ci h2 h3
theorem ci_gen {h₀ h : Heap} {L I q : Addr} {t : Tok} {r : List (Addr × Obj)} {G : Prop} (N : News h₀ L h ((I, ciObj q t) :: r)) (k : ∀ t', News h₀ L h ((I, ciObj q t') :: r) → G) : G := k t N
theorem loop_ci {σ : Type} {h₀ : Heap} {x : Str} {px : Pos} {body : List Stmt} {Q : Flow → Shared → Prop} {I : Addr} {m₀ : Str → Option Value}
    (stored : List Str) (ps : σ → List (Str × Value)) (Led : σ → List (Addr × Obj)) (Ok : σ → Prop) (μ : σ → Nat) (c₀ : σ) (hE : PassesOwn (model prog w) A env E)
    (F : Fr h₀ env.locals s.heap m₀) (N : News h₀ env.locals s.heap (Led c₀)) (hps : ∀ p ∈ ps c₀, m₀ p.1 = some p.2) (h0 : Ok c₀)
    (turn : ∀ c (u : Str → Option Value) h tk, Ok c → Fr h₀ env.locals h (fun y => kstB (fun z => if stored.contains z then u z else m₀ z) (ps c) y) → News h₀ env.locals h (Led c) →
      wpAny (model prog w) A (pyNext (.ref I)) (fun r s₁ => match r with
        | none => Q .next s₁
        | some v => wpAny (model prog w) A (storeName env x v) (fun _ s₂ => wpAny (model prog w) A (execs body env) (WTurnPost h₀ env.locals stored m₀ ps Led (fun c' => Ok c' ∧ μ c' < μ c) { s with heap := h, toks := tk } Q) E s₂) E s₁) E { s with heap := h, toks := tk }) :
    LoopC prog w A env x px body Q E I s := by
  refine codeAny_forLoop (fun n s' => ∃ c m₁ h tk, s' = { s with heap := h, toks := tk } ∧ μ c = n ∧ Ok c ∧ Fr h₀ env.locals h m₁ ∧ News h₀ env.locals h (Led c) ∧ (∀ p ∈ ps c, m₁ p.1 = some p.2) ∧ (∀ z, (∀ p ∈ ps c, z ≠ p.1) → stored.contains z = false → m₁ z = m₀ z)) ?_ (μ c₀)
    ⟨c₀, m₀, s.heap, s.toks, rfl, rfl, h0, F, N, hps, fun _ _ _ => rfl⟩
  rintro n s' ⟨c, m₁, h, tk, rfl, rfl, hOk, F₁, N₁, h1, h2⟩
  have F₂ : Fr h₀ env.locals h (fun y => kstB (fun z => if stored.contains z then m₁ z else m₀ z) (ps c) y) := by
    have e : (fun y => kstB (fun z => if stored.contains z then m₁ z else m₀ z) (ps c) y) = m₁ := by
      funext y
      refine kstB_eq h1 fun hy => ?_
      show (if stored.contains y then m₁ y else m₀ y) = m₁ y
      cases hs : stored.contains y
      · simp only [Bool.false_eq_true, if_false]; exact (h2 y hy hs).symm
      · simp
    rw [e]; exact F₁
  refine wpAny_passesOwn hE (wpAny_mono (turn c m₁ h tk hOk F₂ N₁) (fun r s₁ hr => ?_) fun _ _ e => e)
  cases r with
  | none => exact wpAny_passesOwn hE (wpAny_execs_nil hr)
  | some v =>
    refine wpAny_passesOwn hE (wpAny_assign_Name (wpAny_mono hr (fun _ s₂ h₂ => ?_) fun _ _ e => e))
    refine wpAny_passesOwn hE (wpAny_mono h₂ (fun f s₃ h₃ => ?_) fun _ _ e => e)
    have fin : WTurnEnd h₀ env.locals stored m₀ ps Led (fun c' => Ok c' ∧ μ c' < μ c) { s with heap := h, toks := tk } s₃ → ∃ m, m < μ c ∧ ∃ c m₁ h tk, s₃ = { s with heap := h, toks := tk } ∧ μ c = m ∧ Ok c ∧ Fr h₀ env.locals h m₁ ∧ News h₀ env.locals h (Led c) ∧ (∀ p ∈ ps c, m₁ p.1 = some p.2) ∧ (∀ z, (∀ p ∈ ps c, z ≠ p.1) → stored.contains z = false → m₁ z = m₀ z) := by
      rintro ⟨c', h', tk', m', news', rfl, F', N', hsub, g1, g2, g3, g4⟩
      exact ⟨_, g4, c', m', h', tk', rfl, rfl, g3, F', nsub N' hsub, g1, g2⟩
    cases f with
    | ret v => exact h₃
    | brk => exact h₃
    | next => exact fin h₃
    | cont => exact fin h₃
end
end
section
open PySem PySem.W PyProof.Rows PySem.Calls
set_option Elab.async false
set_option maxRecDepth 100000
set_option genInjectivity false
set_option genSizeOf false

structure Gt where
  gs : List Value
  gn : Nat
  ln : Int
  tl : Tok
  tok : List Nat
  tt : Tok
abbrev Gt.lx (z : Lx) (c : Gt) : Lx := { z with ps := [], gs := c.gs, gn := c.gn, ln := c.ln, tl := c.tl }
abbrev Ws (c : Nat) : Prop := c = 10 ∨ c = 9 ∨ c = 13 ∨ c = 32
noncomputable def escQ : List Nat → List Nat
  | [] => []
  | c :: r => if c = 34 ∨ c = 92 then 92 :: c :: escQ r else c :: escQ r
noncomputable def escU : List Nat → List Nat
  | [] => []
  | c :: r => if c = 34 ∨ c = 92 ∨ c = 32 ∨ c = 10 then 92 :: c :: escU r else c :: escU r
inductive Tk : List Nat → List Nat → List Nat → Prop
  | q (body tail : List Nat) : Tk (34 :: (escQ body ++ 34 :: tail)) body tail
  | u (b : Nat) (body tail : List Nat) (e : Nat) : Ws e → (∀ c ∈ b :: body, c ≠ 9 ∧ c ≠ 13) → Tk (escU (b :: body) ++ e :: tail) (b :: body) tail
  | e : Tk [] [] []
  | s (c : Nat) (rem tok tail : List Nat) : Ws c → Tk rem tok tail → Tk (c :: rem) tok tail
noncomputable def LnOk (z : Lx) : Prop := z.gs.length ≤ z.text.length ∧ z.ln = 1 + ((z.text.take z.gs.length).count 10 : Nat)

theorem ws_txt : (Str.ofString "\n\t\x0d ").cps.toList = [10, 9, 13, 32] := by kernel_rfl
theorem ws_iff (c : Nat) : (Builtin.Str.occurrences (Str.ofString "\n\t\x0d ") (txt [c]) 0 (Str.ofString "\n\t\x0d ").length 1).isEmpty = !decide (Ws c) := by
  have h := StrLaws.found_one (Str.ofString "\n\t\x0d ") c
  rw [ws_txt] at h
  rw [← Bool.not_not (List.isEmpty _), show (txt [c]) = (⟨#[c]⟩ : Str) from rfl, h]
  congr 1
  exact decide_eq_decide.mpr (by simp [Ws])
theorem ws_t {c : Nat} (h : (Builtin.Str.occurrences (Str.ofString "\n\t\x0d ") (txt [c]) 0 (Str.ofString "\n\t\x0d ").length 1).isEmpty = true) : ¬ Ws c := by
  rw [ws_iff] at h; simpa using h
theorem ws_f {c : Nat} (h : (Builtin.Str.occurrences (Str.ofString "\n\t\x0d ") (txt [c]) 0 (Str.ofString "\n\t\x0d ").length 1).isEmpty = false) : Ws c := by
  rw [ws_iff] at h
  exact of_decide_eq_true (by rw [← Bool.not_eq_false']; exact h)
theorem quo_txt : Str.ofString "\"" = txt [34] := by kernel_rfl
theorem bsl_txt : Str.ofString "\\" = txt [92] := by kernel_rfl
theorem quo_t {c : Nat} (h : (txt [c] == Str.ofString "\"") = true) : c = 34 := by
  rw [quo_txt] at h; have := txt_inj (eq_of_beq h); simpa using this
theorem quo_f {c : Nat} (h : (txt [c] == Str.ofString "\"") = false) : c ≠ 34 := by
  rintro rfl; rw [quo_txt, beq_self_eq_true] at h; cases h
theorem bsl_t {c : Nat} (h : (txt [c] == Str.ofString "\\") = true) : c = 92 := by
  rw [bsl_txt] at h; have := txt_inj (eq_of_beq h); simpa using this
theorem bsl_f {c : Nat} (h : (txt [c] == Str.ofString "\\") = false) : c ≠ 92 := by
  rintro rfl; rw [bsl_txt, beq_self_eq_true] at h; cases h
theorem txt_app (a b : List Nat) : txt a ++ txt b = txt (a ++ b) := by
  show Str.append _ _ = _
  unfold Str.append
  simp
theorem escU_cons (c : Nat) (r : List Nat) : escU (c :: r) = if c = 34 ∨ c = 92 ∨ c = 32 ∨ c = 10 then 92 :: c :: escU r else c :: escU r := rfl
theorem escQ_cons (c : Nat) (r : List Nat) : escQ (c :: r) = if c = 34 ∨ c = 92 then 92 :: c :: escQ r else c :: escQ r := rfl
theorem tk_nil {tok tail : List Nat} (h : Tk [] tok tail) : tok = [] ∧ tail = [] := by
  generalize hr : ([] : List Nat) = rem at h
  cases h with
  | q body tail => cases hr
  | u b body tail e _ _ => simp at hr
  | e => exact ⟨rfl, rfl⟩
  | s c rem tok tail _ _ => cases hr
theorem tk_ws {c : Nat} {r tok tail : List Nat} (hw : Ws c) (h : Tk (c :: r) tok tail) : Tk r tok tail := by
  generalize hr : c :: r = rem at h
  cases h with
  | q body tail => injection hr with h1 _; subst h1; simp [Ws] at hw
  | u b body tail e _ hb =>
    have hb' := hb b (.head _)
    rw [escU_cons] at hr
    split at hr
    · injection hr with h1 _; subst h1; simp [Ws] at hw
    · rename_i hn
      injection hr with h1 _
      subst h1
      rcases hw with rfl | rfl | rfl | rfl
      · exact absurd (.inr (.inr (.inr rfl))) hn
      · exact absurd rfl hb'.1
      · exact absurd rfl hb'.2
      · exact absurd (.inr (.inr (.inl rfl))) hn
  | e => cases hr
  | s c' rem tok tail _ h2 => injection hr with _ h3; subst h3; exact h2
theorem tk_quo {r tok tail : List Nat} (h : Tk (34 :: r) tok tail) : r = escQ tok ++ 34 :: tail := by
  generalize hr : 34 :: r = rem at h
  cases h with
  | q body tail => injection hr
  | u b body tail e _ hb =>
    rw [escU_cons] at hr
    split at hr
    · injection hr with h1 _; omega
    · injection hr with h1 _; omega
  | e => cases hr
  | s c' rem tok tail hw _ => injection hr with h1 _; subst h1; simp [Ws] at hw
theorem tk_bsl {r tok tail : List Nat} (h : Tk (92 :: r) tok tail) : ∃ b body e, tok = b :: body ∧ r = b :: (escU body ++ e :: tail) ∧ Ws e ∧ ∀ c ∈ body, c ≠ 9 ∧ c ≠ 13 := by
  generalize hr : 92 :: r = rem at h
  cases h with
  | q body tail => injection hr with h1 _; omega
  | u b body tail e he hb =>
    rw [escU_cons] at hr
    split at hr
    · injection hr with _ h1; exact ⟨b, body, e, rfl, h1, he, fun c hc => hb c (.tail _ hc)⟩
    · injection hr with h1 _; omega
  | e => cases hr
  | s c' rem tok tail hw _ => injection hr with h1 _; subst h1; simp [Ws] at hw
theorem tk_pl {c : Nat} {r tok tail : List Nat} (h1 : c ≠ 34) (h2 : c ≠ 92) (h3 : ¬ Ws c) (h : Tk (c :: r) tok tail) : ∃ body e, tok = c :: body ∧ r = escU body ++ e :: tail ∧ Ws e ∧ ∀ c ∈ body, c ≠ 9 ∧ c ≠ 13 := by
  generalize hr : c :: r = rem at h
  cases h with
  | q body tail => injection hr with h4 _; exact absurd h4 h1
  | u b body tail e he hb =>
    rw [escU_cons] at hr
    split at hr
    · injection hr with h4 _; exact absurd h4 h2
    · injection hr with h4 h5; subst h4; exact ⟨body, e, rfl, h5, he, fun c hc => hb c (.tail _ hc)⟩
  | e => cases hr
  | s c' rem tok tail hw _ => injection hr with h4 _; subst h4; exact absurd hw h3
theorem drop_step {l : List Nat} {n c : Nat} {tail : List Nat} (h : l.drop n = c :: tail) : n < l.length ∧ l.drop (n + 1) = tail ∧ l.take (n + 1) = l.take n ++ [c] := by
  have hn : n < l.length := by
    have := congrArg List.length h
    simp at this; omega
  refine ⟨hn, ?_, ?_⟩
  · rw [← List.drop_drop, h]; rfl
  · rw [List.take_add_one]
    congr 1
    have : l[n]? = some c := by
      have := congrArg (·[0]?) h
      simpa using this
    rw [this]; rfl
theorem lnok_step {z : Lx} {c : Nat} {tail : List Nat} {v : Value} {n : Nat} {ln : Int} {tl : Tok} (h : LnOk z) (hr : z.text.drop z.gs.length = c :: tail) (hln : ln = z.ln + (if c = 10 then 1 else 0)) :
    LnOk { z with gs := z.gs ++ [v], gn := n, ln := ln, tl := tl } ∧ z.text.drop (z.gs ++ [v]).length = tail := by
  obtain ⟨h1, h2, h3⟩ := drop_step hr
  refine ⟨⟨?_, ?_⟩, ?_⟩
  · show (z.gs ++ [v]).length ≤ _
    rw [List.length_append]; exact h1
  · show ln = 1 + _
    rw [hln, h.2]
    show _ = 1 + (((z.text.take (z.gs ++ [v]).length).count 10 : Nat) : Int)
    rw [List.length_append, show [v].length = 1 from rfl, h3, List.count_append]
    by_cases hc : c = 10
    · subst hc; simp; omega
    · rw [if_neg hc, List.count_cons_of_ne (by simpa using fun e => hc e)]; simp
  · rw [List.length_append]; exact h2
theorem escQ_34 {bd tail r : List Nat} (h : escQ bd ++ 34 :: tail = 34 :: r) : bd = [] ∧ r = tail := by
  cases bd with
  | nil => simp [escQ] at h; exact ⟨rfl, h.symm⟩
  | cons b bd =>
    rw [escQ_cons] at h
    split at h
    · injection h with h1 _; omega
    · injection h with h1 _; omega
theorem escQ_92 {bd tail r : List Nat} (h : escQ bd ++ 34 :: tail = 92 :: r) : ∃ b bd', bd = b :: bd' ∧ r = b :: (escQ bd' ++ 34 :: tail) := by
  cases bd with
  | nil => simp [escQ] at h
  | cons b bd =>
    rw [escQ_cons] at h
    split at h
    · injection h with _ h1; exact ⟨b, bd, rfl, h1.symm⟩
    · injection h with h1 _; omega
theorem escQ_pl {c : Nat} {bd tail r : List Nat} (h1 : c ≠ 34) (h2 : c ≠ 92) (h : escQ bd ++ 34 :: tail = c :: r) : ∃ bd', bd = c :: bd' ∧ r = escQ bd' ++ 34 :: tail := by
  cases bd with
  | nil => simp [escQ] at h; omega
  | cons b bd =>
    rw [escQ_cons] at h
    split at h
    · injection h with h3 _; omega
    · injection h with h3 h4; subst h3; exact ⟨bd, rfl, h4.symm⟩
theorem escQ_nil {bd tail : List Nat} (h : escQ bd ++ 34 :: tail = []) : False := by simp at h
theorem escU_nil {e : Nat} {bd tail : List Nat} (h : escU bd ++ e :: tail = []) : False := by simp at h
theorem escU_ws {c e : Nat} {bd tail r : List Nat} (hc : Ws c) (hb : ∀ c ∈ bd, c ≠ 9 ∧ c ≠ 13) (h : escU bd ++ e :: tail = c :: r) : bd = [] ∧ r = tail := by
  cases bd with
  | nil => simp [escU] at h; exact ⟨rfl, h.2.symm⟩
  | cons b bd =>
    have hb' := hb b (.head _)
    rw [escU_cons] at h
    split at h
    · injection h with h1 _; subst h1; exact absurd hc (by decide)
    · rename_i hn
      injection h with h1 _
      subst h1
      rcases hc with rfl | rfl | rfl | rfl
      · exact absurd (.inr (.inr (.inr rfl))) hn
      · exact absurd rfl hb'.1
      · exact absurd rfl hb'.2
      · exact absurd (.inr (.inr (.inl rfl))) hn
theorem escU_92 {e : Nat} {bd tail r : List Nat} (he : Ws e) (h : escU bd ++ e :: tail = 92 :: r) : ∃ b bd', bd = b :: bd' ∧ r = b :: (escU bd' ++ e :: tail) := by
  cases bd with
  | nil => simp [escU] at h; unfold Ws at he; omega
  | cons b bd =>
    rw [escU_cons] at h
    split at h
    · injection h with _ h1; exact ⟨b, bd, rfl, h1.symm⟩
    · injection h with h1 _; omega
theorem escU_pl {c e : Nat} {bd tail r : List Nat} (h1 : ¬ Ws c) (h2 : c ≠ 92) (he : Ws e) (h : escU bd ++ e :: tail = c :: r) : ∃ bd', bd = c :: bd' ∧ r = escU bd' ++ e :: tail := by
  cases bd with
  | nil => simp [escU] at h; obtain ⟨h3, _⟩ := h; subst h3; exact absurd he h1
  | cons b bd =>
    rw [escU_cons] at h
    split at h
    · injection h with h3 _; omega
    · injection h with h3 h4; subst h3; exact ⟨bd, rfl, h4.symm⟩
end
section
open PySem PySem.W PyProof.Rows
set_option Elab.async false
set_option linter.unusedVariables false
set_option linter.unusedSimpArgs false
set_option linter.unusedSectionVars false
set_option pp.deepTerms false
set_option pp.deepTerms.threshold 6
set_option pp.proofs false
set_option maxRecDepth 100000
set_option compiler.extract_closed false
set_option rowWalk.seconds 0
set_option genInjectivity false
set_option genSizeOf false
local macro_rules | `(tactic| k_steps) => `(tactic| o_head 36)
local macro_rules | `(tactic| walk_at "call builtin:iter") => `(tactic| (k_here; k_dflt (apply call_iter2; k_asm; k_asm; k_mem); intro I' h' F' N' l1; (try dsimp only); (try k_lt l1)))
local macro_rules | `(tactic| walk_at "call ref") => `(tactic| o_head (42))
local macro_rules | `(tactic| walk_at "exec For") => `(tactic| (k_here; refine Stop.mk ?_))
local macro_rules | `(tactic| walk_at "exec For Name Name cons nil") => `(tactic| (k_here; refine Stop.mk ?_))
local macro_rules | `(tactic| walk_at "exec For Name") => `(tactic| (k_here; refine Stop.mk ?_))
section
variable {w : World} {p : Program} {loose : List Str} {mean : ExcName → Option Value} {mg mb : Str → Option Value}
   {dp un : Nat} {gd : Option (List Code)} {cn : Str} {cs : Scope} {a : Addr} {ccd : Value} {cl : List (Str × Addr)} {outer : List Env} {A₀ : Around} {base h₀ : Heap} {L : Addr} {m : Str → Option Value} {rest : List (Addr × Obj)} {s : Shared}
   {Q E : Value → Shared → Prop}
   (B : Below A₀ base outer h₀) (F : Fr h₀ L s.heap m) (X : (hd.heap_1 w.params).In h₀) {z : Lx} {I q : Addr} {t : Tok} (C : CodeHd base 173 169) (N : News h₀ L s.heap ((lexLed w.params z ++ [(z.c, z.oc)]) ++ ((I, ciObj q t) :: (q, methodObj (.ref 42) (.ref z.x)) :: rest))) (O : ∀ p ∈ ((I, ciObj q t) :: (q, methodObj (.ref 42) (.ref z.x)) :: rest), p.1 ∉ (lexLed w.params z ++ [(z.c, z.oc)]).map (·.1)) (Z : LxOk w z) (hcz : (@LT.lt Nat _ z.c z.ct) ∨ (@LT.lt Nat _ z.g z.c ∧ @LT.lt Nat _ z.c z.f)) (T : Top p loose mean mg mb h₀) (hk : cs.kind = .function)
include B F X C N O Z hcz T hk
set_option maxHeartbeats 4000000 in
theorem c_next {Qn : Option Value → Shared → Prop} (hd' : dp + 2 < recursionLimit) (hu : un + 17 < cLine) (hg : z.gs.length ≤ 2000) (ht : z.text.length ≤ 1000) (hqI : @Ne Nat q I) (hrI : ∀ p ∈ rest, @Ne Nat p.1 I)
    (h1 : ∀ c tail h' tk' t' v n ln tl, z.text.drop z.gs.length = c :: tail → ln = z.ln + (if c = 10 then 1 else 0) → Fr h₀ L h' m →
      News h₀ L h' ((lexLed w.params { z with gs := z.gs ++ [v], gn := n, ln := ln, tl := tl } ++ [(z.c, z.oc)]) ++ ((I, ciObj q t) :: (q, methodObj (.ref 42) (.ref z.x)) :: rest)) → Qn (some (.str (txt [c]) t')) { s with heap := h', toks := tk' })
    (h0 : z.text.drop z.gs.length = [] → ∀ h' tk' n tl, Fr h₀ L h' m → News h₀ L h' ((lexLed w.params { z with gn := n, tl := tl } ++ [(z.c, z.oc)]) ++ rest) → Qn none { s with heap := h', toks := tk' }) :
    wpAny (model PySem.Challenge.rw_qh0051_01.row.prog w) (ktrTop dp un gd cn cs L a ccd cl outer) (pyNext (.ref I)) Qn E s := by
  revert X; k_fill; intro X
  have mI : ∀ {h' z'}, News h₀ L h' ((lexLed w.params z' ++ [(z.c, z.oc)]) ++ ((I, ciObj q t) :: (q, methodObj (.ref 42) (.ref z.x)) :: rest)) → h'.get? I = some (ciObj q t) := fun N => (N (I, _) (List.mem_append_right _ (.head _))).1
  have mq : ∀ {h' z'}, News h₀ L h' ((lexLed w.params z' ++ [(z.c, z.oc)]) ++ ((I, ciObj q t) :: (q, methodObj (.ref 42) (.ref z.x)) :: rest)) → h'.get? q = some (methodObj (.ref 42) (.ref z.x)) := fun N => (N (q, _) (List.mem_append_right _ (.tail _ (.head _)))).1
  have hx : ∃ o1 o2 fd o4, (hd.heap_1 w.params).lookup 42 = some ⟨o1, o2, .func fd, o4⟩ := ⟨_, _, _, _, by k_is⟩
  obtain ⟨o1, o2, fd, o4, hx⟩ := hx
  refine pyNext_ci (a := 42) (E := E) rfl (mI N) (mq N) hqI ((X.keeps F.keep) _ _ hx) rfl ?_
  refine codeAny_mono (c_readcC (dp := dp) (un := un + 1) (E := fun _ _ => False) (Q := fun v s' => s'.heap.get? I = some (ciObj q t) ∧ s'.heap.get? q = some (methodObj (.ref 42) (.ref z.x)) ∧ s'.heap.get? 42 = some ⟨o1, o2, .func fd, o4⟩ ∧ ∃ l u, v = .str (txt l) u ∧
      (l ≠ [] → Qn (some v) s') ∧ (l = [] → ∀ h' tk, Heap.ExtBut I s'.heap h' → Qn none { s' with heap := h', toks := tk })) B F X C N O Z hcz T hk hd' (by omega) hg ht ?_) (fun r s' hr => ?_)
  · intro h' tk' t' vs n ln tl F' hl hln N'
    refine ⟨mI N', mq N', (X.keeps F'.keep) _ _ hx, _, _, rfl, fun hne => ?_, fun he h2 tk2 hext => ?_⟩
    · cases hr : z.text.drop z.gs.length with
      | nil => rw [hr] at hne; exact absurd rfl hne
      | cons c tail =>
        rw [hr] at hl hln
        obtain ⟨v, rfl⟩ : ∃ v, vs = [v] := List.length_eq_one_iff.mp hl
        refine h1 c tail h' tk' t' v n ln tl hr ?_ F' N'
        rw [hln]
        by_cases hc : c = 10
        · subst hc; rfl
        · rw [if_neg hc, if_neg (by simpa using hc)]
    · have hr : z.text.drop z.gs.length = [] := by
        cases hr : z.text.drop z.gs.length with
        | nil => rfl
        | cons c tail => rw [hr] at he; cases he
      rw [hr] at hl hln
      obtain rfl : vs = [] := List.length_eq_zero_iff.mp hl
      have hln' : ln = z.ln := by rw [hln]; exact Int.add_zero _
      subst hln'
      rw [List.append_nil] at N'
      have nI := N' (I, ciObj q t) (List.mem_append_right _ (.head _))
      refine h0 hr h2 tk2 n tl ⟨?_, fun b o e => hext b o (fun e2 => by rw [e2, nI.2.2] at e; cases e) (F'.keep b o e), F'.above⟩ (fun p hp => ?_)
      · obtain ⟨oL, es, ep, hL, r⟩ := F'.ns
        exact ⟨oL, es, ep, hext _ _ nI.2.1.symm hL, r⟩
      · rcases List.mem_append.mp hp with hp' | hp'
        · have n1 := N' p (List.mem_append_left _ hp')
          exact ⟨hext _ _ (fun e2 => O (I, ciObj q t) (.head _) (by rw [← e2]; exact List.mem_map_of_mem (f := (·.1)) hp')) n1.1, n1.2⟩
        · have n1 := N' p (List.mem_append_right _ (.tail _ (.tail _ hp')))
          exact ⟨hext _ _ (hrI p hp') n1.1, n1.2⟩
  · rcases r with e | f
    · exact (hr : False).elim
    cases f
    case ret v => exact hr
    all_goals exact (hr : False).elim
end
section
variable {w : World} {p : Program} {loose : List Str} {mean : ExcName → Option Value} {mg mb : Str → Option Value}
   {dp un : Nat} {gd : Option (List Code)} {cn : Str} {cs : Scope} {a : Addr} {ccd : Value} {cl : List (Str × Addr)} {outer : List Env} {A₀ : Around} {base h₀ : Heap} {L : Addr} {m : Str → Option Value} {rest : List (Addr × Obj)} {s : Shared}
   {Q E : Value → Shared → Prop}
   (B : Below A₀ base outer h₀) (F : Fr h₀ L s.heap m) (X : (hd.heap_1 w.params).In h₀) {z : Lx} (C : CodeHd base 173 169) (N : News h₀ L s.heap ((lexLed w.params z ++ [(z.c, z.oc)]) ++ rest)) (O : ∀ p ∈ rest, p.1 ∉ (lexLed w.params z ++ [(z.c, z.oc)]).map (·.1)) (Z : LxOk w z) (hcz : (@LT.lt Nat _ z.c z.ct) ∨ (@LT.lt Nat _ z.g z.c ∧ @LT.lt Nat _ z.c z.f)) (T : Top p loose mean mg mb h₀) (hk : cs.kind = .function)
include B F X C N O Z hcz T hk
theorem c_read1 {b : Nat} {tail : List Nat} (hr : z.text.drop z.gs.length = b :: tail) (hd' : dp + 2 < recursionLimit) (hu : un + 16 < cLine) (hg : z.gs.length ≤ 2000) (ht : z.text.length ≤ 1000)
    (hret : ∀ h' tk' t' v n ln tl, Fr h₀ L h' m → ln = z.ln + (if b = 10 then 1 else 0) →
      News h₀ L h' ((lexLed w.params { z with gs := z.gs ++ [v], gn := n, ln := ln, tl := tl } ++ [(z.c, z.oc)]) ++ rest) → Q (.str (txt [b]) t') { s with heap := h', toks := tk' }) :
    wpAny (model PySem.Challenge.rw_qh0051_01.row.prog w) (ktrTop dp un gd cn cs L a ccd cl outer) (call (.ref 42) [.ref z.x]) Q E s := by
  refine c_readc B F X C N O Z hcz T hk hd' hu hg ht ?_
  intro h' tk' t' vs n ln tl F' hl hln N'
  rw [hr] at hl hln ⊢
  obtain ⟨v, rfl⟩ : ∃ v, vs = [v] := List.length_eq_one_iff.mp hl
  refine hret h' tk' t' v n ln tl F' ?_ N'
  rw [hln]
  by_cases hc : b = 10
  · subst hc; rfl
  · rw [if_neg hc, if_neg (by simpa using hc)]
end
section
variable {w : World} {p : Program} {loose : List Str} {mean : ExcName → Option Value} {mg mb : Str → Option Value}
   {dp un : Nat} {gd : Option (List Code)} {cn : Str} {cs : Scope} {a : Addr} {ccd : Value} {cl : List (Str × Addr)} {outer : List Env} {A₀ : Around} {base h₀ : Heap} {L : Addr} {m : Str → Option Value} {rest : List (Addr × Obj)} {s : Shared}
   {Q E : Value → Shared → Prop}
   (B : Below A₀ base outer h₀) (F : Fr h₀ L s.heap m) (X : (hd.heap_1 w.params).In h₀) {z : Lx} (C : CodeHd base 173 169) (N : News h₀ L s.heap ((lexLed w.params z ++ [(z.c, z.oc)]) ++ rest)) (O : ∀ p ∈ rest, p.1 ∉ (lexLed w.params z ++ [(z.c, z.oc)]).map (·.1)) (Z : LxOk w z) (hcz : (@LT.lt Nat _ z.c z.ct) ∨ (@LT.lt Nat _ z.g z.c ∧ @LT.lt Nat _ z.c z.f)) (T : Top p loose mean mg mb h₀) (hk : cs.kind = .function)
include B F X C N O Z hcz T hk
set_option maxHeartbeats 4000000 in
theorem c_get2 {tok tail : List Nat} (hd' : dp + 3 < recursionLimit) (hu : un + 40 < cLine) (ht : z.text.length ≤ 1000) (hp : z.ps = []) (htk : tok.length ≤ 1000) (hn : LnOk z) (hT : Tk (z.text.drop z.gs.length) tok tail)
    (hret : ∀ h' tk' t' gs gn ln tl, Fr h₀ L h' m → LnOk ((⟨gs, gn, ln, tl, [], 0⟩ : Gt).lx z) → z.text.drop gs.length = tail →
      News h₀ L h' ((lexLed w.params ((⟨gs, gn, ln, tl, [], 0⟩ : Gt).lx z) ++ [(z.c, z.oc)]) ++ rest) → Q (.str (txt tok) t') { s with heap := h', toks := tk' }) :
    wpAny (model PySem.Challenge.rw_qh0051_01.row.prog w) (ktrTop dp un gd cn cs L a ccd cl outer) (call (.ref 49) [.ref z.x]) Q E s := by
  revert X; k_fill; intro X
  have Zg := Z.og
  have Zt := Z.ot
  have Zl := Z.lt
  k_dflt ktr_enter
  (with_reducible rename News _ _ _ _ => N9)
  dsimp only [List.cons_append, List.nil_append] at N9
  rw [hp] at N9
  k_steps
  refine Stop.out ?_
  (with_reducible rename News _ _ _ _ => N8)
  rename_i q0 _ l1a I0 _ l1b _ F8
  rw [empty_txt] at F8
  refine ci_gen N8 (fun t9 N7 => ?_)
  clear N8
  k_dflt (refine for_ci (I := I0) ?_ (fun _ => rfl))
  k_steps
  refine CiAt.mk (N7 _ (by k_mem)).1 ?_
  refine loop_ci [Str.ofString "ch"] (fun c : Gt => [(Str.ofString "token", .str (txt []) c.tt)]) (fun c => (lexLed w.params (c.lx z) ++ [(z.c, z.oc)]) ++ [(I0, ciObj q0 t9), (q0, methodObj (.ref 42) (.ref z.x))])
    (fun c => LnOk (c.lx z) ∧ Tk (z.text.drop c.gs.length) tok tail) (fun c => z.text.length - c.gs.length) ⟨z.gs, z.gn, z.ln, z.tl, [], _⟩ ?hE F8 (nsub N7 (by k_dflt (repeat (first | exact sub_nil | (refine sub_cons ?_ ?_; (focus k_mem)))))) (by kst_all) ⟨hn, hT⟩ ?_
  case hE => passes_own
  rintro ⟨gs, gn, ln, tl, tk0, tt⟩ u h tk ⟨hLn, hTk⟩ F6 N6
  dsimp only at hLn hTk F6 N6
  have hgl : gs.length ≤ 1000 := Nat.le_trans hLn.1 ht
  refine c_next (z := (⟨gs, gn, ln, tl, tk0, tt⟩ : Gt).lx z) (rest := []) (by k_asm) (by k_asm) (by k_asm) (by kn_code) N6 ?O ⟨Z.spec, Zg, Zt, Zl⟩ hcz (by k_asm) rfl (by ktr_room) (by ktr_units) (by dsimp only; omega) ht ?n1 (fun _ h => nomatch h) ?t1 ?t0
  case O => k_dflt (repeat' (first | exact List.forall_mem_nil _ | refine List.forall_mem_cons.mpr ⟨?_, ?_⟩ | exact List.not_mem_nil | refine off_cons ?_ ?_ | k_ne))
  case n1 => k_ne
  case t0 =>
    intro hr h' tk' n tl' F' N'
    (try dsimp only)
    simp only [List.cons_append, List.nil_append, List.append_nil] at N'
    k_steps
    (with_reducible rename News _ _ _ _ => N3)
    have hnil : Tk [] tok tail := by have e : z.text.drop gs.length = [] := hr; rw [e] at hTk; exact hTk
    obtain ⟨rfl, rfl⟩ := tk_nil hnil
    exact ⟨_, _, lexLed w.params ((⟨gs, n, ln, tl', [], 0⟩ : Gt).lx z) ++ [(z.c, z.oc)], by k_asm, nsub N3 (by k_dflt (repeat (first | exact sub_nil | (refine sub_cons ?_ ?_; (focus k_mem))))), fun kF kN _ => hret _ _ _ gs n ln tl' kF hLn hr kN⟩
  case t1 =>
    intro c tail1 h' tk' t' v n ln' tl' hr hln F' N'
    have hr' : z.text.drop gs.length = c :: tail1 := hr
    obtain ⟨hLn1, hdr1⟩ := lnok_step (v := v) (n := n) (tl := tl') hLn hr hln
    have hdr1' : z.text.drop (gs ++ [v]).length = tail1 := hdr1
    have hT1 : Tk (c :: tail1) tok tail := by rw [hr'] at hTk; exact hTk
    (try dsimp only)
    simp only [List.cons_append, List.nil_append, List.append_nil] at N'
    k_steps
    · have e1 := quo_t (c := c) (by assumption)
      subst e1
      refine Stop.out ?_
      (with_reducible rename News _ _ _ _ => N5)
      k_dflt (refine for_ci (I := I0) ?_ (fun _ => rfl))
      k_steps
      (with_reducible rename Fr _ _ _ _ => Fq)
      (try rw [txt_app] at Fq)
      refine CiAt.mk (N5 (I0, ciObj q0 t9) (by k_mem)).1 ?_
      refine loop_ci [Str.ofString "ch"] (fun c : Gt × List Nat => [(Str.ofString "token", .str (txt c.1.tok) c.1.tt)]) (fun c => (lexLed w.params (c.1.lx z) ++ [(z.c, z.oc)]) ++ [(I0, ciObj q0 t9), (q0, methodObj (.ref 42) (.ref z.x))])
        (fun c => LnOk (c.1.lx z) ∧ c.1.tok ++ c.2 = tok ∧ z.text.drop c.1.gs.length = escQ c.2 ++ 34 :: tail) (fun c => c.2.length) (⟨gs ++ [v], n, ln', tl', [], _⟩, tok) ?hE (by k_asm) (nsub N5 (by k_dflt (repeat (first | exact sub_nil | (refine sub_cons ?_ ?_; (focus k_mem)))))) (by kst_all) ⟨hLn1, rfl, hdr1'.trans (tk_quo hT1)⟩ ?_
      case hE => passes_own
      rintro ⟨⟨gs2, gn2, ln2, tl2, tok2, tt2⟩, bd⟩ u2 h2 tk2 ⟨hLn2, hE2, hD2⟩ F5 N5b
      dsimp only at hLn2 hE2 hD2 F5 N5b
      have hgl2 : gs2.length ≤ 1000 := Nat.le_trans hLn2.1 ht
      have z2 : (txt tok2).length ≤ 1000 := by
        have e9 : (txt tok2).length = tok2.length := by simp [Str.length]
        have e8 := congrArg List.length hE2
        rw [List.length_append] at e8
        omega
      refine c_next (z := (⟨gs2, gn2, ln2, tl2, tok2, tt2⟩ : Gt).lx z) (rest := []) (by k_asm) (by k_asm) (by k_asm) (by kn_code) N5b ?O ⟨Z.spec, Zg, Zt, Zl⟩ hcz (by k_asm) rfl (by ktr_room) (by ktr_units) (by dsimp only; omega) ht ?n1 (fun _ h => nomatch h) ?t1 ?t0
      case O => k_dflt (repeat' (first | exact List.forall_mem_nil _ | refine List.forall_mem_cons.mpr ⟨?_, ?_⟩ | exact List.not_mem_nil | refine off_cons ?_ ?_ | k_ne))
      case n1 => k_ne
      case t0 =>
        intro hr0
        exact (escQ_nil (hD2.symm.trans hr0)).elim
      case t1 =>
        intro c2 tail2 h3 tk3 t3 v3 n3 ln3 tl3 hr3 hln3 F3 N3
        have hr3' : z.text.drop gs2.length = c2 :: tail2 := hr3
        obtain ⟨hLn3, hdr3⟩ := lnok_step (v := v3) (n := n3) (tl := tl3) hLn2 hr3 hln3
        have hdr3' : z.text.drop (gs2 ++ [v3]).length = tail2 := hdr3
        have hq := hD2.symm.trans hr3'
        (try dsimp only)
        simp only [List.cons_append, List.nil_append, List.append_nil] at N3
        k_steps
        · have e1 := quo_t (c := c2) (by assumption)
          subst e1
          obtain ⟨rfl, rfl⟩ := escQ_34 hq
          have e2 : tok2 = tok := by simpa using hE2
          subst e2
          (with_reducible rename News _ _ _ _ => N2)
          exact ⟨_, _, lexLed w.params ((⟨gs2 ++ [v3], n3, ln3, tl3, [], 0⟩ : Gt).lx z) ++ [(z.c, z.oc)], by k_asm, nsub N2 (by k_dflt (repeat (first | exact sub_nil | (refine sub_cons ?_ ?_; (focus k_mem))))), fun kF kN _ => hret _ _ _ _ _ _ _ kF hLn3 hdr3' kN⟩
        · have e1 := bsl_t (c := c2) (by assumption)
          subst e1
          obtain ⟨b, bd, rfl, hb⟩ := escQ_92 hq
          refine Stop.out ?_
          (with_reducible rename News _ _ _ _ => N2)
          refine c_read1 (z := (⟨gs2 ++ [v3], n3, ln3, tl3, tok2, tt2⟩ : Gt).lx z) (rest := [(I0, ciObj q0 t9), (q0, methodObj (.ref 42) (.ref z.x))]) (by k_asm) (by k_asm) (by k_asm) (by kn_code) (nsub N2 (by k_dflt (repeat (first | exact sub_nil | (refine sub_cons ?_ ?_; (focus k_mem)))))) ?O ⟨Z.spec, Zg, Zt, Zl⟩ hcz (by k_asm) rfl (hdr3'.trans hb) (by ktr_room) (by ktr_units) (by dsimp only; simp only [List.length_append, List.length_cons, List.length_nil]; omega) ht ?rd
          case O => k_dflt (repeat' (first | exact List.forall_mem_nil _ | refine List.forall_mem_cons.mpr ⟨?_, ?_⟩ | exact List.not_mem_nil | refine off_cons ?_ ?_ | k_ne))
          case rd =>
            intro h4 tk4 t4 v4 n4 ln4 tl4 F4 hln4 N4
            obtain ⟨hLn4, hdr4⟩ := lnok_step (v := v4) (n := n4) (tl := tl4) hLn3 (hdr3'.trans hb) hln4
            have z4 : (txt [b]).length = 1 := rfl
            (try dsimp only)
            simp only [List.cons_append, List.nil_append, List.append_nil] at N4
            k_steps
            (with_reducible rename Fr _ _ _ _ => F2)
            rw [txt_app] at F2
            (with_reducible rename News _ _ _ _ => N1)
            exact ⟨(⟨gs2 ++ [v3] ++ [v4], n4, ln4, tl4, tok2 ++ [b], _⟩, bd), _, _, _, _, rfl, F2, N1, (by k_dflt (repeat (first | exact sub_nil | (refine sub_cons ?_ ?_; (focus k_mem))))), (by kst_all), (by
          (intros; rename_i h2 h3; (try simp only [List.forall_mem_cons, List.not_mem_nil, false_implies, implies_true, and_true, ne_eq] at h2); (try simp only [List.contains_cons, List.contains_nil, Bool.or_false, Bool.or_eq_false_iff, beq_eq_false_iff_ne, ne_eq] at h3); simp [kstB, *])), ⟨⟨hLn4, (by simpa using hE2), hdr4⟩, (by simp)⟩⟩
        · obtain ⟨bd, rfl, hb⟩ := escQ_pl (quo_f (c := c2) (by assumption)) (bsl_f (c := c2) (by assumption)) hq
          have z4 : (txt [c2]).length = 1 := rfl
          k_steps
          (with_reducible rename Fr _ _ _ _ => F2)
          rw [txt_app] at F2
          (with_reducible rename News _ _ _ _ => N1)
          exact ⟨(⟨gs2 ++ [v3], n3, ln3, tl3, tok2 ++ [c2], _⟩, bd), _, _, _, _, rfl, F2, N1, (by k_dflt (repeat (first | exact sub_nil | (refine sub_cons ?_ ?_; (focus k_mem))))), (by kst_all), (by
          (intros; rename_i h2 h3; (try simp only [List.forall_mem_cons, List.not_mem_nil, false_implies, implies_true, and_true, ne_eq] at h2); (try simp only [List.contains_cons, List.contains_nil, Bool.or_false, Bool.or_eq_false_iff, beq_eq_false_iff_ne, ne_eq] at h3); simp [kstB, *])), ⟨⟨hLn3, (by simpa using hE2), (hdr3'.trans hb)⟩, (by simp)⟩⟩
    · have e1 := bsl_t (c := c) (by assumption)
      subst e1
      obtain ⟨b, body, e, htok, hb, he, hB⟩ := tk_bsl hT1
      refine Stop.out ?_
      (with_reducible rename News _ _ _ _ => N2)
      refine c_read1 (z := (⟨gs ++ [v], n, ln', tl', [], tt⟩ : Gt).lx z) (rest := [(I0, ciObj q0 t9), (q0, methodObj (.ref 42) (.ref z.x))]) (by k_asm) (by k_asm) (by k_asm) (by kn_code) (nsub N2 (by k_dflt (repeat (first | exact sub_nil | (refine sub_cons ?_ ?_; (focus k_mem)))))) ?O ⟨Z.spec, Zg, Zt, Zl⟩ hcz (by k_asm) rfl (hdr1'.trans hb) (by ktr_room) (by ktr_units) (by dsimp only; simp only [List.length_append, List.length_cons, List.length_nil]; omega) ht ?rd
      case O => k_dflt (repeat' (first | exact List.forall_mem_nil _ | refine List.forall_mem_cons.mpr ⟨?_, ?_⟩ | exact List.not_mem_nil | refine off_cons ?_ ?_ | k_ne))
      case rd =>
        intro h4 tk4 t4 v4 n4 ln4 tl4 F4 hln4 N4
        obtain ⟨hLn4, hdr4⟩ := lnok_step (v := v4) (n := n4) (tl := tl4) hLn1 (hdr1'.trans hb) hln4
        have z4 : (txt [b]).length = 1 := rfl
        have z5 : (txt []).length = 0 := rfl
        (try dsimp only)
        simp only [List.cons_append, List.nil_append, List.append_nil] at N4
        k_steps
        refine Stop.out ?_
        (with_reducible rename News _ _ _ _ => N5)
        k_dflt (refine for_ci (I := I0) ?_ (fun _ => rfl))
        k_steps
        (with_reducible rename Fr _ _ _ _ => Fq)
        (try rw [txt_app] at Fq)
        refine CiAt.mk (N5 (I0, ciObj q0 t9) (by k_mem)).1 ?_
        refine loop_ci [Str.ofString "ch"] (fun c : Gt × List Nat => [(Str.ofString "token", .str (txt c.1.tok) c.1.tt)]) (fun c => (lexLed w.params (c.1.lx z) ++ [(z.c, z.oc)]) ++ [(I0, ciObj q0 t9), (q0, methodObj (.ref 42) (.ref z.x))])
          (fun c => LnOk (c.1.lx z) ∧ c.1.tok ++ c.2 = tok ∧ z.text.drop c.1.gs.length = escU c.2 ++ e :: tail ∧ ∀ y ∈ c.2, y ≠ 9 ∧ y ≠ 13) (fun c => c.2.length) (⟨gs ++ [v] ++ [v4], n4, ln4, tl4, [b], _⟩, body) ?hE (by k_asm) (nsub N5 (by k_dflt (repeat (first | exact sub_nil | (refine sub_cons ?_ ?_; (focus k_mem)))))) (by kst_all) ⟨hLn4, htok.symm, hdr4, hB⟩ ?_
        case hE => passes_own
        rintro ⟨⟨gs2, gn2, ln2, tl2, tok2, tt2⟩, bd⟩ u2 h2 tk2 ⟨hLn2, hE2, ⟨hD2, hB2⟩⟩ F5 N5b
        dsimp only at hLn2 hE2 hD2 F5 N5b hB2
        have hgl2 : gs2.length ≤ 1000 := Nat.le_trans hLn2.1 ht
        have z2 : (txt tok2).length ≤ 1000 := by
          have e9 : (txt tok2).length = tok2.length := by simp [Str.length]
          have e8 := congrArg List.length hE2
          rw [List.length_append] at e8
          omega
        refine c_next (z := (⟨gs2, gn2, ln2, tl2, tok2, tt2⟩ : Gt).lx z) (rest := []) (by k_asm) (by k_asm) (by k_asm) (by kn_code) N5b ?O ⟨Z.spec, Zg, Zt, Zl⟩ hcz (by k_asm) rfl (by ktr_room) (by ktr_units) (by dsimp only; omega) ht ?n1 (fun _ h => nomatch h) ?t1 ?t0
        case O => k_dflt (repeat' (first | exact List.forall_mem_nil _ | refine List.forall_mem_cons.mpr ⟨?_, ?_⟩ | exact List.not_mem_nil | refine off_cons ?_ ?_ | k_ne))
        case n1 => k_ne
        case t0 =>
          intro hr0
          exact (escU_nil (hD2.symm.trans hr0)).elim
        case t1 =>
          intro c2 tail2 h3 tk3 t3 v3 n3 ln3 tl3 hr3 hln3 F3 N3
          have hr3' : z.text.drop gs2.length = c2 :: tail2 := hr3
          obtain ⟨hLn3, hdr3⟩ := lnok_step (v := v3) (n := n3) (tl := tl3) hLn2 hr3 hln3
          have hdr3' : z.text.drop (gs2 ++ [v3]).length = tail2 := hdr3
          have hq := hD2.symm.trans hr3'
          (try dsimp only)
          simp only [List.cons_append, List.nil_append, List.append_nil] at N3
          k_steps
          · have e1 := bsl_t (c := c2) (by assumption)
            subst e1
            obtain ⟨b, bd, rfl, hb⟩ := escU_92 he hq
            refine Stop.out ?_
            (with_reducible rename News _ _ _ _ => N2)
            refine c_read1 (z := (⟨gs2 ++ [v3], n3, ln3, tl3, tok2, tt2⟩ : Gt).lx z) (rest := [(I0, ciObj q0 t9), (q0, methodObj (.ref 42) (.ref z.x))]) (by k_asm) (by k_asm) (by k_asm) (by kn_code) (nsub N2 (by k_dflt (repeat (first | exact sub_nil | (refine sub_cons ?_ ?_; (focus k_mem)))))) ?O ⟨Z.spec, Zg, Zt, Zl⟩ hcz (by k_asm) rfl (hdr3'.trans hb) (by ktr_room) (by ktr_units) (by dsimp only; simp only [List.length_append, List.length_cons, List.length_nil]; omega) ht ?rd
            case O => k_dflt (repeat' (first | exact List.forall_mem_nil _ | refine List.forall_mem_cons.mpr ⟨?_, ?_⟩ | exact List.not_mem_nil | refine off_cons ?_ ?_ | k_ne))
            case rd =>
              intro h4 tk4 t4 v4 n4 ln4 tl4 F4 hln4 N4
              obtain ⟨hLn4, hdr4⟩ := lnok_step (v := v4) (n := n4) (tl := tl4) hLn3 (hdr3'.trans hb) hln4
              have z4 : (txt [b]).length = 1 := rfl
              (try dsimp only)
              simp only [List.cons_append, List.nil_append, List.append_nil] at N4
              k_steps
              (with_reducible rename Fr _ _ _ _ => F2)
              rw [txt_app] at F2
              (with_reducible rename News _ _ _ _ => N1)
              exact ⟨(⟨gs2 ++ [v3] ++ [v4], n4, ln4, tl4, tok2 ++ [b], _⟩, bd), _, _, _, _, rfl, F2, N1, (by k_dflt (repeat (first | exact sub_nil | (refine sub_cons ?_ ?_; (focus k_mem))))), (by kst_all), (by
            (intros; rename_i h2 h3; (try simp only [List.forall_mem_cons, List.not_mem_nil, false_implies, implies_true, and_true, ne_eq] at h2); (try simp only [List.contains_cons, List.contains_nil, Bool.or_false, Bool.or_eq_false_iff, beq_eq_false_iff_ne, ne_eq] at h3); simp [kstB, *])), ⟨⟨hLn4, (by simpa using hE2), ⟨hdr4, fun c hc => hB2 c (.tail _ hc)⟩⟩, (by simp)⟩⟩
          · obtain ⟨bd, rfl, hb⟩ := escU_pl (ws_t (c := c2) (by assumption)) (bsl_f (c := c2) (by assumption)) he hq
            have z4 : (txt [c2]).length = 1 := rfl
            k_steps
            (with_reducible rename Fr _ _ _ _ => F2)
            rw [txt_app] at F2
            (with_reducible rename News _ _ _ _ => N1)
            exact ⟨(⟨gs2 ++ [v3], n3, ln3, tl3, tok2 ++ [c2], _⟩, bd), _, _, _, _, rfl, F2, N1, (by k_dflt (repeat (first | exact sub_nil | (refine sub_cons ?_ ?_; (focus k_mem))))), (by kst_all), (by
            (intros; rename_i h2 h3; (try simp only [List.forall_mem_cons, List.not_mem_nil, false_implies, implies_true, and_true, ne_eq] at h2); (try simp only [List.contains_cons, List.contains_nil, Bool.or_false, Bool.or_eq_false_iff, beq_eq_false_iff_ne, ne_eq] at h3); simp [kstB, *])), ⟨⟨hLn3, (by simpa using hE2), ⟨(hdr3'.trans hb), fun c hc => hB2 c (.tail _ hc)⟩⟩, (by simp)⟩⟩
          · obtain ⟨rfl, rfl⟩ := escU_ws (ws_f (c := c2) (by assumption)) hB2 hq
            have e2 : tok2 = tok := by simpa using hE2
            subst e2
            (with_reducible rename News _ _ _ _ => N2)
            exact ⟨_, _, lexLed w.params ((⟨gs2 ++ [v3], n3, ln3, tl3, [], 0⟩ : Gt).lx z) ++ [(z.c, z.oc)], by k_asm, nsub N2 (by k_dflt (repeat (first | exact sub_nil | (refine sub_cons ?_ ?_; (focus k_mem))))), fun kF kN _ => hret _ _ _ _ _ _ _ kF hLn3 hdr3' kN⟩
    · obtain ⟨body, e, htok, hb, he, hB⟩ := tk_pl (quo_f (c := c) (by assumption)) (bsl_f (c := c) (by assumption)) (ws_t (c := c) (by assumption)) hT1
      refine Stop.out ?_
      (with_reducible rename News _ _ _ _ => N5)
      k_dflt (refine for_ci (I := I0) ?_ (fun _ => rfl))
      k_steps
      (with_reducible rename Fr _ _ _ _ => Fq)
      (try rw [txt_app] at Fq)
      refine CiAt.mk (N5 (I0, ciObj q0 t9) (by k_mem)).1 ?_
      refine loop_ci [Str.ofString "ch"] (fun c : Gt × List Nat => [(Str.ofString "token", .str (txt c.1.tok) c.1.tt)]) (fun c => (lexLed w.params (c.1.lx z) ++ [(z.c, z.oc)]) ++ [(I0, ciObj q0 t9), (q0, methodObj (.ref 42) (.ref z.x))])
        (fun c => LnOk (c.1.lx z) ∧ c.1.tok ++ c.2 = tok ∧ z.text.drop c.1.gs.length = escU c.2 ++ e :: tail ∧ ∀ y ∈ c.2, y ≠ 9 ∧ y ≠ 13) (fun c => c.2.length) (⟨gs ++ [v], n, ln', tl', [c], _⟩, body) ?hE (by k_asm) (nsub N5 (by k_dflt (repeat (first | exact sub_nil | (refine sub_cons ?_ ?_; (focus k_mem)))))) (by kst_all) ⟨hLn1, htok.symm, hdr1'.trans hb, hB⟩ ?_
      case hE => passes_own
      rintro ⟨⟨gs2, gn2, ln2, tl2, tok2, tt2⟩, bd⟩ u2 h2 tk2 ⟨hLn2, hE2, ⟨hD2, hB2⟩⟩ F5 N5b
      dsimp only at hLn2 hE2 hD2 F5 N5b hB2
      have hgl2 : gs2.length ≤ 1000 := Nat.le_trans hLn2.1 ht
      have z2 : (txt tok2).length ≤ 1000 := by
        have e9 : (txt tok2).length = tok2.length := by simp [Str.length]
        have e8 := congrArg List.length hE2
        rw [List.length_append] at e8
        omega
      refine c_next (z := (⟨gs2, gn2, ln2, tl2, tok2, tt2⟩ : Gt).lx z) (rest := []) (by k_asm) (by k_asm) (by k_asm) (by kn_code) N5b ?O ⟨Z.spec, Zg, Zt, Zl⟩ hcz (by k_asm) rfl (by ktr_room) (by ktr_units) (by dsimp only; omega) ht ?n1 (fun _ h => nomatch h) ?t1 ?t0
      case O => k_dflt (repeat' (first | exact List.forall_mem_nil _ | refine List.forall_mem_cons.mpr ⟨?_, ?_⟩ | exact List.not_mem_nil | refine off_cons ?_ ?_ | k_ne))
      case n1 => k_ne
      case t0 =>
        intro hr0
        exact (escU_nil (hD2.symm.trans hr0)).elim
      case t1 =>
        intro c2 tail2 h3 tk3 t3 v3 n3 ln3 tl3 hr3 hln3 F3 N3
        have hr3' : z.text.drop gs2.length = c2 :: tail2 := hr3
        obtain ⟨hLn3, hdr3⟩ := lnok_step (v := v3) (n := n3) (tl := tl3) hLn2 hr3 hln3
        have hdr3' : z.text.drop (gs2 ++ [v3]).length = tail2 := hdr3
        have hq := hD2.symm.trans hr3'
        (try dsimp only)
        simp only [List.cons_append, List.nil_append, List.append_nil] at N3
        k_steps
        · have e1 := bsl_t (c := c2) (by assumption)
          subst e1
          obtain ⟨b, bd, rfl, hb⟩ := escU_92 he hq
          refine Stop.out ?_
          (with_reducible rename News _ _ _ _ => N2)
          refine c_read1 (z := (⟨gs2 ++ [v3], n3, ln3, tl3, tok2, tt2⟩ : Gt).lx z) (rest := [(I0, ciObj q0 t9), (q0, methodObj (.ref 42) (.ref z.x))]) (by k_asm) (by k_asm) (by k_asm) (by kn_code) (nsub N2 (by k_dflt (repeat (first | exact sub_nil | (refine sub_cons ?_ ?_; (focus k_mem)))))) ?O ⟨Z.spec, Zg, Zt, Zl⟩ hcz (by k_asm) rfl (hdr3'.trans hb) (by ktr_room) (by ktr_units) (by dsimp only; simp only [List.length_append, List.length_cons, List.length_nil]; omega) ht ?rd
          case O => k_dflt (repeat' (first | exact List.forall_mem_nil _ | refine List.forall_mem_cons.mpr ⟨?_, ?_⟩ | exact List.not_mem_nil | refine off_cons ?_ ?_ | k_ne))
          case rd =>
            intro h4 tk4 t4 v4 n4 ln4 tl4 F4 hln4 N4
            obtain ⟨hLn4, hdr4⟩ := lnok_step (v := v4) (n := n4) (tl := tl4) hLn3 (hdr3'.trans hb) hln4
            have z4 : (txt [b]).length = 1 := rfl
            (try dsimp only)
            simp only [List.cons_append, List.nil_append, List.append_nil] at N4
            k_steps
            (with_reducible rename Fr _ _ _ _ => F2)
            rw [txt_app] at F2
            (with_reducible rename News _ _ _ _ => N1)
            exact ⟨(⟨gs2 ++ [v3] ++ [v4], n4, ln4, tl4, tok2 ++ [b], _⟩, bd), _, _, _, _, rfl, F2, N1, (by k_dflt (repeat (first | exact sub_nil | (refine sub_cons ?_ ?_; (focus k_mem))))), (by kst_all), (by
          (intros; rename_i h2 h3; (try simp only [List.forall_mem_cons, List.not_mem_nil, false_implies, implies_true, and_true, ne_eq] at h2); (try simp only [List.contains_cons, List.contains_nil, Bool.or_false, Bool.or_eq_false_iff, beq_eq_false_iff_ne, ne_eq] at h3); simp [kstB, *])), ⟨⟨hLn4, (by simpa using hE2), ⟨hdr4, fun c hc => hB2 c (.tail _ hc)⟩⟩, (by simp)⟩⟩
        · obtain ⟨bd, rfl, hb⟩ := escU_pl (ws_t (c := c2) (by assumption)) (bsl_f (c := c2) (by assumption)) he hq
          have z4 : (txt [c2]).length = 1 := rfl
          k_steps
          (with_reducible rename Fr _ _ _ _ => F2)
          rw [txt_app] at F2
          (with_reducible rename News _ _ _ _ => N1)
          exact ⟨(⟨gs2 ++ [v3], n3, ln3, tl3, tok2 ++ [c2], _⟩, bd), _, _, _, _, rfl, F2, N1, (by k_dflt (repeat (first | exact sub_nil | (refine sub_cons ?_ ?_; (focus k_mem))))), (by kst_all), (by
          (intros; rename_i h2 h3; (try simp only [List.forall_mem_cons, List.not_mem_nil, false_implies, implies_true, and_true, ne_eq] at h2); (try simp only [List.contains_cons, List.contains_nil, Bool.or_false, Bool.or_eq_false_iff, beq_eq_false_iff_ne, ne_eq] at h3); simp [kstB, *])), ⟨⟨hLn3, (by simpa using hE2), ⟨(hdr3'.trans hb), fun c hc => hB2 c (.tail _ hc)⟩⟩, (by simp)⟩⟩
        · obtain ⟨rfl, rfl⟩ := escU_ws (ws_f (c := c2) (by assumption)) hB2 hq
          have e2 : tok2 = tok := by simpa using hE2
          subst e2
          (with_reducible rename News _ _ _ _ => N2)
          exact ⟨_, _, lexLed w.params ((⟨gs2 ++ [v3], n3, ln3, tl3, [], 0⟩ : Gt).lx z) ++ [(z.c, z.oc)], by k_asm, nsub N2 (by k_dflt (repeat (first | exact sub_nil | (refine sub_cons ?_ ?_; (focus k_mem))))), fun kF kN _ => hret _ _ _ _ _ _ _ kF hLn3 hdr3' kN⟩
    · have hw := ws_f (c := c) (by assumption)
      (with_reducible rename News _ _ _ _ => N1)
      exact ⟨⟨gs ++ [v], n, ln', tl', [], tt⟩, _, _, _, _, rfl, by k_asm, N1, (by k_dflt (repeat (first | exact sub_nil | (refine sub_cons ?_ ?_; (focus k_mem))))), (by kst_all), (by
    (intros; rename_i h2 h3; (try simp only [List.forall_mem_cons, List.not_mem_nil, false_implies, implies_true, and_true, ne_eq] at h2); (try simp only [List.contains_cons, List.contains_nil, Bool.or_false, Bool.or_eq_false_iff, beq_eq_false_iff_ne, ne_eq] at h3); simp [kstB, *])), ⟨⟨hLn1, (by dsimp only; rw [hdr1']; exact tk_ws hw hT1)⟩, (by have := (drop_step hr').1; simp only [List.length_append, List.length_cons, List.length_nil]; omega)⟩⟩
end
end
end
section
open PySem PySem.W PyProof.Rows PySem.Calls
set_option Elab.async false
set_option maxRecDepth 100000
set_option genInjectivity false
set_option genSizeOf false
open LCg
section
variable {prog : Program} {w : World} {A : Around} {E : Value → Shared → Prop} {s : Shared} {h₀ : Heap} {L : Addr} {m : Str → Option Value} {env : Env}
inductive CompTurn {σ : Type} (h₀ : Heap) (L : Addr) (m : Str → Option Value) (s : Shared) (I : Addr) (oI : Obj) (C : Addr) (oC : Obj) (D : Addr) (oD : Obj) (S : List (Addr × Obj) → Prop) (Led : σ → List (Addr × Obj)) (Ok : Value → σ → Prop) (y : Value) (s₂ : Shared) : Prop
  | mk (c' : σ) (h' : Heap) (tk' : Nat) (all : List (Addr × Obj)) (e : s₂ = { s with heap := h', toks := tk' }) (F : Fr h₀ L h' m) (N : News h₀ L h' all) (sub : ∀ p ∈ (I, oI) :: (C, oC) :: (D, oD) :: Led c', p ∈ all) (off : Off3 I C D (Led c')) (hs : S (Led c')) (ok : Ok y c') : CompTurn h₀ L m s I oI C oC D oD S Led Ok y s₂
theorem comp_rest {σ : Type} {elt : Expr} {x : Str} {scope : Scope} {cl : List (Str × Addr)} {S : List (Addr × Obj) → Prop} {P : Nat → Value → Prop} {Fin : List Value → List (Addr × Obj) → Prop} {n : Nat} (Led : σ → List (Addr × Obj)) (Ok : Nat → List Value → σ → Prop) (c₀ : σ) (h0 : Ok 0 [] c₀)
    (turn : ∀ i ys c v I oI C oC D m₂ h tk (E' : Value → Shared → Prop), i < n → Ok i ys c → P i v → NsObj oC m₂ → m₂ x = some v → Fr h₀ L h m → News h₀ L h ((I, oI) :: (C, oC) :: (D, lst ys) :: Led c) → Off3 I C D (Led c) → ((@Ne Nat I C) ∧ (@Ne Nat I D) ∧ (@Ne Nat C D)) →
      wpAny (model prog w) A (eval elt (compEnvC scope cl C env)) (CompTurn h₀ L m { s with heap := h, toks := tk } I oI C oC D (lst ys) S Led (fun y c' => Ok (i + 1) (ys ++ [y]) c')) E' { s with heap := h, toks := tk })
    (done : ∀ ys c, Ok n ys c → Fin ys (Led c)) : CompRest prog w A h₀ L m env elt x scope cl s S P Fin n 0 [] (Led c₀) := by
  have key : ∀ k i ys c, i + k = n → Ok i ys c → CompRest prog w A h₀ L m env elt x scope cl s S P Fin k i ys (Led c) := by
    intro k
    induction k with
    | zero => intro i ys c hi hOk; exact done ys c (by have : i = n := by omega
                                                       rw [← this]; exact hOk)
    | succ k ih =>
      intro i ys c hi hOk
      refine CompRest.succ fun v I oI C oC D m₂ h tk E' hP hN hx F N off ne => ?_
      refine wpAny_mono (turn i ys c v I oI C oC D m₂ h tk E' (by omega) hOk hP hN hx F N off ne) (fun y s₂ hy => ?_) fun _ _ e => e
      obtain ⟨c', h', tk', all, rfl, F', N', sub, off', hS, hOk'⟩ := hy
      exact CompEnd.intro F' N' (Led c') sub off' hS (ih (i + 1) (ys ++ [y]) c' (by omega) hOk')
  exact key n 0 [] c₀ (by omega) h0
noncomputable def SrcS (prog : Program) (w : World) (A : Around) (h₀ : Heap) (L : Addr) (m : Str → Option Value) (env : Env) (elt : Expr) (x : Str) (scope : Scope) (cl : List (Str × Addr)) (Fin : Shared → List Value → List (Addr × Obj) → Prop) (xv : Value) (s₁ : Shared) : Prop :=
  ∃ y t news, xv = .str y t ∧ A.handled = none ∧ Fr h₀ L s₁.heap m ∧ News h₀ L s₁.heap news ∧ y.cps.all (· < 128) = true ∧ y.cps.size ≤ sizeLine ∧
    ∀ s₂ : Shared, (∃ h, s₂ = { s₁ with heap := h }) → CompRest prog w A h₀ L m env elt x scope cl s₂ (fun _ => True) (SignAt y) (Fin s₂) y.cps.size 0 [] news
theorem SrcS.mk {elt : Expr} {x : Str} {scope : Scope} {cl : List (Str × Addr)} {Fin : Shared → List Value → List (Addr × Obj) → Prop} {y : Str} {t : Tok} {news : List (Addr × Obj)} {s₁ : Shared} (hh : A.handled = none) (F : Fr h₀ L s₁.heap m) (N : News h₀ L s₁.heap news) (ha : y.cps.all (· < 128) = true) (hsz : y.cps.size ≤ sizeLine)
    (h : ∀ g, CompRest prog w A h₀ L m env elt x scope cl { s₁ with heap := g } (fun _ => True) (SignAt y) (Fin { s₁ with heap := g }) y.cps.size 0 [] news) : SrcS prog w A h₀ L m env elt x scope cl Fin (.str y t) s₁ :=
  ⟨y, t, news, rfl, hh, F, N, ha, hsz, fun _ ⟨g, e⟩ => e ▸ h g⟩
theorem ListComp_S {elt iter : Expr} {x : Str} {px : Pos} {scope : Scope} {cl : List (Str × Addr)} {pos : Pos} {Q : Value → Shared → Prop} (F₀ : Fr h₀ L s.heap m)
    (hclos : closureFor scope env = pure cl) (hcell : ∀ y ∈ scope.names, y.2 ≠ .cell) (hkind : scope.kind = .function)
    (hnames : ∀ y ∈ scope.names, y.2 = .local → scope.names.lookup y.1 = some .local) (hx : scope.names.lookup x = some .local)
    (h : wpAny (model prog w) A (eval iter env) (SrcS prog w A h₀ L m env elt x scope cl (fun s₂ => FinE h₀ L m s₂ Q)) E s)
    (hs : ∀ x, foldedSetIterable iter env x = pure x := by intro _; rfl) :
    wpAny (model prog w) A (eval (.ListComp elt [⟨.Name x px, iter, [], 0⟩] scope pos) env) Q E s := by
  rw [eval_ListComp]
  refine wpAny_comprehension_free (use := none) rfl hs hclos hkind hnames (wpAny_mono h (fun xv s₁ h₁ => ?_) fun _ _ e => e)
  obtain ⟨y, t, news, rfl, hh, F, N, ha, hsz, R⟩ := h₁
  refine wpAny_pyIter_ascii ha ?_
  refine block_U (Walks.strAscii hh s₁.heap.objs.size y t) hsz (fun i h st => by obtain ⟨o, e, _⟩ := st; exact ⟨o, e⟩) (fun i h h' o nw st e e' _ _ _ => by obtain ⟨o', q, r⟩ := st; rw [e] at q; cases q; exact ⟨o, e', r⟩) hcell hkind hx ⟨_, Heap.get?_push_size _ rfl, rfl, rfl⟩ (fun b hb => ?_)
    (F.keeps fun _ _ e => Heap.get?_push_of_some _ e) (N.grown fun _ _ e => Heap.get?_push_of_some _ e) (Nat.ne_of_lt F.ns.lt) (next_is_new F) (fun p hp => Nat.ne_of_lt (Heap.lt_size (N p hp).1)) trivial (R _ ⟨_, rfl⟩) ?_
  · rw [List.mem_singleton.mp hb]
    show s₁.heap.objs.size < (s₁.heap.push _).objs.size
    rw [Heap.size_push]; exact Nat.lt_succ_self _
  · intro D C h tk m' ys news' F' N' o1 hn hC₀ hD₀ hCL hDL hCD offC fin
    refine ⟨m', hn, fun h'' hs'' => fin D h'' tk (F'.change hs'' hCL hC₀) (fun p hp => ?_) o1⟩
    refine ⟨hs''.extBut _ _ ?_ (N' p hp).1, (N' p hp).2⟩
    rcases List.mem_cons.mp hp with rfl | hp
    · exact Ne.symm hCD
    · exact offC p hp
end
end
section
open PySem PySem.W PyProof.Rows PySem.Calls
set_option Elab.async false
set_option maxRecDepth 100000
set_option genInjectivity false
set_option genSizeOf false
theorem join_flat (f : Nat → List Nat) : ∀ l : List Nat, Str.join (Str.ofString "") (l.map fun c => txt (f c)) = txt (l.flatMap f)
  | [] => by rfl
  | [c] => by simp [Str.join]
  | c :: d :: r => by
    have ih := join_flat f (d :: r)
    show txt (f c) ++ Str.ofString "" ++ Str.join (Str.ofString "") ((d :: r).map fun c => txt (f c)) = _
    rw [ih, empty_txt, txt_app, txt_app]
    simp
theorem escQ_flat (l : List Nat) : escQ l = l.flatMap fun c => if c = 34 ∨ c = 92 then [92, c] else [c] := by
  induction l with
  | nil => rfl
  | cons c r ih => rw [escQ_cons, List.flatMap_cons, ← ih]; split <;> rfl
theorem escU_flat (l : List Nat) : escU l = l.flatMap fun c => if c = 34 ∨ c = 92 ∨ c = 32 ∨ c = 10 then [92, c] else [c] := by
  induction l with
  | nil => rfl
  | cons c r ih => rw [escU_cons, List.flatMap_cons, ← ih]; split <;> rfl
theorem escQ_len (l : List Nat) : (escQ l).length ≤ 2 * l.length := by
  induction l with
  | nil => exact Nat.le_refl _
  | cons c r ih => rw [escQ_cons]; split <;> (simp only [List.length_cons]; omega)
theorem escU_len (l : List Nat) : (escU l).length ≤ 2 * l.length := by
  induction l with
  | nil => exact Nat.le_refl _
  | cons c r ih => rw [escU_cons]; split <;> (simp only [List.length_cons]; omega)
theorem txt_len (l : List Nat) : (txt l).length = l.length := by simp [Str.length]
theorem join_txt (sep : Str) (l : List Str) : Txt.join sep l = Str.join sep l := StrLaws.glued_eq_join sep l
end
section
section
open PySem PySem.W PyProof.Rows
set_option Elab.async false
set_option linter.unusedVariables false
set_option linter.unusedSimpArgs false
set_option linter.unusedSectionVars false
set_option pp.deepTerms false
set_option pp.deepTerms.threshold 6
set_option pp.proofs false
set_option maxRecDepth 100000
set_option compiler.extract_closed false
set_option rowWalk.seconds 0
set_option genInjectivity false
set_option genSizeOf false

theorem nq_txt : (Str.ofString "\"\\").cps.toList = [34, 92] := by kernel_rfl
theorem nu_txt : (Str.ofString "\"\\ \n").cps.toList = [34, 92, 32, 10] := by kernel_rfl
theorem need_iff {x : Str} (c : Nat) : (Builtin.Str.occurrences x ⟨#[c]⟩ 0 x.length 1).isEmpty = !decide (c ∈ x.cps.toList) := by
  rw [← StrLaws.found_one x c, Bool.not_not]
theorem sum_small {P : Nat → Prop} [DecidablePred P] (l : List Nat) (h : l.length ≤ 100) : ((l.map fun c => txt (if P c then [92, c] else [c])).map (·.length)).sum ≤ 16777216 := by
  have : ∀ l : List Nat, ((l.map fun c => txt (if P c then [92, c] else [c])).map (·.length)).sum ≤ 2 * l.length := by
    intro l
    induction l with
    | nil => exact Nat.le_refl _
    | cons c r ih =>
      simp only [List.map_cons, List.sum_cons, List.length_cons, txt_len] at ih ⊢
      split <;> (simp only [List.length_cons, List.length_nil]; omega)
  have := this l
  omega
theorem take_step {l : List Nat} {i c : Nat} (h : (txt l).cps[i]? = some c) : l.take (i + 1) = l.take i ++ [c] := by
  rw [List.take_add_one]
  congr 1
  have : l[i]? = some c := by simpa using h
  rw [this]; rfl
local macro_rules | `(tactic| ktr_enter) => `(tactic| (o_head (enterFC (args := ⟨_, _⟩), 6, 0, 0); intro g' L' h' tk' cells' FG' F' N' Y' B' X' T' l1 lR; (try k_lt l1); k_cells Y'; (try dsimp only [List.cons_append, List.nil_append] at N'); (try dsimp only); (try k_lift B'); (try k_fold)))
local macro_rules | `(tactic| walk_at "eval ListComp") => `(tactic| (k_here; k_dflt (refine ListComp_S (F₀ := by k_asm) (by rfl) (by decide) (by rfl) (by decide) (by rfl) ?_)))
section
variable {w : World} {p : Program} {loose : List Str} {mean : ExcName → Option Value} {mg mb : Str → Option Value}
   {dp un : Nat} {gd : Option (List Code)} {cn : Str} {cs : Scope} {a : Addr} {ccd : Value} {cl : List (Str × Addr)} {outer : List Env} {A₀ : Around} {base h₀ : Heap} {L : Addr} {m : Str → Option Value} {rest : List (Addr × Obj)} {s : Shared}
   {Q E : Value → Shared → Prop}
   (B : Below A₀ base outer h₀) (F : Fr h₀ L s.heap m) (X : (hd.heap_1 w.params).In h₀) (N : News h₀ L s.heap rest) (T : Top p loose mean mg mb h₀) (hk : cs.kind = .function)
include B F X N T hk
set_option maxHeartbeats 4000000 in
theorem c_word_true {l : List Nat} {t : Tok} (hd' : dp + 2 < recursionLimit) (hu : un + 16 < cLine) (hl : l.length ≤ 100) (ha : ∀ c ∈ l, c < 128)
    (hret : ∀ h' tk' t', Fr h₀ L h' m → News h₀ L h' rest → Q (.str (txt (34 :: (escQ l ++ [34]))) t') { s with heap := h', toks := tk' }) :
    wpAny (model PySem.Challenge.rw_qh0051_01.row.prog w) (ktrTop dp un gd cn cs L a ccd cl outer) (call (.ref 179) [.str (txt l) t, .bool true]) Q E s := by
  revert X; k_fill; intro X
  have N0 : News h₀ L s.heap ([] ++ rest) := N
  have O0 := off_nil rest
  k_dflt ktr_enter
  k_steps
  (with_reducible rename News _ _ _ _ => N5)
  refine SrcS.mk rfl (by k_asm) N5 ?asc ?siz ?rst
  case asc => simpa using ha
  case siz => (rw [sizeLine_eq]; show (txt l).length ≤ _; rw [txt_len]; omega)
  case rst =>
    intro g
    refine comp_rest (σ := Unit) (fun _ => _) (fun i ys _ => StrsAre ys ((l.take i).map fun c => txt (if c = 34 ∨ c = 92 then [92, c] else [c]))) () .nil ?turn ?done
    case turn =>
      intro i ys c v I oI C oC D m₂ h tk E' hi hOk hP hN hx F5 N6 off ne
      obtain ⟨cc, u5, hc5, rfl⟩ := hP
      k_steps
      · rename_i hb9
        rw [need_iff, nq_txt] at hb9
        have hb8 : ¬ (cc = 34 ∨ cc = 92) := by simpa using hb9
        refine ⟨(), _, _, _, rfl, by k_asm, N6, fun p hp => hp, off, trivial, ?_⟩
        rw [take_step hc5, List.map_append, List.map_cons, List.map_nil, if_neg hb8]
        exact hOk.append' (.cons _ _ .nil)
      · have hb9 : (Builtin.Str.occurrences (Str.ofString "\"\\") ⟨#[cc]⟩ 0 (Str.ofString "\"\\").length 1).isEmpty = false := by assumption
        rw [need_iff, nq_txt] at hb9
        have hb8 : cc = 34 ∨ cc = 92 := by
          simp at hb9
          by_cases a1 : cc = 34
          · exact .inl a1
          exact .inr (hb9 a1)
        refine ⟨(), _, _, _, rfl, by k_asm, N6, fun p hp => hp, off, trivial, ?_⟩
        rw [take_step hc5, List.map_append, List.map_cons, List.map_nil, if_pos hb8]
        rw [bsl_txt]
        exact hOk.append' (.cons (txt [92, cc]) _ .nil)
    case done =>
      intro ys _ hOk D h tk F5 N6 off
      k_steps
      refine join_list (News.isList (by k_asm) (by k_mem)) hOk ?sm ?_
      case sm => (rw [show (Str.ofString "").length = 0 from rfl, Nat.mul_zero, Nat.add_zero]; exact sum_small _ (by rw [List.length_take]; omega))
      intro t7 k7
      have ej : Txt.join (Str.ofString "") ((l.take (txt l).cps.size).map fun c => txt (if c = 34 ∨ c = 92 then [92, c] else [c])) = txt (escQ l) := by
        rw [join_txt, join_flat, ← escQ_flat, show (txt l).cps.size = l.length from by simp, List.take_length]
      rw [ej]
      have z9 : (txt (escQ l)).length ≤ 200 := by rw [txt_len]; have := escQ_len l; omega
      (try dsimp only)
      k_steps
      exact ⟨_, _, [], by k_asm, (fun _ h => nomatch h), fun kF kN _ => by
        (try dsimp only)
        rw [quo_txt, txt_app, txt_app, show [34] ++ escQ l ++ [34] = 34 :: (escQ l ++ [34]) from by simp]
        exact hret _ _ _ kF kN⟩
end
section
variable {w : World} {p : Program} {loose : List Str} {mean : ExcName → Option Value} {mg mb : Str → Option Value}
   {dp un : Nat} {gd : Option (List Code)} {cn : Str} {cs : Scope} {a : Addr} {ccd : Value} {cl : List (Str × Addr)} {outer : List Env} {A₀ : Around} {base h₀ : Heap} {L : Addr} {m : Str → Option Value} {rest : List (Addr × Obj)} {s : Shared}
   {Q E : Value → Shared → Prop}
   (B : Below A₀ base outer h₀) (F : Fr h₀ L s.heap m) (X : (hd.heap_1 w.params).In h₀) (N : News h₀ L s.heap rest) (T : Top p loose mean mg mb h₀) (hk : cs.kind = .function)
include B F X N T hk
set_option maxHeartbeats 4000000 in
theorem c_word_false {l : List Nat} {t : Tok} (hd' : dp + 2 < recursionLimit) (hu : un + 16 < cLine) (hl : l.length ≤ 100) (ha : ∀ c ∈ l, c < 128)
    (hret : ∀ h' tk' t', Fr h₀ L h' m → News h₀ L h' rest → Q (.str (txt (escU l)) t') { s with heap := h', toks := tk' }) :
    wpAny (model PySem.Challenge.rw_qh0051_01.row.prog w) (ktrTop dp un gd cn cs L a ccd cl outer) (call (.ref 179) [.str (txt l) t, .bool false]) Q E s := by
  revert X; k_fill; intro X
  have N0 : News h₀ L s.heap ([] ++ rest) := N
  have O0 := off_nil rest
  k_dflt ktr_enter
  k_steps
  (with_reducible rename News _ _ _ _ => N5)
  refine SrcS.mk rfl (by k_asm) N5 ?asc ?siz ?rst
  case asc => simpa using ha
  case siz => (rw [sizeLine_eq]; show (txt l).length ≤ _; rw [txt_len]; omega)
  case rst =>
    intro g
    refine comp_rest (σ := Unit) (fun _ => _) (fun i ys _ => StrsAre ys ((l.take i).map fun c => txt (if c = 34 ∨ c = 92 ∨ c = 32 ∨ c = 10 then [92, c] else [c]))) () .nil ?turn ?done
    case turn =>
      intro i ys c v I oI C oC D m₂ h tk E' hi hOk hP hN hx F5 N6 off ne
      obtain ⟨cc, u5, hc5, rfl⟩ := hP
      k_steps
      · rename_i hb9
        rw [need_iff, nu_txt] at hb9
        have hb8 : ¬ (cc = 34 ∨ cc = 92 ∨ cc = 32 ∨ cc = 10) := by simpa using hb9
        refine ⟨(), _, _, _, rfl, by k_asm, N6, fun p hp => hp, off, trivial, ?_⟩
        rw [take_step hc5, List.map_append, List.map_cons, List.map_nil, if_neg hb8]
        exact hOk.append' (.cons _ _ .nil)
      · have hb9 : (Builtin.Str.occurrences (Str.ofString "\"\\ \n") ⟨#[cc]⟩ 0 (Str.ofString "\"\\ \n").length 1).isEmpty = false := by assumption
        rw [need_iff, nu_txt] at hb9
        have hb8 : cc = 34 ∨ cc = 92 ∨ cc = 32 ∨ cc = 10 := by
          simp at hb9
          by_cases a1 : cc = 34
          · exact .inl a1
          by_cases a2 : cc = 92
          · exact .inr (.inl a2)
          by_cases a3 : cc = 32
          · exact .inr (.inr (.inl a3))
          exact .inr (.inr (.inr (hb9 a1 a2 a3)))
        refine ⟨(), _, _, _, rfl, by k_asm, N6, fun p hp => hp, off, trivial, ?_⟩
        rw [take_step hc5, List.map_append, List.map_cons, List.map_nil, if_pos hb8]
        rw [bsl_txt]
        exact hOk.append' (.cons (txt [92, cc]) _ .nil)
    case done =>
      intro ys _ hOk D h tk F5 N6 off
      k_steps
      refine join_list (News.isList (by k_asm) (by k_mem)) hOk ?sm ?_
      case sm => (rw [show (Str.ofString "").length = 0 from rfl, Nat.mul_zero, Nat.add_zero]; exact sum_small _ (by rw [List.length_take]; omega))
      intro t7 k7
      have ej : Txt.join (Str.ofString "") ((l.take (txt l).cps.size).map fun c => txt (if c = 34 ∨ c = 92 ∨ c = 32 ∨ c = 10 then [92, c] else [c])) = txt (escU l) := by
        rw [join_txt, join_flat, ← escU_flat, show (txt l).cps.size = l.length from by simp, List.take_length]
      rw [ej]
      have z9 : (txt (escU l)).length ≤ 200 := by rw [txt_len]; have := escU_len l; omega
      (try dsimp only)
      k_steps
      exact ⟨_, _, [], by k_asm, (fun _ h => nomatch h), fun kF kN _ => by
        (try dsimp only)
        skip
        exact hret _ _ _ kF kN⟩
end
end
section
open PySem PySem.W PyProof.Rows PySem.Calls
set_option Elab.async false
set_option maxRecDepth 100000
set_option genInjectivity false
set_option genSizeOf false

noncomputable def ExD (oe : Obj) (X : String) (T : Addr) (ctx : Value) : Prop := oe.cls = .type X ∧ ∃ vs, oe.data = .fields vs ∧ vs[1]? = some (.ref T) ∧ vs[2]? = some ctx
noncomputable def TbD (oT : Obj) (fl : Value) : Prop := ∃ ts, oT.data = .fields ts ∧ ts[3]? = some fl
structure NewEx (h h' : Heap) (e : Addr) (X : String) (ctx : Value) : Prop where
  keeps : ∀ b o, h.get? b = some o → h'.get? b = some o
  new : h.get? e = none
  there : ∃ ob vs, h'.get? e = some ob ∧ ob.cls = .type X ∧ ob.data = .fields vs ∧ vs[1]? = some .none ∧ vs[2]? = some ctx
theorem NewEx.of {h h' : Heap} {e : Addr} {X : String} (x : Heap.NewExc h h' e X) : NewEx h h' e X .none :=
  ⟨x.keeps, x.new, let ⟨ob, _, a, b, c⟩ := x.there; ⟨ob, _, a, b, c, rfl, rfl⟩⟩
structure Cl1 (A₀ : Around) (env : Env) (L : Addr) (oL : Obj) : Prop where
  fr : A₀.frames = some [env]
  kind : env.scope.kind ≠ .module
  frame : env.frame = some L
  dict : ∃ es ep, oL.data = .dict es ep

section
variable {M : Model} {A : Around} {E : Value → Shared → Prop} {s : Shared}
theorem entryX {env : Env} {outer : List Env} {L e : Addr} {oe : Obj} {vs : Array Value} {head : Value} {hadNext : Bool} {Q : Unit → Shared → Prop} {base : Heap}
    (hfr : A.frames = some (env :: outer)) (hl : s.heap.FunFrames base (env :: outer)) (hf : env.frame = some L) (he : s.heap.get? e = some oe) (hd : oe.data = .fields vs) (hsz : 1 < vs.size)
    (h : ∀ h' T oT, (∀ b o, b ≠ e → b ∉ (env :: outer).filterMap (·.frame) → s.heap.get? b = some o → h'.get? b = some o) → (∀ b o, b ≠ e → s.heap.get? b = some o → ∃ sl, h'.get? b = some { o with slots := sl }) →
      s.heap.get? T = none → h'.get? T = some oT → TbD oT (rawInt L) → h'.get? e = some (Obj.mapFields (·.setIfInBounds 1 (.ref T)) oe) → Q () { s with heap := h' }) :
    wpAny M A (do let a ← frameOf env; let pl ← entryPlaceOf L hadNext; let b ← EntryCells.newEntry head a .none (rawInt L) .none pl; setField (.ref e) 1 b) Q E s := by
  have hene : e ∉ (env :: outer).filterMap (·.frame) := fun hm => by
    obtain ⟨_, o, ho, hnf⟩ := hl.mem hm
    rw [he] at ho; injection ho with ho; subst ho; exact hnf vs hd
  refine wpAny_bind (wpAny_frameOf_fun hfr hl hf fun h₁ hs₁ => ?_)
  refine wpAny_bind (wpAny_entryPlaceOf fun pl hpl => ?_)
  unfold EntryCells.newEntry newFields
  refine wpAny_bind (wpAny_newObj_type ?_ (hpl.sizeOk5 _ _ _ _ _))
  have he₁ : h₁.get? e = some oe := (hs₁.2.1 e hene).trans he
  have keep : ∀ b o, b ≠ e → h₁.get? b = some o →
      ((h₁.push { cls := .type "traceback", dict := none, data := .fields ([head, .ref L, .none, rawInt L, .none] ++ (if pl.isEmpty then List.replicate 6 Value.none else pl)).toArray }).update e (Obj.mapFields (·.setIfInBounds 1 (Value.ref h₁.objs.size)))).get? b = some o :=
    fun b o hbe hb => by
      rw [Heap.get?_update_other _ _ (Ne.symm hbe)]
      exact Heap.get?_push_of_some _ hb
  have hTe : h₁.objs.size ≠ e := Nat.ne_of_gt (Heap.lt_size he₁)
  refine wpAny_setField (Heap.get?_push_of_some _ he₁) hd hsz (h _ h₁.objs.size _ (fun b o hb hn e1 => ?_) (fun b o hb e1 => ?_) ?_ (((Heap.get?_update_other _ _ (Ne.symm hTe))).trans (Heap.get?_push_size _ rfl)) ?_ ?_)
  · exact keep b o hb ((hs₁.2.1 b hn).trans e1)
  · obtain ⟨sl, hs⟩ := hs₁.2.2 b o e1
    exact ⟨sl, keep b _ hb hs⟩
  · exact Heap.get?_none_of_le (Nat.le_of_eq hs₁.1.symm)
  · exact ⟨_, rfl, by first | (simp; done) | (rcases hpl with rfl | ⟨_, _, _, _, _, _, _, rfl⟩ <;> simp)⟩
  · exact Heap.get?_update_self _ (Heap.get?_push_of_some _ he₁) (Obj.isFreed_of_fields (Obj.data_mapFields hd _))

variable {A₀ : Around} {g h : Heap} {env : Env} {name : Str} {scope : Scope} {L L' a e T : Addr} {cd ctx : Value} {oL oe oT : Obj} {m : Str → Option Value} {new l : List (Addr × Obj)} {X : String} {s' : Shared} {Q : Unit → Shared → Prop}
theorem note1 (hfr : A.frames = some [envOf name scope L' a cd, env]) (C : Cl1 A₀ env L oL) (hk : scope.kind = .function) (hx : NewEx h s'.heap e X ctx) (F : Fr g L' h m) (N : News g L' h (new ++ [(L, oL)])) (hne : ∀ p ∈ new, p.1 ≠ L)
    (k : ∀ h' T oe oT sl, Fr g L' h' m → News g L' h' ((e, oe) :: (T, oT) :: (new ++ [(L, { oL with slots := sl })])) → ExD oe X T ctx → TbD oT (rawInt L') → T ≠ e → (∀ p ∈ new ++ [(L, ({ oL with slots := sl } : Obj))], p.1 ≠ T) → (∀ p ∈ new ++ [(L, ({ oL with slots := sl } : Obj))], p.1 ≠ e) → Q () { s' with heap := h' }) :
    wpAny M A (noteFrame (.ref e) (envOf name scope L' a cd)) Q E s' := by
  obtain ⟨ob, vs, he, hcls, hd, h1, h2⟩ := hx.there
  have hLL := N (L, oL) (List.mem_append_right _ (.head _))
  have hsL := hx.keeps _ _ hLL.1
  obtain ⟨es, ep, hdL⟩ := C.dict
  obtain ⟨oL', es', ep', hL', hdL', rL'⟩ := id F.ns
  have hsL' := hx.keeps _ _ hL'
  have hFF : s'.heap.FunFrames (hideAll s'.heap [L', L]) [envOf name scope L' a cd, env] :=
    ⟨(by show scope.kind ≠ .module; rw [hk]; decide), ⟨L', oL', rfl, hideAll_none _ (.head _), hsL', fun vs q => by rw [hdL'] at q; cases q⟩,
      C.kind, ⟨L, oL, C.frame, hideAll_none _ (.tail _ (.head _)), hsL, fun vs q => by rw [hdL] at q; cases q⟩, trivial⟩
  have hfm : ([envOf name scope L' a cd, env] : List Env).filterMap (·.frame) = [L', L] := by
    simp only [List.filterMap_cons, List.filterMap_nil, show (envOf name scope L' a cd).frame = some L' from rfl, C.frame]
  unfold noteFrame
  simp only [show (envOf name scope L' a cd).frame = some L' from rfl]
  refine wpAny_bind (wpAny_field he hd h1 ?_)
  rw [if_neg (by decide)]
  refine entryX (base := hideAll s'.heap [L', L]) hfr hFF rfl he hd (by have := (Array.getElem?_eq_some_iff.mp h1).1; exact this) fun h' T oT k1 k2 k3 k4 k5 k6 => ?_
  rw [hfm] at k1
  have nL'e : L' ≠ e := fun q => by rw [q, hx.new] at hL'; cases hL'
  have nLe : L ≠ e := fun q => by have := hLL.1; rw [show (L, oL).1 = L from rfl, q, hx.new] at this; cases this
  have hTe : T ≠ e := fun q => by rw [q, he] at k3; cases k3
  have old : ∀ b o, h.get? b = some o → b ≠ e := fun b o e1 q => by rw [q, hx.new] at e1; cases e1
  have oldT : ∀ b o, h.get? b = some o → b ≠ T := fun b o e1 q => by have := hx.keeps _ _ e1; rw [q, k3] at this; cases this
  have gnone : ∀ b, s'.heap.get? b = none → g.get? b = none := fun b q => by
    cases q2 : g.get? b with
    | none => rfl
    | some o => have := hx.keeps _ _ (F.keep _ _ q2); rw [q] at this; cases this
  have ge : g.get? e = none := by
    cases q2 : g.get? e with
    | none => rfl
    | some o => have := F.keep _ _ q2; rw [hx.new] at this; cases this
  obtain ⟨slL, eL⟩ := k2 L oL nLe hsL
  obtain ⟨slL', eL'⟩ := k2 L' oL' nL'e hsL'
  have gL' : g.get? L' = none := Heap.get?_none_of_le F.above
  refine k h' T (Obj.mapFields (·.setIfInBounds 1 (.ref T)) ob) oT slL ⟨⟨_, es', ep', eL', hdL', rL'⟩, fun b o q => ?_, F.above⟩ (fun p hp => ?_) ⟨(Obj.cls_mapFields _ _).trans hcls, _, Obj.data_mapFields hd _, ?_, ?_⟩ k5 hTe (fun p hp => ?_) (fun p hp => ?_)
  · refine k1 b o (old _ _ (F.keep _ _ q)) (fun hm => ?_) (hx.keeps _ _ (F.keep _ _ q))
    rcases List.mem_cons.mp hm with rfl | hm
    · rw [gL'] at q; cases q
    · rw [List.mem_singleton.mp hm, hLL.2.2] at q; cases q
  · rcases List.mem_cons.mp hp with rfl | hp
    · exact ⟨k6, fun q => nL'e q.symm, ge⟩
    · rcases List.mem_cons.mp hp with rfl | hp
      · exact ⟨k4, (fun q => by
          have q' : T = L' := q
          rw [q', hsL'] at k3; cases k3), gnone _ k3⟩
      · rcases List.mem_append.mp hp with hp | hp
        · have n := N p (List.mem_append_left _ hp)
          refine ⟨k1 _ _ (old _ _ n.1) (fun hm => ?_) (hx.keeps _ _ n.1), n.2⟩
          rcases List.mem_cons.mp hm with q | hm
          · exact n.2.1 q
          · exact hne p hp (List.mem_singleton.mp hm)
        · rw [List.mem_singleton.mp hp]
          exact ⟨eL, hLL.2⟩
  · have := (Array.getElem?_eq_some_iff.mp h1).1
    rw [Array.getElem?_setIfInBounds_self_of_lt this]
  · rw [Array.getElem?_setIfInBounds_ne (by decide)]; exact h2
  · rcases List.mem_append.mp hp with hp | hp
    · exact oldT _ _ (N p (List.mem_append_left _ hp)).1
    · rw [List.mem_singleton.mp hp]; exact oldT _ _ hLL.1
  · rcases List.mem_append.mp hp with hp | hp
    · exact old _ _ (N p (List.mem_append_left _ hp)).1
    · rw [List.mem_singleton.mp hp]; exact old _ _ hLL.1

theorem flight1 {f : Option Addr} {fl : Value} (F : Fr g L' s'.heap m) (N : News g L' s'.heap ((e, oe) :: (T, oT) :: l)) (hO : ExD oe X T ctx) (hT : TbD oT fl) (hTe : T ≠ e) (hl : ∀ p ∈ l, p.1 ≠ T)
    (k : ∀ h' oT', Fr g L' h' m → News g L' h' ((e, oe) :: (T, oT') :: l) → TbD oT' (f.elim .none fun f => rawInt f) → Q () { s' with heap := h' }) : wpAny M A (setFlight (.ref e) f) Q E s' := by
  obtain ⟨_, vs, hd, h1, _⟩ := hO
  obtain ⟨ts, hdT, h3⟩ := hT
  have nT := N (T, oT) (.tail _ (.head _))
  have hs3 := (Array.getElem?_eq_some_iff.mp h3).1
  unfold setFlight
  refine wpAny_bind (wpAny_field (N (e, oe) (.head _)).1 hd h1 ?_)
  rw [if_pos (show (Value.ref T != Value.none) = true from by simp)]
  refine wpAny_setField nT.1 hdT hs3 (k _ (Obj.mapFields (·.setIfInBounds 3 (f.elim .none fun f => rawInt f)) oT) ⟨?_, fun b o q => ?_, F.above⟩ (fun p hp => ?_) ⟨_, Obj.data_mapFields hdT _, by rw [Array.getElem?_setIfInBounds_self_of_lt hs3]⟩)
  · exact F.ns.at' fun o q => (Heap.get?_update_other _ _ nT.2.1).trans q
  · exact (Heap.get?_update_other _ _ (fun q2 => by rw [← q2, nT.2.2] at q; cases q)).trans (F.keep _ _ q)
  · rcases List.mem_cons.mp hp with rfl | hp
    · exact ⟨(Heap.get?_update_other _ _ hTe).trans (N _ (.head _)).1, (N _ (.head _)).2⟩
    · rcases List.mem_cons.mp hp with rfl | hp
      · exact ⟨Heap.get?_update_self _ nT.1 (Obj.isFreed_of_fields (Obj.data_mapFields hdT _)), nT.2⟩
      · have n := N p (.tail _ (.tail _ hp))
        exact ⟨(Heap.get?_update_other _ _ (Ne.symm (hl p hp))).trans n.1, n.2⟩

theorem again1 (N : News g L' s'.heap ((e, oe) :: (T, oT) :: l)) (hO : ExD oe X T ctx) (hT : TbD oT (rawInt L')) (k : Q () s') : wpAny M A (noteFrame (.ref e) (envOf name scope L' a cd)) Q E s' := by
  obtain ⟨_, vs, hd, h1, _⟩ := hO
  obtain ⟨ts, hdT, h3⟩ := hT
  unfold noteFrame
  simp only [show (envOf name scope L' a cd).frame = some L' from rfl]
  refine wpAny_bind (wpAny_field (N (e, oe) (.head _)).1 hd h1 ?_)
  rw [if_pos (show (Value.ref T != Value.none) = true from by simp)]
  refine wpAny_bind (wpAny_field (N (T, oT) (.tail _ (.head _))).1 hdT h3 ?_)
  rw [if_pos (show (rawInt L' == rawInt L') = true from by simp)]
  exact wpAny_pure k

theorem pass1 {α : Type} {what : String} {Q : α → Shared → Prop} {fl : Value} (F : Fr g L' s'.heap m) (N : News g L' s'.heap ((e, oe) :: (T, oT) :: l)) (hO : ExD oe X T ctx) (hT : TbD oT fl) (hTe : T ≠ e) (hl : ∀ p ∈ l, p.1 ≠ T)
    (k : ∀ h' oT', Fr g L' h' m → News g L' h' ((e, oe) :: (T, oT') :: l) → TbD oT' (rawInt L') → E (.ref e) { s' with heap := h' }) : wpAny M A (PySem.passOn what (.ref e) (envOf name scope L' a cd)) Q E s' := by
  obtain ⟨_, vs, hd, h1, _⟩ := id hO
  unfold PySem.passOn
  refine wpAny_bind (wpAny_field (N (e, oe) (.head _)).1 hd h1 ?_)
  rw [if_neg (show ¬ ((Value.ref T == Value.none) = true) from by simp)]
  exact wpAny_bind (flight1 (f := some L') F N hO hT hTe hl fun h' oT' F' N' hT' => wpAny_throw (k h' oT' F' N' hT'))

theorem back1 {fl : Value} (F : Fr g L' s'.heap m) (N : News g L' s'.heap ((e, oe) :: (T, oT) :: l)) (hO : ExD oe X T ctx) (hT : TbD oT fl) (hTe : T ≠ e) (hl : ∀ p ∈ l, p.1 ≠ T)
    (k : ∀ h' oT', Fr g L' h' m → News g L' h' ((e, oe) :: (T, oT') :: l) → TbD oT' (rawInt L') → E (.ref e) { s' with heap := h' }) : cameBackBy M A (envOf name scope L' a cd) E (.ref e) s' := by
  obtain ⟨_, vs, hd, h1, _⟩ := id hO
  unfold cameBackBy
  refine wpAny_bind (wpAny_field (N (e, oe) (.head _)).1 hd h1 ?_)
  rw [if_neg (show ¬ ((Value.ref T == Value.none) = true) from by simp)]
  exact flight1 (f := some L') F N hO hT hTe hl fun h' oT' F' N' hT' => k h' oT' F' N' hT'
end

theorem entry_unchain : entryFor table "proto.unchain" = some Builtin.«proto.unchain» := entryFor_of_fast (by kernel_rfl)
theorem strs_get : ∀ {vs : List Value} {xs : List Str} {j : Nat} {x : Str}, StrsAre vs xs → xs[j]? = some x → ∃ t, vs[j]? = some (.str x t)
  | _, _, j, y, .nil, h => by simp at h
  | _, _, 0, y, .cons x t r, h => by simp at h; subst h; exact ⟨t, rfl⟩
  | _, _, j + 1, y, .cons x t r, h => by simpa using strs_get r (by simpa using h)
section
variable {α : Type} {prog : Program} {w : World} {A : Around} {E : Value → Shared → Prop} {s : Shared}
theorem raiseX {cls msg : String} {e₁ : Addr} {oe : Obj} {T : Addr} {Q : α → Shared → Prop} (hp : PlainExc cls) (hh : A.handled = some (.ref e₁)) (he : s.heap.get? e₁ = some oe) (hO : ExD oe X T .none)
    (h : ∀ h' tk e, NewEx s.heap h' e cls (.ref e₁) → E (.ref e) { s with heap := h', toks := tk }) :
    wpAny (model prog w) A (raiseErrorWords cls msg : Sem α) Q E s := by
  obtain ⟨_, vs, hd, h1, h2⟩ := hO
  unfold raiseErrorWords
  refine wpAny_bind (wpAny_mkText (wpAny_bind ?_))
  unfold newExc newTuple
  refine wpAny_bind (wpAny_newObj_type ?_)
  refine wpAny_bind (m := firstArgMember _ _) (wpAny_of_eq (a := Value.none) (by simp only [firstArgMember, hp.first]; rfl) ?_)
  rw [hp.own]
  refine wpAny_newObj_type ?_
  unfold raiseNew
  refine wpAny_bind (wpAny_handled ?_)
  rw [hh]
  dsimp only
  generalize hH : s.heap.push { cls := Value.type "tuple", data := Data.seq #[Value.str (Str.ofString msg) s.toks] } = H1
  have he1 : H1.get? e₁ = some oe := by rw [← hH]; exact Heap.get?_push_of_some _ he
  have hlt : e₁ < H1.objs.size := Heap.lt_size he1
  have keep1 : ∀ b o, s.heap.get? b = some o → H1.get? b = some o := fun b o q => by rw [← hH]; exact Heap.get?_push_of_some _ q
  rw [if_pos (by simpa using Nat.ne_of_lt hlt)]
  refine wpAny_bind ?_
  refine wpAny_holding (wpAny_runValue (codeAny_builtin entry_unchain ?_))
  show wpAny _ _ (field (.ref e₁) 2 >>= _) _ _ _
  refine wpAny_bind (wpAny_field (Heap.get?_push_of_some _ he1) hd h2 ?_)
  rw [if_pos (show (Value.none == Value.none) = true from rfl)]
  refine wpAny_pure (wpAny_bind ?_)
  show wpAny _ _ (setField (.ref H1.objs.size) 2 (.ref e₁)) _ _ _
  refine wpAny_setField (Heap.get?_push_size _ rfl) rfl (by show 2 < 6; decide) (wpAny_throw (h _ _ _ ⟨fun b o q => ?_, ?_, _, _, Heap.get?_update_self _ (Heap.get?_push_size _ rfl) (Obj.isFreed_of_fields (Obj.data_mapFields rfl _)), Obj.cls_mapFields _ _, Obj.data_mapFields rfl _, rfl, rfl⟩))
  · rw [Heap.get?_update_other _ _ (Nat.ne_of_gt (Heap.lt_size (keep1 _ _ q)))]
    exact Heap.get?_push_of_some _ (keep1 _ _ q)
  · refine Heap.get?_none_of_le ?_
    rw [← hH, Heap.size_push]; exact Nat.le_succ _
theorem getItem_outX {l e₁ T : Addr} {oe : Obj} {X : String} {items : Array Value} {j : Nat} {k : Int} {t : Tok} {Q : Value → Shared → Prop} (hh : A.handled = some (.ref e₁)) (he : s.heap.get? e₁ = some oe) (hO : ExD oe X T .none) (hl : s.heap.IsList l items)
    (hkj : k = (j : Int)) (hout : items.size ≤ j) (hlo : -(2 ^ 63) ≤ k) (hhi : k < 2 ^ 63)
    (hE : ∀ h' tk e, NewEx s.heap h' e "IndexError" (.ref e₁) → E (.ref e) { s with heap := h', toks := tk }) :
    wpAny (model prog w) A (getItem (.ref l) (.int k t)) Q E s := by
  obtain ⟨o, ho, hc, ne, hd⟩ := id hl
  unfold getItem
  try with_reducible refine wpAny_holding ?_
  first | refine wpAny_bind (wpAny_pure ?_) | skip
  refine wpAny_bind (wpAny_sequenceKey hl.typeIs (by decide) ?_)
  refine wpAny_bind (wpAny_callSpecial?_slot (name := Str.ofString "__getitem__") hl.typeIs slot_list_getitem
    (wpAny_call_entry slot_list_getitem hl.typeIs entry_list_getitem ?_ (args_list_getitem _ _)))
  show wpAny _ _ (Builtin.List.listSubscript? (.int k t) >>= _) _ _ s
  refine wpAny_bind (wpAny_listSubscript_int (fitsIndex_both hlo hhi) ?_)
  clear hlo hhi
  subst hkj
  show wpAny _ _ ((seqItemAt l j >>= fun r => pure (r.map (j, ·))) >>= _) _ _ s
  refine wpAny_bind (wpAny_bind (wpAny_seqItemAt ho hd (wpAny_pure ?_)))
  rw [Array.getElem?_eq_none hout]
  first
    | exact wpAny_bind (wpAny_rule (by exact raiseX plainExc_IndexError hh he hO hE))
    | exact wpAny_bind (wpAny_rule (wpAny_bind (by exact raiseX plainExc_IndexError hh he hO hE)))
    | exact wpAny_bind (wpAny_bind (wpAny_rule (by exact raiseX plainExc_IndexError hh he hO hE)))
    | exact wpAny_rule (by exact raiseX plainExc_IndexError hh he hO hE)
theorem item_outX {value slice : Expr} {l e₁ T : Addr} {oe : Obj} {X : String} {items : Array Value} {j : Nat} {u : Tok} {Q : Value → Shared → Prop} (hh : A.handled = some (.ref e₁)) (he : s.heap.get? e₁ = some oe) (hO : ExD oe X T .none) (hl : s.heap.IsList l items)
    (hout : items.size ≤ j) (hhi : (j : Int) < 2 ^ 63)
    (hE : ∀ h' tk e, NewEx s.heap h' e "IndexError" (.ref e₁) → E (.ref e) { s with heap := h', toks := tk })
    (hs : subscripted slice false (.ref l) (.int j u) = operate [.ref l, .int j u] (getItem (.ref l) (.int j u)) := by with_unfolding_all rfl) :
    wpAny (model prog w) A (subscriptTail value slice (.ref l) (.int j u)) Q E s :=
  tail_any hl.typeIs slot_list_getitem.lookup (getItem_outX hh he hO hl rfl hout (by omega) hhi hE) hs
theorem item_out1 {value slice : Expr} {l : Addr} {items : Array Value} {j : Nat} {u : Tok} {Q : Value → Shared → Prop} (hh : A.handled = none) (hl : s.heap.IsList l items)
    (hout : items.size ≤ j) (hhi : (j : Int) < 2 ^ 63)
    (hE : ∀ h' tk e, NewEx s.heap h' e "IndexError" .none → E (.ref e) { s with heap := h', toks := tk })
    (hs : subscripted slice false (.ref l) (.int j u) = operate [.ref l, .int j u] (getItem (.ref l) (.int j u)) := by with_unfolding_all rfl) :
    wpAny (model prog w) A (subscriptTail value slice (.ref l) (.int j u)) Q E s :=
  tail_any hl.typeIs slot_list_getitem.lookup (wpAny_getItem_list_out hh hl (.inr (by omega)) (by omega) hhi fun h' tk e x => hE h' tk e (.of x)) hs
theorem item_in1 {value slice : Expr} {l : Addr} {vs : List Value} {xs : List Str} {j : Nat} {x : Str} {u : Tok} {Q : Value → Shared → Prop} (hl : s.heap.IsList l vs.toArray) (hS : StrsAre vs xs)
    (hin : xs[j]? = some x) (hhi : (j : Int) < 2 ^ 63) (h : ∀ t, Q (.str x t) s)
    (hs : subscripted slice false (.ref l) (.int j u) = operate [.ref l, .int j u] (getItem (.ref l) (.int j u)) := by with_unfolding_all rfl) :
    wpAny (model prog w) A (subscriptTail value slice (.ref l) (.int j u)) Q E s := by
  obtain ⟨t, ht⟩ := strs_get hS hin
  exact tail_any hl.typeIs slot_list_getitem.lookup (wpAny_getItem_list hl (by omega) hhi (by simpa using ht) (h t)) hs
end

section
variable {prog : Program} {w : World} {A : Around} {E : Value → Shared → Prop} {s s' : Shared} {env : Env} {g : Heap} {L' e T : Addr} {oe oT : Obj} {m : Str → Option Value} {l : List (Addr × Obj)} {ctx fl : Value}
noncomputable def ClauseX (prog : Program) (w : World) (A : Around) (env : Env) (e : Addr) (suite : List Stmt) (Q : Flow → Shared → Prop) (E : Value → Shared → Prop) (c : Value) (s₁ : Shared) : Prop :=
  c = .type "IndexError" ∧ s₁.TypeIs (.ref e) "IndexError" ∧ wpAny (model prog w) (A.mark (some (.ref e))) (setFlight (.ref e) none) (fun _ s₂ => wpAny (model prog w) (A.mark (some (.ref e))) (execs suite env) Q E s₂) E s₁
theorem handle1 {t : Expr} {b₀ : Stmt} {suite : List Stmt} {pos : Pos} {rest : List ExceptHandler} {Q : Flow → Shared → Prop}
    (hE : PassesOwnAt (model prog w) (A.mark (some (.ref e))) A env E)
    (h : wpAny (model prog w) (A.mark (some (.ref e))) (eval t env) (ClauseX prog w A env e (b₀ :: suite) Q E) E s) :
    wpAny (model prog w) A (handleBy (.ref e) env (.ExceptHandler (some t) none (b₀ :: suite) pos :: rest)) Q E s := by
  refine wpAny_handleBy_builtin (X := "IndexError") (T := "IndexError") (b := true) PySem.F.isExc_IndexError PySem.F.notTuple_IndexError (by rw [isSubtype_type]; kernel_rfl)
    (wpAny_passesOwnAt hE (wpAny_mono h (fun c s₁ h₁ => ?_) fun _ _ y => y))
  obtain ⟨a, b, c⟩ := h₁
  refine ⟨a, b, ?_⟩
  rw [if_pos rfl]
  exact wpAny_passesOwnAt hE (wpAny_mono c (fun _ s₂ h₂ => wpAny_passesOwnAt hE h₂) fun _ _ y => y)
theorem ClauseX.mk {suite : List Stmt} {Q : Flow → Shared → Prop} (F : Fr g L' s'.heap m) (N : News g L' s'.heap ((e, oe) :: (T, oT) :: l)) (hO : ExD oe "IndexError" T ctx) (hT : TbD oT fl) (hTe : T ≠ e) (hl : ∀ p ∈ l, p.1 ≠ T)
    (k : ∀ h', Fr g L' h' m → News g L' h' l → wpAny (model prog w) (A.mark (some (.ref e))) (execs suite env) Q E { s' with heap := h' }) :
    ClauseX prog w A env e suite Q E (.type "IndexError") s' :=
  ⟨rfl, ⟨_, (N (e, oe) (.head _)).1, hO.1⟩, flight1 (f := none) F N hO hT hTe hl fun h' _ F' N' _ => k h' F' (nsub N' fun p hp => .tail _ (.tail _ hp))⟩
end

inductive LeaveT (h₀ : Heap) (L : Addr) (oL : Obj) (m : Str → Option Value) (g : Heap) (rest : List (Addr × Obj)) (R : Value → Shared → Prop) (v : Value) (s' : Shared) : Prop
  | mk (L' : Addr) (m' : Str → Option Value) (new : List (Addr × Obj)) (sl : Array (Option Value)) (F : Fr g L' s'.heap m') (N : News g L' s'.heap (new ++ [(L, { oL with slots := sl })])) (ne : ∀ q ∈ new, q.1 ≠ L) (k : Fr h₀ L s'.heap m → News h₀ L s'.heap (new ++ rest) → (∀ q ∈ new, ∀ p ∈ rest, p.1 ≠ q.1) → R v s') : LeaveT h₀ L oL m g rest R v s'
section
variable {prog : Program} {w : World} {A A₀ : Around} {E : Value → Shared → Prop} {s : Shared} {K : Frag} {L : Addr} {h₀ base : Heap} {m mg mb : Str → Option Value} {rest : List (Addr × Obj)} {p : Program} {loose : List Str} {mean : ExcName → Option Value} {Q : Value → Shared → Prop}
theorem enterT {env : Env} {name qual : Str} {params : Arguments} {body : List Stmt} {scope : Scope} {dV kV doc pm cdv ct oc : Value} {an od : Option Addr} {osl : Array (Option Value)} {f : Addr} {args : Args} {binds : List (Str × Value)}
    (hA : A.frames = some [env]) (hf : env.frame = some L) (hke : env.scope.kind = .function)
    (F : Fr h₀ L s.heap m) (X₀ : K.In h₀) (N : News h₀ L s.heap rest) (T : Top p loose mean mg mb h₀) 
    (ho : K.lookup f = some ⟨oc, od, .func (fnOf name qual params body scope dV kV doc pm an cdv ct), osl⟩) (hcd : codeIn K cdv qual = true) (hroom : A.depth < recursionLimit)
    (hbind : BindsTo s (fnOf name qual params body scope dV kV doc pm an cdv ct) args binds) {bl : List (Str × Value)} (hB : binds = bl) (hloc : ∀ y ∈ binds, scope.names.lookup y.1 = some .local)
    (hco : scope.isCoroutine = false) (hgen : scope.isGenerator = false) (hk : scope.kind = .function)
    (hcell : ∀ x ∈ scope.names, x.2 ≠ .cell)
    (h : ∀ g oL L' h₁ tk, (∀ b o, b ≠ L → s.heap.get? b = some o → g.get? b = some o) → Cl1 A env L oL → @LT.lt Nat _ L L' → Fr g L' h₁ (fun y => bl.reverse.lookup y) → News g L' h₁ [(L, oL)] → K.In g → Top p loose mean mg mb g →
      wpAny (model prog w) (A.deeper (envOf qual scope L' f cdv)) (execs body (envOf qual scope L' f cdv))
        (fun fl s' => LeaveT h₀ L oL m g rest Q (match fl with | .ret v => v | _ => .none) s')
        (fun e s' => wpAny (model prog w) (A.deeper (envOf qual scope L' f cdv)) (leaving (envOf qual scope L' f cdv) e) (fun _ s'' => E e s'') (fun e' s'' => E e' s'') s')
        { s with heap := h₁, toks := tk }) : wpAny (model prog w) A (call (.ref f) args.pos args.kw) Q E s := by
  subst hB
  refine wpAny_call ?_
  have hfo := (X₀.keeps F.keep) _ _ ho
  refine codeAny_call_def (fd := fnOf name qual params body scope dV kV doc pm an cdv ct) (body := body) (binds := binds) hroom hfo rfl (T.nolimit.keeps F.keep) (codeRec_of (X₀.keeps F.keep) hcd) rfl hbind hcell hloc (fun h₁ hns hk₁ => ?_) hco hgen hk
  obtain ⟨oL, es, ep, hL, hLd, hLk⟩ := id F.ns
  have hgL : (hideAll s.heap [L]).get? L = none := hideAll_none _ (.head _)
  have hg : ∀ b o, b ≠ L → s.heap.get? b = some o → (hideAll s.heap [L]).get? b = some o := fun b o hb e => hideAll_get _ e (by simpa using hb)
  have hL₀ : h₀.get? L = none := Heap.get?_none_of_le F.above
  have st : ∀ b o, h₀.get? b = some o → (hideAll s.heap [L]).get? b = some o := fun b o e => hg b o (fun q => by rw [q, hL₀] at e; cases e) (F.keep _ _ e)
  refine wpAny_mono (h (hideAll s.heap [L]) oL s.heap.objs.size h₁ _ hg ⟨hA, by rw [hke]; decide, hf, es, ep, hLd⟩ (Heap.lt_size hL) ⟨hns, fun b o e => hk₁ b o (of_hideAll _ e), Nat.le_of_eq (hideAll_size _ _)⟩
    (fun p hp => by rw [List.mem_singleton.mp hp]; exact ⟨hk₁ _ _ hL, Nat.ne_of_lt (Heap.lt_size hL), hgL⟩) (X₀.keeps st) (T.keeps st)) (fun fl s' hl => ?_) fun _ _ y => y
  obtain ⟨L', m', new, sl, F', N', hne, k⟩ := hl
  have hL' := (N' (L, _) (List.mem_append_right _ (.head _))).1
  have F₁ : Fr h₀ L s'.heap m := ⟨⟨_, es, ep, hL', hLd, hLk⟩, fun b o e => F'.keep _ _ (st _ _ e), F.above⟩
  have gh : ∀ b, (hideAll s.heap [L]).get? b = none → h₀.get? b = none := fun b q => by
    cases q2 : h₀.get? b with
    | none => rfl
    | some o => have := st _ _ q2; rw [q] at this; cases this
  refine k F₁ (fun p hp => ?_) fun q hq p hp e => ?_
  · rcases List.mem_append.mp hp with hp | hp
    · have n := N' p (List.mem_append_left _ hp)
      exact ⟨n.1, hne p hp, gh _ n.2.2⟩
    · have n := N p hp
      exact ⟨F'.keep _ _ (hg _ _ n.2.1 n.1), n.2⟩
  · have n := N p hp
    have n' := (N' q (List.mem_append_left _ hq)).2.2
    have := hg _ _ n.2.1 n.1
    rw [e, n'] at this
    cases this
end
end
section
open PySem PySem.W PyProof.Rows PySem.Calls
set_option Elab.async false
set_option maxRecDepth 100000
set_option genInjectivity false
set_option genSizeOf false
abbrev tup2 (a b : Value) : Obj := { cls := .type "tuple", data := .seq #[a, b] }
section
variable {prog : Program} {w : World} {A : Around} {E : Value → Shared → Prop} {s : Shared} {h₀ : Heap} {L l : Addr} {m : Str → Option Value} {news : List (Addr × Obj)} {value slice : PySem.Expr} {vs : List Value} {Q : Value → Shared → Prop}
theorem pick_from (vs : List Value) (j : Nat) : slicePick vs.toArray (some (j : Int)) none none = (vs.drop j).toArray := by
  have e : sliceBounds (some (j : Int)) none none vs.toArray.size = (((min j vs.toArray.size : Nat) : Int), ((vs.toArray.size : Nat) : Int), 1) := by
    simp only [sliceBounds, Option.getD_none, show (1 : Int) > 0 by decide, if_true, if_neg (show ¬ ((j : Int) < 0) by omega)]
    congr 1
    omega
  rw [kmk_pick_nat _ e]
  show ((vs.drop (min j vs.toArray.size)).take (vs.toArray.size - min j vs.toArray.size)).toArray = _
  rw [List.size_toArray, kmk_drop_min, List.take_of_length_le (by rw [List.length_drop]; omega)]
theorem pick_upto (vs : List Value) (j : Nat) : slicePick vs.toArray none (some (j : Int)) none = (vs.take j).toArray := by
  have e : sliceBounds none (some (j : Int)) none vs.toArray.size = (((0 : Nat) : Int), ((min j vs.toArray.size : Nat) : Int), 1) := by
    simp only [sliceBounds, Option.getD_none, show (1 : Int) > 0 by decide, if_true, if_neg (show ¬ ((j : Int) < 0) by omega)]
    congr 1
    congr 1
    omega
  rw [kmk_pick_nat _ e]
  show ((vs.drop 0).take (min j vs.toArray.size - 0)).toArray = _
  rw [List.drop_zero, Nat.sub_zero, List.size_toArray, kmk_take_min]
theorem sliceF {j : Nat} {t : Tok} (F : Fr h₀ L s.heap m) (N : News h₀ L s.heap news) (hl : s.heap.IsList l vs.toArray) (hz : vs.length ≤ 1000)
    (h : ∀ D h', Fr h₀ L h' m → News h₀ L h' ((D, W.listOf (vs.drop j).toArray 0) :: news) → (∀ p ∈ news, p.1 < D) → Q (.ref D) { s with heap := h' })
    (hs : subscripted slice false (.ref l) (.ref s.heap.objs.size) = operate [.ref s.heap.objs.size, .ref l] (getItem (.ref l) (.ref s.heap.objs.size)) := by with_unfolding_all rfl) (ht : ∀ r, letTemporaryGo value (.ref l) r = pure () := by intro _; rfl) :
    wpAny (model prog w) A (subscriptTail value slice (.ref l) (.ref s.heap.objs.size)) Q E { s with heap := s.heap.push { cls := .type "slice", data := .fields #[.int j t, .none, .none] } } :=
  kmk_slice F N hl (.int _ _) .none (fun D h' F' N' l1 => h D h' F' (by rw [pick_from] at N'; exact N') l1) hs ht (by rw [List.size_toArray, sizeLine_eq]; omega)
theorem sliceU {j : Nat} {t : Tok} (F : Fr h₀ L s.heap m) (N : News h₀ L s.heap news) (hl : s.heap.IsList l vs.toArray) (hz : vs.length ≤ 1000)
    (h : ∀ D h', Fr h₀ L h' m → News h₀ L h' ((D, W.listOf (vs.take j).toArray 0) :: news) → (∀ p ∈ news, p.1 < D) → Q (.ref D) { s with heap := h' })
    (hs : subscripted slice false (.ref l) (.ref s.heap.objs.size) = operate [.ref s.heap.objs.size, .ref l] (getItem (.ref l) (.ref s.heap.objs.size)) := by with_unfolding_all rfl) (ht : ∀ r, letTemporaryGo value (.ref l) r = pure () := by intro _; rfl) :
    wpAny (model prog w) A (subscriptTail value slice (.ref l) (.ref s.heap.objs.size)) Q E { s with heap := s.heap.push { cls := .type "slice", data := .fields #[.none, .int j t, .none] } } :=
  kmk_slice F N hl .none (.int _ _) (fun D h' F' N' l1 => h D h' F' (by rw [pick_upto] at N'; exact N') l1) hs ht (by rw [List.size_toArray, sizeLine_eq]; omega)
theorem updF_to {d : Addr} {o : Obj} {l : List (Addr × Obj)} {g : Obj → List (Addr × Obj)} (U : UpdF d o l g) (o' : Obj) : Upd d o o' l (g o') := by
  induction U with
  | head h => exact .head h
  | tail h _ ih => exact .tail h ih
theorem extendL {D b : Addr} {mv ds : List Value} {n n2 : Nat} {g : Obj → List (Addr × Obj)} (F : Fr h₀ L s.heap m) (N : News h₀ L s.heap news) (hb : (b, W.listOf ds.toArray n2) ∈ news) (U : UpdF D (W.listOf mv.toArray n) news g) (z1 : mv.length ≤ 1000) (z2 : ds.length ≤ 1000)
    (h : ∀ h' n', Fr h₀ L h' m → News h₀ L h' (g (W.listOf (mv ++ ds).toArray n')) → Q .none { s with heap := h' }) : wpAny (model prog w) A (call (.builtin "list.extend") [.ref D, .ref b]) Q E s := by
  have hno : ¬(!mv.toArray.isEmpty && Builtin.List.listTooLong (mv.toArray.size + ds.toArray.size)) = true := by
    have : Builtin.List.listTooLong (mv.toArray.size + ds.toArray.size) = false := by
      unfold Builtin.List.listTooLong
      simp only [List.size_toArray, sizeLine_eq, decide_eq_false_iff_not]
      omega
    rw [this]; simp
  have s1 : mv.toArray.toList.length ≤ sizeLine := by simp only [List.toList_toArray, sizeLine_eq]; omega
  have s2 : mv.toArray.size + ds.toArray.size ≤ sizeLine + 1 := by simp only [List.size_toArray, sizeLine_eq]; omega
  by_cases h0 : ds = []
  · subst h0
    exact kxn_extend F N hb rfl (updF_to U _) hno s1 s2 fun h' F' N' => h h' n F' (by rw [List.append_nil]; exact N')
  · exact kl_extend F N hb (l := mv ++ ds) (by simp) (by simpa using h0) (updF_to U _) hno s1 s2 fun h' F' N' => h h' (n + 1) F' N'
end
end
section
open PySem PySem.W PyProof.Rows PySem.Calls
set_option Elab.async false
set_option maxRecDepth 100000
set_option genInjectivity false
set_option genSizeOf false
abbrev tlt (x y : Str) : Prop := x.cps.toList < y.cps.toList
theorem tlt_irr (x : Str) : ¬ tlt x x := List.lt_irrefl _
theorem tlt_trans {x y z : Str} (h : tlt x y) (h' : tlt y z) : tlt x z := List.lt_trans h h'
theorem str_ext {x y : Str} (h : x.cps.toList = y.cps.toList) : x = y := by
  obtain ⟨⟨l⟩⟩ := x
  obtain ⟨⟨l'⟩⟩ := y
  simp at h
  subst h
  rfl
theorem tlt_eq {x y : Str} (h : ¬ tlt x y) (h' : ¬ tlt y x) : x = y := str_ext (List.le_antisymm (List.not_lt.mp h') (List.not_lt.mp h))
theorem tlt_ne {x y : Str} (h : tlt x y) : x ≠ y := fun e => tlt_irr y (e ▸ h)
noncomputable def Rise (l : List Str) : Prop := l.Pairwise tlt
noncomputable def dif (xs ys : List Str) : List Str := xs.filter fun x => decide (x ∉ ys)
theorem dif_app (a b ys : List Str) : dif (a ++ b) ys = dif a ys ++ dif b ys := List.filter_append _ _
theorem dif_one_in {x : Str} {ys : List Str} (h : x ∈ ys) : dif [x] ys = [] := by simp [dif, h]
theorem dif_one_out {x : Str} {ys : List Str} (h : x ∉ ys) : dif [x] ys = [x] := by simp [dif, h]
theorem dif_out {l ys : List Str} (h : ∀ x ∈ l, x ∉ ys) : dif l ys = l := List.filter_eq_self.mpr fun x hx => by simpa using h x hx
structure DInv (xs ys : List Str) (i j : Nat) (ms us : List Str) : Prop where
  hi : i ≤ xs.length
  hj : j ≤ ys.length
  m : ms = dif (xs.take i) ys
  u : us = dif (ys.take j) xs
  a : ∀ x ∈ xs.take i, ∀ y ∈ ys.drop j, tlt x y
  b : ∀ y ∈ ys.take j, ∀ x ∈ xs.drop i, tlt y x
theorem take1 {l : List Str} {i : Nat} {x : Str} (h : l[i]? = some x) : l.take (i + 1) = l.take i ++ [x] := by
  rw [List.take_add_one, h]; rfl
theorem drop1 {l : List Str} {i : Nat} {x : Str} (h : l[i]? = some x) : l.drop i = x :: l.drop (i + 1) := by
  obtain ⟨hi, rfl⟩ := List.getElem?_eq_some_iff.mp h
  exact List.drop_eq_getElem_cons hi
theorem lt_len {l : List Str} {i : Nat} {x : Str} (h : l[i]? = some x) : i + 1 ≤ l.length := (List.getElem?_eq_some_iff.mp h).1
theorem rise_drop {l : List Str} {i : Nat} {x : Str} (hR : Rise l) (h : l[i]? = some x) : ∀ y ∈ l.drop (i + 1), tlt x y := by
  have := List.Pairwise.sublist (List.drop_sublist i l) hR
  rw [drop1 h] at this
  exact (List.pairwise_cons.mp this).1
theorem DInv.nil (xs ys : List Str) : DInv xs ys 0 0 [] [] := ⟨Nat.zero_le _, Nat.zero_le _, by simp [dif], by simp [dif], by simp, by simp⟩
theorem DInv.lt {xs ys : List Str} {i j : Nat} {ms us : List Str} {x y : Str} (H : DInv xs ys i j ms us) (hy : Rise ys) (h1 : xs[i]? = some x) (h2 : ys[j]? = some y) (h : tlt x y) : DInv xs ys (i + 1) j (ms ++ [x]) us := by
  have hd : ∀ y' ∈ ys.drop j, tlt x y' := by
    intro y' hy'
    rw [drop1 h2] at hy'
    rcases List.mem_cons.mp hy' with rfl | hy'
    · exact h
    · exact tlt_trans h (rise_drop hy h2 y' hy')
  have hx : x ∉ ys := by
    intro hm
    rw [← List.take_append_drop j ys] at hm
    rcases List.mem_append.mp hm with hm | hm
    · exact tlt_irr x (H.b x hm x (by rw [drop1 h1]; exact .head _))
    · exact tlt_irr x (hd x hm)
  refine ⟨lt_len h1, H.hj, ?_, H.u, ?_, ?_⟩
  · rw [take1 h1, dif_app, dif_one_out hx, H.m]
  · intro x' hx' y' hy'
    rw [take1 h1] at hx'
    rcases List.mem_append.mp hx' with hx' | hx'
    · exact H.a x' hx' y' hy'
    · rw [List.mem_singleton.mp hx']; exact hd y' hy'
  · intro y' hy' x' hx'
    exact H.b y' hy' x' (by rw [drop1 h1]; exact .tail _ hx')
theorem DInv.swap {xs ys : List Str} {i j : Nat} {ms us : List Str} (H : DInv xs ys i j ms us) : DInv ys xs j i us ms := ⟨H.hj, H.hi, H.u, H.m, H.b, H.a⟩
theorem DInv.gt {xs ys : List Str} {i j : Nat} {ms us : List Str} {x y : Str} (H : DInv xs ys i j ms us) (hx : Rise xs) (h1 : xs[i]? = some x) (h2 : ys[j]? = some y) (h : tlt y x) : DInv xs ys i (j + 1) ms (us ++ [y]) :=
  (H.swap.lt hx h2 h1 h).swap
theorem DInv.eq {xs ys : List Str} {i j : Nat} {ms us : List Str} {x : Str} (H : DInv xs ys i j ms us) (hx : Rise xs) (hy : Rise ys) (h1 : xs[i]? = some x) (h2 : ys[j]? = some x) : DInv xs ys (i + 1) (j + 1) ms us := by
  have m1 : x ∈ xs := List.mem_of_getElem? h1
  have m2 : x ∈ ys := List.mem_of_getElem? h2
  refine ⟨lt_len h1, lt_len h2, ?_, ?_, ?_, ?_⟩
  · rw [take1 h1, dif_app, dif_one_in m2, List.append_nil, H.m]
  · rw [take1 h2, dif_app, dif_one_in m1, List.append_nil, H.u]
  · intro x' hx' y' hy'
    rw [take1 h1] at hx'
    rcases List.mem_append.mp hx' with hx' | hx'
    · exact H.a x' hx' y' (by rw [drop1 h2]; exact .tail _ hy')
    · rw [List.mem_singleton.mp hx']; exact rise_drop hy h2 y' hy'
  · intro y' hy' x' hx'
    rw [take1 h2] at hy'
    rcases List.mem_append.mp hy' with hy' | hy'
    · exact H.b y' hy' x' (by rw [drop1 h1]; exact .tail _ hx')
    · rw [List.mem_singleton.mp hy']; exact rise_drop hx h1 x' hx'
theorem DInv.endM {xs ys : List Str} {i j : Nat} {ms us : List Str} (H : DInv xs ys i j ms us) (he : i = xs.length ∨ j = ys.length) : ms ++ xs.drop i = dif xs ys := by
  have e : dif (xs.drop i) ys = xs.drop i := by
    rcases he with he | he
    · rw [he, List.drop_length]; rfl
    · refine dif_out fun x hx hm => ?_
      have hb := H.b x (by rw [he, List.take_length]; exact hm) x hx
      exact tlt_irr x hb
  rw [H.m, ← e, ← dif_app, List.take_append_drop]
theorem DInv.endU {xs ys : List Str} {i j : Nat} {ms us : List Str} (H : DInv xs ys i j ms us) (he : i = xs.length ∨ j = ys.length) : us ++ ys.drop j = dif ys xs := H.swap.endM he.symm
theorem rise_ne {l : List Str} {i : Nat} {x y : Str} (hR : Rise l) (h : l[i]? = some x) (h' : l[i + 1]? = some y) : (y == x) = false := by
  have := rise_drop hR h y (by rw [drop1 h']; exact .head _)
  cases e : y == x
  · rfl
  · exact absurd (eq_of_beq e).symm (tlt_ne this)
end
section
open PySem PySem.W PyProof.Rows PySem.Calls
set_option Elab.async false
set_option maxRecDepth 100000
set_option genInjectivity false
set_option genSizeOf false
open LCg LCt
section
variable {prog : Program} {w : World} {A : Around} {E : Value → Shared → Prop} {s : Shared} {h₀ : Heap} {L : Addr} {m : Str → Option Value} {env : Env}
theorem comp_restT {σ : Type} {ct elt : Expr} {x : Str} {scope : Scope} {cl : List (Str × Addr)} {S : List (Addr × Obj) → Prop} {P : Nat → Value → Prop} {Fin : List Value → List (Addr × Obj) → Prop} {n : Nat} (Led : σ → List (Addr × Obj)) (Ok : Nat → List Value → σ → Prop) (c₀ : σ) (h0 : Ok 0 [] c₀)
    (turn : ∀ i ys c v I oI C oC D m₂ h tk (E' : Value → Shared → Prop), i < n → Ok i ys c → P i v → NsObj oC m₂ → m₂ x = some v → Fr h₀ L h m → News h₀ L h ((I, oI) :: (C, oC) :: (D, lst ys) :: Led c) → Off3 I C D (Led c) → ((@Ne Nat I C) ∧ (@Ne Nat I D) ∧ (@Ne Nat C D)) →
      wpAny (model prog w) A (isTrue ct (compEnvC scope cl C env) (eval ct (compEnvC scope cl C env))) (fun ok s' => if ok = true then
        wpAny (model prog w) A (eval elt (compEnvC scope cl C env)) (CompTurn h₀ L m { s with heap := h, toks := tk } I oI C oC D (lst ys) S Led (fun y c' => Ok (i + 1) (ys ++ [y]) c')) E' s'
        else CompTurn h₀ L m { s with heap := h, toks := tk } I oI C oC D (lst ys) S Led (fun _ c' => Ok (i + 1) ys c') Value.none s') E' { s with heap := h, toks := tk })
    (done : ∀ ys c, Ok n ys c → Fin ys (Led c)) : CompRestT prog w A h₀ L m env ct elt x scope cl s S P Fin n 0 [] (Led c₀) := by
  have key : ∀ k i ys c, i + k = n → Ok i ys c → CompRestT prog w A h₀ L m env ct elt x scope cl s S P Fin k i ys (Led c) := by
    intro k
    induction k with
    | zero => intro i ys c hi hOk; exact done ys c (by have : i = n := by omega
                                                       rw [← this]; exact hOk)
    | succ k ih =>
      intro i ys c hi hOk
      refine CompRestT.succ fun v I oI C oC D m₂ h tk E' hP hN hx F N off ne => ?_
      refine wpAny_mono (turn i ys c v I oI C oC D m₂ h tk E' (by omega) hOk hP hN hx F N off ne) (fun ok s₂ hy => ?_) fun _ _ e => e
      cases ok with
      | true =>
        simp only [if_true] at hy ⊢
        refine wpAny_mono hy (fun y s₃ hy => ?_) fun _ _ e => e
        obtain ⟨c', h', tk', all, rfl, F', N', sub, off', hS, hOk'⟩ := hy
        exact CompEnd.intro F' N' (Led c') sub off' hS (ih (i + 1) (ys ++ [y]) c' (by omega) hOk')
      | false =>
        simp only [Bool.false_eq_true, if_false] at hy ⊢
        obtain ⟨c', h', tk', all, rfl, F', N', sub, off', hS, hOk'⟩ := hy
        exact CompEnd.intro F' N' (Led c') sub off' hS (ih (i + 1) ys c' (by omega) hOk')
  exact key n 0 [] c₀ (by omega) h0
end
end
section
open PySem PySem.W PyProof.Rows PySem.Calls
set_option Elab.async false
set_option maxRecDepth 100000
set_option genInjectivity false
set_option genSizeOf false
section
variable {α β : Type}
noncomputable def rot1 : List α → List α
  | [] => []
  | v :: r => r ++ [v]
noncomputable def rotL : Nat → List α → List α
  | 0, l => l
  | k + 1, l => rot1 (rotL k l)
noncomputable def qAt (e : Nat) : Nat → List α → List α
  | 0, l => l
  | i + 1, l => (rotL (e - 1) (qAt e i l)).tail
noncomputable def gAt (e : Nat) : Nat → List α → List α
  | 0, _ => []
  | i + 1, l => gAt e i l ++ (rotL (e - 1) (qAt e i l)).take 1
theorem rot1_length (l : List α) : (rot1 l).length = l.length := by
  cases l with
  | nil => rfl
  | cons v r => simp [rot1]
theorem rotL_length (k : Nat) (l : List α) : (rotL k l).length = l.length := by
  induction k with
  | zero => rfl
  | succ k ih => rw [rotL, rot1_length, ih]
theorem qAt_length (e i : Nat) (l : List α) : (qAt e i l).length = l.length - i := by
  induction i with
  | zero => rfl
  | succ i ih => rw [qAt, List.length_tail, rotL_length, ih]; omega
theorem gAt_length (e i : Nat) (l : List α) (h : i ≤ l.length) : (gAt e i l).length = i := by
  induction i with
  | zero => rfl
  | succ i ih => rw [gAt, List.length_append, ih (by omega), List.length_take, rotL_length, qAt_length]; omega
theorem rot1_map (f : α → β) (l : List α) : rot1 (l.map f) = (rot1 l).map f := by
  cases l with
  | nil => rfl
  | cons v r => simp [rot1]
theorem rotL_map (f : α → β) (k : Nat) (l : List α) : rotL k (l.map f) = (rotL k l).map f := by
  induction k with
  | zero => rfl
  | succ k ih => rw [rotL, ih, rot1_map]; rfl
theorem qAt_map (f : α → β) (e i : Nat) (l : List α) : qAt e i (l.map f) = (qAt e i l).map f := by
  induction i with
  | zero => rfl
  | succ i ih => rw [qAt, ih, rotL_map, ← List.map_tail]; rfl
theorem gAt_map (f : α → β) (e i : Nat) (l : List α) : gAt e i (l.map f) = (gAt e i l).map f := by
  induction i with
  | zero => rfl
  | succ i ih => rw [gAt, ih, qAt_map, rotL_map, ← List.map_take, ← List.map_append]; rfl
theorem rot1_perm (l : List α) : (rot1 l).Perm l := by
  cases l with
  | nil => exact .refl _
  | cons v r => exact List.perm_append_singleton v r
theorem rotL_perm (k : Nat) (l : List α) : (rotL k l).Perm l := by
  induction k with
  | zero => exact .refl _
  | succ k ih => exact (rot1_perm _).trans ih
theorem gq_perm (e i : Nat) (l : List α) : (gAt e i l ++ qAt e i l).Perm l := by
  induction i with
  | zero => exact .refl _
  | succ i ih =>
    rw [gAt, qAt, List.append_assoc]
    refine List.Perm.trans (List.Perm.append_left _ ?_) ih
    rw [← List.drop_one, List.take_append_drop]
    exact rotL_perm _ _
theorem gAt_pre (e i : Nat) (l : List α) : ∀ k, ∃ r, gAt e (i + k) l = gAt e i l ++ r
  | 0 => ⟨[], by simp⟩
  | k + 1 => by
    obtain ⟨r, hr⟩ := gAt_pre e i l k
    exact ⟨_, by rw [← Nat.add_assoc, gAt, hr, List.append_assoc]⟩
theorem gAt_drop (e i : Nat) (l : List α) (h : i ≤ l.length) : ((gAt e l.length l).drop i).Perm (qAt e i l) := by
  obtain ⟨k, hk⟩ : ∃ k, l.length = i + k := ⟨l.length - i, by omega⟩
  obtain ⟨r, hr⟩ := gAt_pre e i l k
  rw [← hk] at hr
  have h1 := gq_perm e i l
  have h2 := gq_perm e l.length l
  have h3 : qAt e l.length l = [] := List.eq_nil_of_length_eq_zero (by rw [qAt_length]; omega)
  rw [h3, List.append_nil] at h2
  rw [hr] at h2 ⊢
  have h4 := gAt_length e i l h
  rw [List.drop_left' h4]
  exact (List.perm_append_left_iff _).mp (h2.trans h1.symm)
end
theorem StrsAre.rot1 {vs : List Value} {xs : List Str} (h : StrsAre vs xs) : StrsAre (rot1 vs) (Mine.rot1 xs) := by
  cases h with
  | nil => exact .nil
  | cons y t r => exact r.append' (.cons y t .nil)
theorem strs_rotL {vs : List Value} {xs : List Str} (h : StrsAre vs xs) (k : Nat) : StrsAre (rotL k vs) (rotL k xs) := by
  induction k with
  | zero => exact h
  | succ k ih => exact StrsAre.rot1 ih
theorem strs_tail {vs : List Value} {xs : List Str} (h : StrsAre vs xs) : StrsAre vs.tail xs.tail := by
  cases h with
  | nil => exact .nil
  | cons y t r => exact r
theorem strs_qAt {vs : List Value} {xs : List Str} (h : StrsAre vs xs) (e i : Nat) : StrsAre (qAt e i vs) (qAt e i xs) := by
  induction i with
  | zero => exact h
  | succ i ih => exact strs_tail (strs_rotL ih _)
theorem strs_gAt {vs : List Value} {xs : List Str} (h : StrsAre vs xs) (e i : Nat) : StrsAre (gAt e i vs) (gAt e i xs) := by
  induction i with
  | zero => exact .nil
  | succ i ih => exact ih.append' ((strs_rotL (strs_qAt h e i) _).take' 1)
structure Wt where
  a : Addr
  ws : List Value
  n : Nat
abbrev Wt.obj (w : Wt) : Addr × Obj := (w.a, W.listOf w.ws.toArray w.n)
noncomputable def WtOk (e : Nat) (xs : List Str) (wl : List Wt) : Prop := ∀ j w, wl[j]? = some w → ∃ ss, StrsAre w.ws ss ∧ ss.Perm (qAt e j xs) ∧ sortedS ss = true
theorem WtOk.snoc {e : Nat} {xs : List Str} {wl : List Wt} {w : Wt} {ss : List Str} (h : WtOk e xs wl) (h1 : StrsAre w.ws ss) (h2 : ss.Perm (qAt e wl.length xs)) (h3 : sortedS ss = true) : WtOk e xs (wl ++ [w]) := by
  intro j w' hj
  by_cases hl : j < wl.length
  · rw [List.getElem?_append_left hl] at hj
    exact h j w' hj
  · rw [List.getElem?_append_right (by omega)] at hj
    have : j - wl.length = 0 := by
      cases hq : j - wl.length with
      | zero => rfl
      | succ k => rw [hq] at hj; simp at hj
    rw [this] at hj
    simp at hj
    subst hj
    have : j = wl.length := by omega
    subst this
    exact ⟨ss, h1, h2, h3⟩
section
variable {prog : Program} {w : World} {A : Around} {E : Value → Shared → Prop} {s : Shared} {h₀ : Heap} {L : Addr} {m : Str → Option Value} {news : List (Addr × Obj)}
theorem sortedK {l : Addr} {vs : List Value} {ss : List Str} {Q : Value → Shared → Prop} (F : Fr h₀ L s.heap m) (N : News h₀ L s.heap news) (hl : s.heap.IsList l vs.toArray) (hS : StrsAre vs ss) (h64 : vs.length < 64)
    (h : ∀ D (h' : Heap) (ws : List Value) (ss' : List Str) (e : Nat), Fr h₀ L h' m → News h₀ L h' ((D, W.listOf ws.toArray e) :: news) → (∀ p ∈ news, p.1 < D) → StrsAre ws ss' → ss'.Perm ss → sortedS ss' = true → Q (.ref D) { s with heap := h' }) :
    wpAny (model prog w) A (call (.builtin "sorted") [.ref l]) Q E s :=
  sorted_N_str F N hl hS h64 fun h' ws ss' e F' N' hS' hp hs => h _ h' ws ss' e F' N' (fun p hp => Nat.lt_succ_of_lt (Heap.lt_size (N p hp).1)) hS' hp hs
end
section
variable {prog : Program} {w : World} {A : Around} {E : Value → Shared → Prop} {s : Shared} {env : Env} {h₀ : Heap} {x : Str} {body : List Stmt} {Q : Flow → Shared → Prop}
theorem for_listG {σ : Type} {ax : Addr} {items : Array Value} {m₀ : Str → Option Value} (stored : List Str) (ps : σ → List (Str × Value)) (Led : σ → List (Addr × Obj)) (Ok : Nat → σ → Prop) (c₀ : σ)
    (hh : A.handled = none) (F : Fr h₀ env.locals s.heap m₀) (N : News h₀ env.locals s.heap (Led c₀)) (hl : h₀.IsList ax items) (hps : ∀ p ∈ ps c₀, m₀ p.1 = some p.2) (h0 : Ok 0 c₀)
    (turn : ∀ i v c (u : Str → Option Value) h tk own, items[i]? = some v → Ok i c → OwnOff own ((Led c).map (·.1)) → Fr h₀ env.locals h (fun y => if y = x then some v else kstB (fun z => if stored.contains z then u z else m₀ z) (ps c) y) → News h₀ env.locals h (Led c ++ own) →
      wpAny (model prog w) A (execs body env) (TurnPost h₀ env.locals x stored m₀ ps Led (Ok (i + 1)) own { s with heap := h, toks := tk } Q) E { s with heap := h, toks := tk })
    (done : ∀ c (u : Str → Option Value) h tk, Ok items.size c → Fr h₀ env.locals h (fun y => if y = x then u y else kstB (fun z => if stored.contains z then u z else m₀ z) (ps c) y) → News h₀ env.locals h (Led c) → Q .next { s with heap := h, toks := tk }) :
    wpAny (model prog w) A (pyIter (.ref ax)) (fun it s₂ => LoopAtV prog w A h₀ env x body Q E it s₂) E s := by
  obtain ⟨o, ho, hc, hd⟩ := id hl
  have hl' : s.heap.IsList ax items := ⟨o, F.keep _ _ ho, hc, hd⟩
  have hlt : ax < s.heap.objs.size := Heap.lt_size (F.keep _ _ ho)
  refine wpAny_pyIter_list hl' ?_
  have W := Walks.list (prog := prog) (w := w) hh s.heap.objs.size ax (Nat.ne_of_lt hlt) items
  refine loop_gen stored ps Led [] Ok c₀ W ?_ ?_ ?_ ?_ (fun _ h => nomatch h) (fun _ h => nomatch h) ⟨⟨_, Heap.get?_push_size _ rfl, rfl, rfl⟩, hl'.push _⟩ (F.push _) (fun p hp => ⟨Heap.get?_push_of_some _ (N p hp).1, (N p hp).2⟩) (fun _ h => nomatch h) hps h0 ?_ ?_
  · intro hm
    rcases List.mem_cons.mp hm with e | hm
    · exact absurd F.ns.lt (e ▸ Nat.lt_irrefl _)
    · have e := List.mem_singleton.mp hm
      have := Heap.get?_none_of_le (h := h₀) F.above
      rw [e, ho] at this; cases this
  · intro b' hb
    rw [List.mem_singleton.mp hb]
    exact next_is_new F
  · intro i h st b' hb
    rcases List.mem_cons.mp hb with rfl | hb
    · obtain ⟨o, ho, _⟩ := st.1
      exact ⟨o, ho⟩
    · rw [List.mem_singleton.mp hb]
      obtain ⟨o, ho, _⟩ := st.2
      exact ⟨o, ho⟩
  · intro p hp hI
    rcases List.mem_cons.mp hI with e | hI
    · exact absurd (Heap.lt_size (N p hp).1) (e ▸ Nat.lt_irrefl _)
    · have := (N p hp).2.2
      rw [List.mem_singleton.mp hI, ho] at this; cases this
  · intro i v c u h tk own hi hP hOk hoff _ _ F₁ N₁
    exact turn i v c u h tk own hP hOk hoff F₁ N₁
  · intro c u h tk hOk F₁ N₁ _
    exact done c u h tk hOk F₁ (nsub N₁ fun p hp => List.mem_append_left _ hp)
end
end
section
local macro_rules | `(tactic| walk_at "subscriptTail") => `(tactic| o_head [subscriptTail _ _ (Value.ref _) (Value.int _ _)])
local macro_rules | `(tactic| walk_at "subscriptTail Name Name ref int") => `(tactic| walk_at "subscriptTail")
local macro_rules | `(tactic| o_head {$a}) => `(tactic| (apply $a; k_asm; k_asm; kmk_list; omega))
local macro_rules | `(tactic| walk_at "subscriptTail Name Slice ref ref") => `(tactic| (k_here; k_dflt (first | o_head {sliceF} | o_head {sliceU}); intro D' h' F' N' l1; (try k_lt l1); (try k_sweep)))
local macro_rules | `(tactic| walk_at "call builtin:list.extend") => `(tactic| (k_here; (with_reducible show wpAny _ _ (call _ [_, Value.ref _]) _ _ _); k_dflt (apply extendL; k_asm; k_asm; k_mem; k_updF; ((try simp only [List.length_append, List.length_cons, List.length_nil]); omega); ((try simp only [List.length_drop]); omega)); intro h' n' F' N'; (try dsimp only at N')))
section
open PySem PySem.W PyProof.Rows
set_option Elab.async false
set_option linter.unusedVariables false
set_option linter.unusedSimpArgs false
set_option linter.unusedSectionVars false
set_option pp.deepTerms false
set_option pp.deepTerms.threshold 6
set_option pp.proofs false
set_option maxRecDepth 100000
set_option compiler.extract_closed false
set_option rowWalk.seconds 0
set_option genInjectivity false
set_option genSizeOf false
local macro_rules | `(tactic| k_steps) => `(tactic| o_head 36)
local macro_rules | `(tactic| ktr_enter) => `(tactic| (o_head (enterT (args := ⟨_, _⟩), 4, 0, 0); intros; (try dsimp only); (try k_fold)))
local macro_rules | `(tactic| walk_at "exec While") => `(tactic| (k_here; refine whl_start 0 ?_))
local macro_rules | `(tactic| walk_at "exec While Compare") => `(tactic| (k_here; refine whl_start 0 ?_))
local macro_rules | `(tactic| walk_at "exec While Compare cons nil") => `(tactic| (k_here; refine whl_start 0 ?_))
local macro_rules | `(tactic| walk_at "WhlRest") => `(tactic| (k_here; refine Stop.mk ?_))
structure Sd where
  i : Nat
  j : Nat
  ti : Tok
  tj : Tok
  mv : List Value
  uv : List Value
  mn : Nat
  un : Nat
  sl : Array (Option Value)
theorem sd1 {N i j i' j' : Nat} (h1 : i + j < i' + j') (h2 : i + j < N) : N - i' - j' < N - i - j := by rw [Nat.sub_sub, Nat.sub_sub]; exact Nat.sub_lt_sub_left h2 h1
noncomputable def SdOk (xs ys : List Str) (c : Sd) : Prop := ∃ ms us, StrsAre c.mv ms ∧ StrsAre c.uv us ∧ DInv xs ys c.i c.j ms us
noncomputable def sldBody (P : Params) : List Stmt := match (hd.heap_1 P).lookup 167 with | some ⟨_, _, .func f, _⟩ => (match f.body with | .stmts b => b | _ => []) | _ => []
noncomputable def sldScope (P : Params) : Scope := match (hd.heap_1 P).lookup 167 with | some ⟨_, _, .func f, _⟩ => f.scope | _ => ⟨.function, [], false, false, []⟩
noncomputable def handIn : List Stmt → List Stmt
  | [] => []
  | .While _ (.Try _ (.ExceptHandler _ _ b _ :: _) _ _ _ :: _) _ _ :: _ => b
  | _ :: r => handIn r
section
variable {w : World} {p : Program} {loose : List Str} {mean : ExcName → Option Value} {mg mb m₀ : Str → Option Value}
   {dp un : Nat} {gd : Option (List Code)} {cn : Str} {cs : Scope} {a L LL e6 lu lm ea aa : Addr} {ccd : Value} {cl : List (Str × Addr)} {g h₀ : Heap} {k₀ i j un' mn' : Nat} {ti tj : Tok} {uv mv evs avs : List Value} {R : Addr × Obj} {s : Shared}
   {Q : Flow → Shared → Prop} {E : Value → Shared → Prop}
set_option maxHeartbeats 4000000 in
theorem sld_hand (X : (hd.heap_1 w.params).In g) (T : Top p loose mean mg mb g) (F9 : Fr g LL h₀ (fun y => if y = Str.ofString "i" then some (.int (i : Int) ti) else if y = Str.ofString "j" then some (.int (j : Int) tj) else if y = Str.ofString "missing" then some (.ref lm) else if y = Str.ofString "unexpected" then some (.ref lu) else if y = Str.ofString "expected" then some (.ref ea) else if y = Str.ofString "actual" then some (.ref aa) else m₀ y)) (N9 : News g LL h₀ [(lu, W.listOf uv.toArray un'), (lm, W.listOf mv.toArray mn'), R])
    (hE' : g.IsList ea evs.toArray) (hA' : g.IsList aa avs.toArray) (n1 : @Ne Nat lu lm) (n2 : @Ne Nat lu R.1) (n3 : @Ne Nat lm R.1) (hel : evs.length ≤ 12) (hal : avs.length ≤ 12) (hml : mv.length ≤ 13) (hul : uv.length ≤ 13)
    (hq : ∀ h' k' c1 c2, Fr g LL h' (fun y => if y = Str.ofString "i" then some (.int (i : Int) ti) else if y = Str.ofString "j" then some (.int (j : Int) tj) else if y = Str.ofString "missing" then some (.ref lm) else if y = Str.ofString "unexpected" then some (.ref lu) else if y = Str.ofString "expected" then some (.ref ea) else if y = Str.ofString "actual" then some (.ref aa) else m₀ y) → News g LL h' [(lu, W.listOf (uv ++ avs.drop j).toArray c1), (lm, W.listOf (mv ++ evs.drop i).toArray c2), R] → Q .brk { s with heap := h', toks := k' }) :
    wpAny (model PySem.Challenge.rw_qh0051_01.row.prog w) (((ktrTop dp un gd cn cs L a ccd cl []).deeper (envOf (Str.ofString "sorted_list_difference") (sldScope w.params) LL 167 (.ref 166))).mark (some (.ref e6))) (execs (handIn (sldBody w.params)) (envOf (Str.ofString "sorted_list_difference") (sldScope w.params) LL 167 (.ref 166))) Q E { s with heap := h₀, toks := k₀ } := by
  revert X; k_fill; intro X
  obtain ⟨ra, ro⟩ := R
  dsimp only at n2 n3
  show wpAny _ (((ktrTop dp un gd cn cs L a ccd cl []).deeper (envOf (Str.ofString "sorted_list_difference") ⟨_, _, _, _, _⟩ LL 167 (.ref 166))).mark (some (.ref e6))) (execs [_, _, _] (envOf (Str.ofString "sorted_list_difference") ⟨_, _, _, _, _⟩ LL 167 (.ref 166))) Q E _
  k_steps
  (with_reducible rename Fr _ _ _ _ => Fz)
  (with_reducible rename News _ _ _ _ => Nz)
  exact hq _ _ _ _ Fz (nsub Nz (by k_dflt (repeat (first | exact sub_nil | (refine sub_cons ?_ ?_; (focus k_mem))))))
end
section
variable {w : World} {p : Program} {loose : List Str} {mean : ExcName → Option Value} {mg mb : Str → Option Value}
   {dp un : Nat} {gd : Option (List Code)} {cn : Str} {cs : Scope} {a : Addr} {ccd : Value} {cl : List (Str × Addr)} {h₀ : Heap} {L : Addr} {m : Str → Option Value} {rest : List (Addr × Obj)} {s : Shared}
   {Q E : Value → Shared → Prop}
   (F : Fr h₀ L s.heap m) (X : (hd.heap_1 w.params).In h₀) (N : News h₀ L s.heap rest) (T : Top p loose mean mg mb h₀) (hk : cs.kind = .function)
include F X N T hk
set_option maxHeartbeats 4000000 in
theorem c_sld {ea aa : Addr} {evs avs : List Value} {xs ys : List Str} (hd' : dp + 1 < recursionLimit) (hu : un + 16 < cLine) (hEL : ea ≠ L) (hAL : aa ≠ L) (hE : s.heap.IsList ea evs.toArray) (hA : s.heap.IsList aa avs.toArray)
    (hx : StrsAre evs xs) (hy : StrsAre avs ys) (hxl : evs.length ≤ 12) (hyl : avs.length ≤ 12) (hrx : Rise xs) (hry : Rise ys)
    (hret : ∀ h' tk' T lu lm uv mv un mn, Fr h₀ L h' m → StrsAre mv (dif xs ys) → StrsAre uv (dif ys xs) → News h₀ L h' ((T, tup2 (.ref lm) (.ref lu)) :: (lu, W.listOf (List.toArray uv) un) :: (lm, W.listOf (List.toArray mv) mn) :: rest) → Q (.ref T) { s with heap := h', toks := tk' }) :
    wpAny (model PySem.Challenge.rw_qh0051_01.row.prog w) (ktrTop dp un gd cn cs L a ccd cl []) (call (.ref 167) [.ref ea, .ref aa]) Q E s := by
  revert X; k_fill; intro X
  have hxn := hx.length
  have hyn := hy.length
  k_dflt ktr_enter
  rename_i gG oL LL hh0 _ KG hCl l0 _ _ XG TG
  have hE' := hE.at (fun o e => KG _ o hEL e)
  have hA' := hA.at (fun o e => KG _ o hAL e)
  k_steps
  refine Stop.out ?_
  rename_i lm _ _ _ _ lu _ _ _ _ _
  refine' while_inv [Str.ofString "e", Str.ofString "a"] (fun c : Sd => [(Str.ofString "i", .int (c.i : Int) c.ti), (Str.ofString "j", .int (c.j : Int) c.tj)]) (fun c => [(lu, W.listOf c.uv.toArray c.un), (lm, W.listOf c.mv.toArray c.mn), (L, { oL with slots := c.sl })]) (SdOk xs ys) (fun c => xs.length + ys.length - c.i - c.j) ⟨0, 0, _, _, [], [], 0, 0, oL.slots⟩ ?hE ?hF ?hN ?hps ?h0 ?turn
  case hE => passes_own
  case hF => k_asm
  case hN => k_asm
  case hps => kst_all
  case h0 => exact ⟨[], [], .nil, .nil, DInv.nil xs ys⟩
  intro p9x19 u h tk hOk F5 N5
  (try k_fold)
  obtain ⟨i, j, ti, tj, mv, uv, mn, un, sl⟩ := p9x19
  dsimp only at F5 N5
  obtain ⟨ms, us, hM, hU, hD⟩ := hOk
  dsimp only at hM hU hD
  have hil := hD.hi
  have hjl := hD.hj
  have hml : mv.length ≤ 12 := by rw [hM.length, hD.m]; exact Nat.le_trans (List.length_filter_le _ _) (by rw [List.length_take]; omega)
  have hul : uv.length ≤ 12 := by rw [hU.length, hD.u]; exact Nat.le_trans (List.length_filter_le _ _) (by rw [List.length_take]; omega)
  k_steps
  refine Stop.out ?_
  by_cases hi : i < xs.length
  · obtain ⟨x, hx1⟩ : ∃ x, xs[i]? = some x := ⟨xs[i], List.getElem?_eq_getElem hi⟩
    refine item_in1 (hE'.at fun o q => F5.keep _ o q) hx hx1 (by omega) (fun t1 => ?_)
    k_steps
    refine Stop.out ?_
    (with_reducible rename Fr _ _ _ _ => F6)
    by_cases hj : j < ys.length
    · obtain ⟨y, hy1⟩ : ∃ y, ys[j]? = some y := ⟨ys[j], List.getElem?_eq_getElem hj⟩
      refine item_in1 (hA'.at fun o q => F6.keep _ o q) hy hy1 (by omega) (fun t2 => ?_)
      k_steps
      · skip
        (with_reducible rename Fr _ _ _ _ => F6)
        (with_reducible rename News _ _ _ _ => N6)
        rw [show ((i : Int) + 1) = ((i + 1 : Nat) : Int) from rfl] at F6
        simp only [List.push_toArray] at N6
        have hD2 := hD.lt hry hx1 hy1 (by assumption)
        have hM2 := hM.append' (.cons x t1 .nil)
        refine Stop.out ?_
        show WhlRest _ _ _ _ _ _ _ _ _ (0 + 1) _
        refine whl_turn (by passes_own) ?_
        k_steps
        refine Stop.out ?_
        by_cases hi2 : i + 1 < xs.length
        · obtain ⟨z, hz1⟩ : ∃ z, xs[i + 1]? = some z := ⟨xs[i + 1], List.getElem?_eq_getElem hi2⟩
          have hzx := rise_ne hrx hx1 hz1
          refine item_in1 (hE'.at fun o q => F6.keep _ o q) hx hz1 (by omega) (fun t3 => ?_)
          k_steps
          refine WhlIf.no hzx ?_
          k_steps
          (with_reducible rename Fr _ _ _ _ => Fz)
          (with_reducible rename News _ _ _ _ => Nz)
          exact ⟨⟨i + 1, j, _, _, mv ++ [_], uv, _, _, _⟩, _, _, _, _, rfl, Fz, Nz, (by k_dflt (repeat (first | exact sub_nil | (refine sub_cons ?_ ?_; (focus k_mem))))), (by kst_all), (by
              (intros; rename_i h2 h3; (try simp only [List.forall_mem_cons, List.not_mem_nil, false_implies, implies_true, and_true, ne_eq] at h2); (try simp only [List.contains_cons, List.contains_nil, Bool.or_false, Bool.or_eq_false_iff, beq_eq_false_iff_ne, ne_eq] at h3); simp [kstB, *])), ⟨⟨_, _, hM2, hU, hD2⟩, (sd1 (Nat.add_lt_add_right (Nat.lt_succ_self i) j) (Nat.add_lt_add hi hj))⟩⟩
        · refine item_out1 rfl (hE'.at fun o q => F6.keep _ o q) (by rw [List.size_toArray]; omega) (by omega) (fun h6 tk6 e6 x6 => ?_)
          (try dsimp only)
          refine note1 rfl (oL := { oL with slots := sl }) ⟨hCl.fr, hCl.kind, hCl.frame, hCl.dict⟩ rfl x6 F6 (new := [(lu, _), (lm, _)]) N6 (List.forall_mem_cons.mpr ⟨by k_ne, List.forall_mem_cons.mpr ⟨by k_ne, List.forall_mem_nil _⟩⟩) (fun ha Ta oea oTa sla Fa Na hOa hTa hTea hla hlea => ?_)
          refine flight1 (f := none) Fa Na hOa hTa hTea hla (fun hb oTb Fb Nb hTb => ?_)
          refine handle1 (by passes_own) ?_
          (try dsimp only)
          k_steps
          refine ClauseX.mk Fb Nb hOa hTb hTea hla (fun h9 F9 N9 => ?_)
          (try dsimp only)
          (try dsimp only [List.cons_append, List.nil_append] at N9)
          refine sld_hand XG TG (fr_six F9 rfl rfl rfl rfl rfl rfl) N9 hE' hA' (by k_ne) (by k_ne) (by k_ne) hxl hyl (by (try simp only [List.length_append, List.length_cons, List.length_nil]); omega) (by (try simp only [List.length_append, List.length_cons, List.length_nil]); omega) (fun h9 k9 c1 c2 F9 N9 => ?_)
          (try dsimp only)
          k_steps
          (try dsimp only)
          show wpAny _ _ (execs _ _) _ _ _
          k_steps
          (with_reducible rename Fr _ _ _ _ => Fz)
          (with_reducible rename News _ _ _ _ => Nz)
          exact ⟨_, _, [(_, tup2 (.ref lm) (.ref lu)), (lu, W.listOf (uv ++ avs.drop j).toArray _), (lm, W.listOf ((mv ++ [_]) ++ evs.drop (i + 1)).toArray _)], _, Fz, nsub Nz (by k_dflt (repeat (first | exact sub_nil | (refine sub_cons ?_ ?_; (focus k_mem))))), (List.forall_mem_cons.mpr ⟨by k_ne, List.forall_mem_cons.mpr ⟨by k_ne, List.forall_mem_cons.mpr ⟨by k_ne, List.forall_mem_nil _⟩⟩⟩),
            fun kF kN _ => hret _ _ _ lu lm (uv ++ avs.drop j) ((mv ++ [_]) ++ evs.drop (i + 1)) _ _ kF (by rw [← hD2.endM (.inl (by omega))]; exact hM2.append' (hx.drop' _)) (by rw [← hD2.endU (.inl (by omega))]; exact hU.append' (hy.drop' _)) (by exact kN)⟩
      · skip
        (with_reducible rename Fr _ _ _ _ => F6)
        (with_reducible rename News _ _ _ _ => N6)
        rw [show ((j : Int) + 1) = ((j + 1 : Nat) : Int) from rfl] at F6
        simp only [List.push_toArray] at N6
        have hD2 := hD.gt hrx hx1 hy1 (by assumption)
        have hU2 := hU.append' (.cons y t2 .nil)
        refine Stop.out ?_
        show WhlRest _ _ _ _ _ _ _ _ _ (0 + 1) _
        refine whl_turn (by passes_own) ?_
        k_steps
        refine Stop.out ?_
        by_cases hj2 : j + 1 < ys.length
        · obtain ⟨z, hz1⟩ : ∃ z, ys[j + 1]? = some z := ⟨ys[j + 1], List.getElem?_eq_getElem hj2⟩
          have hzx := rise_ne hry hy1 hz1
          refine item_in1 (hA'.at fun o q => F6.keep _ o q) hy hz1 (by omega) (fun t3 => ?_)
          k_steps
          refine WhlIf.no hzx ?_
          k_steps
          (with_reducible rename Fr _ _ _ _ => Fz)
          (with_reducible rename News _ _ _ _ => Nz)
          exact ⟨⟨i, j + 1, _, _, mv, uv ++ [_], _, _, _⟩, _, _, _, _, rfl, Fz, Nz, (by k_dflt (repeat (first | exact sub_nil | (refine sub_cons ?_ ?_; (focus k_mem))))), (by kst_all), (by
              (intros; rename_i h2 h3; (try simp only [List.forall_mem_cons, List.not_mem_nil, false_implies, implies_true, and_true, ne_eq] at h2); (try simp only [List.contains_cons, List.contains_nil, Bool.or_false, Bool.or_eq_false_iff, beq_eq_false_iff_ne, ne_eq] at h3); simp [kstB, *])), ⟨⟨_, _, hM, hU2, hD2⟩, (sd1 (Nat.lt_succ_self (i + j)) (Nat.add_lt_add hi hj))⟩⟩
        · refine item_out1 rfl (hA'.at fun o q => F6.keep _ o q) (by rw [List.size_toArray]; omega) (by omega) (fun h6 tk6 e6 x6 => ?_)
          (try dsimp only)
          refine note1 rfl (oL := { oL with slots := sl }) ⟨hCl.fr, hCl.kind, hCl.frame, hCl.dict⟩ rfl x6 F6 (new := [(lu, _), (lm, _)]) N6 (List.forall_mem_cons.mpr ⟨by k_ne, List.forall_mem_cons.mpr ⟨by k_ne, List.forall_mem_nil _⟩⟩) (fun ha Ta oea oTa sla Fa Na hOa hTa hTea hla hlea => ?_)
          refine flight1 (f := none) Fa Na hOa hTa hTea hla (fun hb oTb Fb Nb hTb => ?_)
          refine handle1 (by passes_own) ?_
          (try dsimp only)
          k_steps
          refine ClauseX.mk Fb Nb hOa hTb hTea hla (fun h9 F9 N9 => ?_)
          (try dsimp only)
          (try dsimp only [List.cons_append, List.nil_append] at N9)
          refine sld_hand XG TG (fr_six F9 rfl rfl rfl rfl rfl rfl) N9 hE' hA' (by k_ne) (by k_ne) (by k_ne) hxl hyl (by (try simp only [List.length_append, List.length_cons, List.length_nil]); omega) (by (try simp only [List.length_append, List.length_cons, List.length_nil]); omega) (fun h9 k9 c1 c2 F9 N9 => ?_)
          (try dsimp only)
          k_steps
          (try dsimp only)
          show wpAny _ _ (execs _ _) _ _ _
          k_steps
          (with_reducible rename Fr _ _ _ _ => Fz)
          (with_reducible rename News _ _ _ _ => Nz)
          exact ⟨_, _, [(_, tup2 (.ref lm) (.ref lu)), (lu, W.listOf ((uv ++ [_]) ++ avs.drop (j + 1)).toArray _), (lm, W.listOf (mv ++ evs.drop i).toArray _)], _, Fz, nsub Nz (by k_dflt (repeat (first | exact sub_nil | (refine sub_cons ?_ ?_; (focus k_mem))))), (List.forall_mem_cons.mpr ⟨by k_ne, List.forall_mem_cons.mpr ⟨by k_ne, List.forall_mem_cons.mpr ⟨by k_ne, List.forall_mem_nil _⟩⟩⟩),
            fun kF kN _ => hret _ _ _ lu lm ((uv ++ [_]) ++ avs.drop (j + 1)) (mv ++ evs.drop i) _ _ kF (by rw [← hD2.endM (.inr (by omega))]; exact hM.append' (hx.drop' _)) (by rw [← hD2.endU (.inr (by omega))]; exact hU2.append' (hy.drop' _)) (by exact kN)⟩
      · skip
        have exy := tlt_eq (x := x) (y := y) (by assumption) (by assumption)
        subst exy
        (with_reducible rename Fr _ _ _ _ => F6)
        (with_reducible rename News _ _ _ _ => N6)
        rw [show ((i : Int) + 1) = ((i + 1 : Nat) : Int) from rfl] at F6
        have hD2 := hD.eq hrx hry hx1 hy1
        refine Stop.out ?_
        show WhlRest _ _ _ _ _ _ _ _ _ (0 + 1) _
        refine whl_turn (by passes_own) ?_
        k_steps
        refine Stop.out ?_
        by_cases hi2 : i + 1 < xs.length
        · obtain ⟨z, hz1⟩ : ∃ z, xs[i + 1]? = some z := ⟨xs[i + 1], List.getElem?_eq_getElem hi2⟩
          have hzx := rise_ne hrx hx1 hz1
          refine item_in1 (hE'.at fun o q => F6.keep _ o q) hx hz1 (by omega) (fun t3 => ?_)
          k_steps
          refine WhlIf.no hzx ?_
          k_steps
          (with_reducible rename Fr _ _ _ _ => F6)
          (with_reducible rename News _ _ _ _ => N6)
          rw [show ((j : Int) + 1) = ((j + 1 : Nat) : Int) from rfl] at F6
          refine Stop.out ?_
          show WhlRest _ _ _ _ _ _ _ _ _ (0 + 1) _
          refine whl_turn (by passes_own) ?_
          k_steps
          refine Stop.out ?_
          by_cases hj2 : j + 1 < ys.length
          · obtain ⟨z', hz2⟩ : ∃ z', ys[j + 1]? = some z' := ⟨ys[j + 1], List.getElem?_eq_getElem hj2⟩
            have hzy := rise_ne hry hy1 hz2
            refine item_in1 (hA'.at fun o q => F6.keep _ o q) hy hz2 (by omega) (fun t4 => ?_)
            k_steps
            refine WhlIf.no hzy ?_
            k_steps
            (with_reducible rename Fr _ _ _ _ => Fz)
            (with_reducible rename News _ _ _ _ => Nz)
            exact ⟨⟨i + 1, j + 1, _, _, mv, uv, _, _, _⟩, _, _, _, _, rfl, Fz, Nz, (by k_dflt (repeat (first | exact sub_nil | (refine sub_cons ?_ ?_; (focus k_mem))))), (by kst_all), (by
                (intros; rename_i h2 h3; (try simp only [List.forall_mem_cons, List.not_mem_nil, false_implies, implies_true, and_true, ne_eq] at h2); (try simp only [List.contains_cons, List.contains_nil, Bool.or_false, Bool.or_eq_false_iff, beq_eq_false_iff_ne, ne_eq] at h3); simp [kstB, *])), ⟨⟨_, _, hM, hU, hD2⟩, (sd1 (Nat.lt_trans (Nat.lt_succ_self (i + j)) (Nat.add_lt_add_right (Nat.lt_succ_self i) (j + 1))) (Nat.add_lt_add hi hj))⟩⟩
          · refine item_out1 rfl (hA'.at fun o q => F6.keep _ o q) (by rw [List.size_toArray]; omega) (by omega) (fun h6 tk6 e6 x6 => ?_)
            show wpAny _ _ (noteFrame _ _) _ _ _
            (try dsimp only)
            refine note1 rfl (oL := { oL with slots := sl }) ⟨hCl.fr, hCl.kind, hCl.frame, hCl.dict⟩ rfl x6 F6 (new := [(lu, _), (lm, _)]) N6 (List.forall_mem_cons.mpr ⟨by k_ne, List.forall_mem_cons.mpr ⟨by k_ne, List.forall_mem_nil _⟩⟩) (fun ha Ta oea oTa sla Fa Na hOa hTa hTea hla hlea => ?_)
            refine back1 Fa Na hOa hTa hTea hla (fun hb oTb Fb Nb hTb => ?_)
            (try dsimp only)
            refine again1 Nb hOa hTb ?_
            refine flight1 (f := none) Fb Nb hOa hTb hTea hla (fun hc oTc Fc Nc hTc => ?_)
            refine handle1 (by passes_own) ?_
            (try dsimp only)
            k_steps
            refine ClauseX.mk Fc Nc hOa hTc hTea hla (fun h9 F9 N9 => ?_)
            (try dsimp only)
            (try dsimp only [List.cons_append, List.nil_append] at N9)
            refine sld_hand XG TG (fr_six F9 rfl rfl rfl rfl rfl rfl) N9 hE' hA' (by k_ne) (by k_ne) (by k_ne) hxl hyl (by (try simp only [List.length_append, List.length_cons, List.length_nil]); omega) (by (try simp only [List.length_append, List.length_cons, List.length_nil]); omega) (fun h9 k9 c1 c2 F9 N9 => ?_)
            (try dsimp only)
            k_steps
            (try dsimp only)
            show wpAny _ _ (execs _ _) _ _ _
            k_steps
            (with_reducible rename Fr _ _ _ _ => Fz)
            (with_reducible rename News _ _ _ _ => Nz)
            exact ⟨_, _, [(_, tup2 (.ref lm) (.ref lu)), (lu, W.listOf (uv ++ avs.drop (j + 1)).toArray _), (lm, W.listOf (mv ++ evs.drop (i + 1)).toArray _)], _, Fz, nsub Nz (by k_dflt (repeat (first | exact sub_nil | (refine sub_cons ?_ ?_; (focus k_mem))))), (List.forall_mem_cons.mpr ⟨by k_ne, List.forall_mem_cons.mpr ⟨by k_ne, List.forall_mem_cons.mpr ⟨by k_ne, List.forall_mem_nil _⟩⟩⟩),
              fun kF kN _ => hret _ _ _ lu lm (uv ++ avs.drop (j + 1)) (mv ++ evs.drop (i + 1)) _ _ kF (by rw [← hD2.endM (.inr (by omega))]; exact hM.append' (hx.drop' _)) (by rw [← hD2.endU (.inr (by omega))]; exact hU.append' (hy.drop' _)) (by exact kN)⟩
        · refine item_out1 rfl (hE'.at fun o q => F6.keep _ o q) (by rw [List.size_toArray]; omega) (by omega) (fun h6 tk6 e6 x6 => ?_)
          (try dsimp only)
          refine note1 rfl (oL := { oL with slots := sl }) ⟨hCl.fr, hCl.kind, hCl.frame, hCl.dict⟩ rfl x6 F6 (new := [(lu, _), (lm, _)]) N6 (List.forall_mem_cons.mpr ⟨by k_ne, List.forall_mem_cons.mpr ⟨by k_ne, List.forall_mem_nil _⟩⟩) (fun ha Ta oea oTa sla Fa Na hOa hTa hTea hla hlea => ?_)
          refine ⟨ref_ne_byPass _, ?_⟩
          refine again1 Na hOa hTa ?_
          refine flight1 (f := none) Fa Na hOa hTa hTea hla (fun hb oTb Fb Nb hTb => ?_)
          dsimp only [List.cons_append, List.nil_append] at Nb
          k_steps
          (with_reducible rename Fr _ _ _ _ => F6)
          (with_reducible rename News _ _ _ _ => N6)
          rw [show ((j : Int) + 1) = ((j + 1 : Nat) : Int) from rfl] at F6
          refine Stop.out ?_
          show WhlRest _ _ _ _ _ _ _ _ _ (0 + 1) _
          refine whl_turn (by passes_own) ?_
          k_steps
          refine Stop.out ?_
          by_cases hj2 : j + 1 < ys.length
          · obtain ⟨z', hz2⟩ : ∃ z', ys[j + 1]? = some z' := ⟨ys[j + 1], List.getElem?_eq_getElem hj2⟩
            have hzy := rise_ne hry hy1 hz2
            refine item_in1 (hA'.at fun o q => F6.keep _ o q) hy hz2 (by omega) (fun t4 => ?_)
            k_steps
            refine WhlIf.no hzy ?_
            k_steps
            show wpAny _ _ (PySem.passOn _ _ _) _ _ _
            refine pass1 F6 N6 hOa hTb hTea hla (fun hc oTc Fc Nc hTc => ?_)
            (try dsimp only)
            refine again1 Nc hOa hTc ?_
            refine flight1 (f := none) Fc Nc hOa hTc hTea hla (fun hd oTd Fd Nd hTd => ?_)
            refine handle1 (by passes_own) ?_
            (try dsimp only)
            k_steps
            refine ClauseX.mk Fd Nd hOa hTd hTea hla (fun h9 F9 N9 => ?_)
            (try dsimp only)
            (try dsimp only [List.cons_append, List.nil_append] at N9)
            refine sld_hand XG TG (fr_six F9 rfl rfl rfl rfl rfl rfl) N9 hE' hA' (by k_ne) (by k_ne) (by k_ne) hxl hyl (by (try simp only [List.length_append, List.length_cons, List.length_nil]); omega) (by (try simp only [List.length_append, List.length_cons, List.length_nil]); omega) (fun h9 k9 c1 c2 F9 N9 => ?_)
            (try dsimp only)
            k_steps
            (try dsimp only)
            show wpAny _ _ (execs _ _) _ _ _
            k_steps
            (with_reducible rename Fr _ _ _ _ => Fz)
            (with_reducible rename News _ _ _ _ => Nz)
            exact ⟨_, _, [(_, tup2 (.ref lm) (.ref lu)), (lu, W.listOf (uv ++ avs.drop (j + 1)).toArray _), (lm, W.listOf (mv ++ evs.drop (i + 1)).toArray _)], _, Fz, nsub Nz (by k_dflt (repeat (first | exact sub_nil | (refine sub_cons ?_ ?_; (focus k_mem))))), (List.forall_mem_cons.mpr ⟨by k_ne, List.forall_mem_cons.mpr ⟨by k_ne, List.forall_mem_cons.mpr ⟨by k_ne, List.forall_mem_nil _⟩⟩⟩),
              fun kF kN _ => hret _ _ _ lu lm (uv ++ avs.drop (j + 1)) (mv ++ evs.drop (i + 1)) _ _ kF (by rw [← hD2.endM (.inl (by omega))]; exact hM.append' (hx.drop' _)) (by rw [← hD2.endU (.inl (by omega))]; exact hU.append' (hy.drop' _)) (by exact kN)⟩
          · refine item_outX rfl (N6 (e6, _) (.head _)).1 hOa (hA'.at fun o q => F6.keep _ o q) (by rw [List.size_toArray]; omega) (by omega) (fun h7 tk7 e7 x7 => ?_)
            show wpAny _ _ (noteFrame _ _) _ _ _
            (try dsimp only)
            refine note1 rfl (oL := { oL with slots := sla }) ⟨hCl.fr, hCl.kind, hCl.frame, hCl.dict⟩ rfl x7 F6 (new := [(e6, _), (Ta, _), (lu, _), (lm, _)]) N6 (List.forall_mem_cons.mpr ⟨Ne.symm (hlea (L, _) (List.mem_append_right _ (.head _))), List.forall_mem_cons.mpr ⟨Ne.symm (hla (L, _) (List.mem_append_right _ (.head _))), List.forall_mem_cons.mpr ⟨by k_ne, List.forall_mem_cons.mpr ⟨by k_ne, List.forall_mem_nil _⟩⟩⟩⟩) (fun hc Tc oec oTc slc Fc Nc hOc hTc hTec hlc hlec => ?_)
            refine back1 Fc Nc hOc hTc hTec hlc (fun hd oTd Fd Nd hTd => ?_)
            (try dsimp only)
            refine again1 Nd hOc hTd ?_
            refine flight1 (f := none) Fd Nd hOc hTd hTec hlc (fun hf oTf Ff Nf hTf => ?_)
            refine handle1 (by passes_own) ?_
            (try dsimp only)
            k_steps
            refine ClauseX.mk Ff Nf hOc hTf hTec hlc (fun h9 F9 N9 => ?_)
            (try dsimp only)
            replace N9 := nsub (l' := [(lu, _), (lm, _), (L, _)]) N9 (fun p hp => .tail _ (.tail _ hp))
            (try dsimp only [List.cons_append, List.nil_append] at N9)
            refine sld_hand XG TG (fr_six F9 rfl rfl rfl rfl rfl rfl) N9 hE' hA' (by k_ne) (by k_ne) (by k_ne) hxl hyl (by (try simp only [List.length_append, List.length_cons, List.length_nil]); omega) (by (try simp only [List.length_append, List.length_cons, List.length_nil]); omega) (fun h9 k9 c1 c2 F9 N9 => ?_)
            (try dsimp only)
            k_steps
            (try dsimp only)
            show wpAny _ _ (execs _ _) _ _ _
            k_steps
            (with_reducible rename Fr _ _ _ _ => Fz)
            (with_reducible rename News _ _ _ _ => Nz)
            exact ⟨_, _, [(_, tup2 (.ref lm) (.ref lu)), (lu, W.listOf (uv ++ avs.drop (j + 1)).toArray _), (lm, W.listOf (mv ++ evs.drop (i + 1)).toArray _)], _, Fz, nsub Nz (by k_dflt (repeat (first | exact sub_nil | (refine sub_cons ?_ ?_; (focus k_mem))))), (List.forall_mem_cons.mpr ⟨by k_ne, List.forall_mem_cons.mpr ⟨by k_ne, List.forall_mem_cons.mpr ⟨by k_ne, List.forall_mem_nil _⟩⟩⟩),
              fun kF kN _ => hret _ _ _ lu lm (uv ++ avs.drop (j + 1)) (mv ++ evs.drop (i + 1)) _ _ kF (by rw [← hD2.endM (.inl (by omega))]; exact hM.append' (hx.drop' _)) (by rw [← hD2.endU (.inl (by omega))]; exact hU.append' (hy.drop' _)) (by exact kN)⟩
    · (with_reducible rename News _ _ _ _ => N6)
      refine item_out1 rfl (hA'.at fun o q => F6.keep _ o q) (by rw [List.size_toArray]; omega) (by omega) (fun h6 tk6 e6 x6 => ?_)
      (try dsimp only)
      refine note1 rfl (oL := { oL with slots := sl }) ⟨hCl.fr, hCl.kind, hCl.frame, hCl.dict⟩ rfl x6 F6 (new := [(lu, _), (lm, _)]) N6 (List.forall_mem_cons.mpr ⟨by k_ne, List.forall_mem_cons.mpr ⟨by k_ne, List.forall_mem_nil _⟩⟩) (fun ha Ta oea oTa sla Fa Na hOa hTa hTea hla hlea => ?_)
      refine flight1 (f := none) Fa Na hOa hTa hTea hla (fun hb oTb Fb Nb hTb => ?_)
      refine handle1 (by passes_own) ?_
      (try dsimp only)
      k_steps
      refine ClauseX.mk Fb Nb hOa hTb hTea hla (fun h9 F9 N9 => ?_)
      (try dsimp only)
      (try dsimp only [List.cons_append, List.nil_append] at N9)
      refine sld_hand XG TG (fr_six F9 rfl rfl rfl rfl rfl rfl) N9 hE' hA' (by k_ne) (by k_ne) (by k_ne) hxl hyl (by (try simp only [List.length_append, List.length_cons, List.length_nil]); omega) (by (try simp only [List.length_append, List.length_cons, List.length_nil]); omega) (fun h9 k9 c1 c2 F9 N9 => ?_)
      (try dsimp only)
      k_steps
      (try dsimp only)
      show wpAny _ _ (execs _ _) _ _ _
      k_steps
      (with_reducible rename Fr _ _ _ _ => Fz)
      (with_reducible rename News _ _ _ _ => Nz)
      exact ⟨_, _, [(_, tup2 (.ref lm) (.ref lu)), (lu, W.listOf (uv ++ avs.drop j).toArray _), (lm, W.listOf (mv ++ evs.drop i).toArray _)], _, Fz, nsub Nz (by k_dflt (repeat (first | exact sub_nil | (refine sub_cons ?_ ?_; (focus k_mem))))), (List.forall_mem_cons.mpr ⟨by k_ne, List.forall_mem_cons.mpr ⟨by k_ne, List.forall_mem_cons.mpr ⟨by k_ne, List.forall_mem_nil _⟩⟩⟩),
        fun kF kN _ => hret _ _ _ lu lm (uv ++ avs.drop j) (mv ++ evs.drop i) _ _ kF (by rw [← hD.endM (.inr (by omega))]; exact hM.append' (hx.drop' _)) (by rw [← hD.endU (.inr (by omega))]; exact hU.append' (hy.drop' _)) (by exact kN)⟩

  · refine item_out1 rfl (hE'.at fun o q => F5.keep _ o q) (by rw [List.size_toArray]; omega) (by omega) (fun h6 tk6 e6 x6 => ?_)
    (try dsimp only)
    refine note1 rfl (oL := { oL with slots := sl }) ⟨hCl.fr, hCl.kind, hCl.frame, hCl.dict⟩ rfl x6 F5 (new := [(lu, _), (lm, _)]) N5 (List.forall_mem_cons.mpr ⟨by k_ne, List.forall_mem_cons.mpr ⟨by k_ne, List.forall_mem_nil _⟩⟩) (fun ha Ta oea oTa sla Fa Na hOa hTa hTea hla hlea => ?_)
    refine flight1 (f := none) Fa Na hOa hTa hTea hla (fun hb oTb Fb Nb hTb => ?_)
    refine handle1 (by passes_own) ?_
    (try dsimp only)
    k_steps
    refine ClauseX.mk Fb Nb hOa hTb hTea hla (fun h9 F9 N9 => ?_)
    (try dsimp only)
    (try dsimp only [List.cons_append, List.nil_append] at N9)
    refine sld_hand XG TG (fr_six F9 rfl rfl rfl rfl rfl rfl) N9 hE' hA' (by k_ne) (by k_ne) (by k_ne) hxl hyl (by (try simp only [List.length_append, List.length_cons, List.length_nil]); omega) (by (try simp only [List.length_append, List.length_cons, List.length_nil]); omega) (fun h9 k9 c1 c2 F9 N9 => ?_)
    (try dsimp only)
    k_steps
    (try dsimp only)
    show wpAny _ _ (execs _ _) _ _ _
    k_steps
    (with_reducible rename Fr _ _ _ _ => Fz)
    (with_reducible rename News _ _ _ _ => Nz)
    exact ⟨_, _, [(_, tup2 (.ref lm) (.ref lu)), (lu, W.listOf (uv ++ avs.drop j).toArray _), (lm, W.listOf (mv ++ evs.drop i).toArray _)], _, Fz, nsub Nz (by k_dflt (repeat (first | exact sub_nil | (refine sub_cons ?_ ?_; (focus k_mem))))), (List.forall_mem_cons.mpr ⟨by k_ne, List.forall_mem_cons.mpr ⟨by k_ne, List.forall_mem_cons.mpr ⟨by k_ne, List.forall_mem_nil _⟩⟩⟩),
      fun kF kN _ => hret _ _ _ lu lm (uv ++ avs.drop j) (mv ++ evs.drop i) _ _ kF (by rw [← hD.endM (.inl (by omega))]; exact hM.append' (hx.drop' _)) (by rw [← hD.endU (.inl (by omega))]; exact hU.append' (hy.drop' _)) (by exact kN)⟩

end
end
section
open PySem PySem.W PyProof.Rows
set_option Elab.async false
set_option linter.unusedVariables false
set_option linter.unusedSimpArgs false
set_option linter.unusedSectionVars false
set_option pp.deepTerms false
set_option pp.deepTerms.threshold 6
set_option pp.proofs false
set_option maxRecDepth 100000
set_option compiler.extract_closed false
set_option rowWalk.seconds 0
set_option genInjectivity false
set_option genSizeOf false

section
variable {prog : Program} {w : World} {A A₀ : Around} {E : Value → Shared → Prop} {s : Shared} {K : Frag} {L : Addr} {h₀ base : Heap} {m mg mb : Str → Option Value} {rest : List (Addr × Obj)} {p : Program} {loose : List Str} {mean : ExcName → Option Value} {Q : Value → Shared → Prop}
theorem enterFCG {env : Env} {outer : List Env} {name qual : Str} {params : Arguments} {body : List Stmt} {scope : Scope} {dV kV doc pm cdv ct oc : Value} {an od : Option Addr} {osl : Array (Option Value)} {f : Addr} {args : Args} {binds : List (Str × Value)}
    (hA : A.frames = some (env :: outer)) (hf : env.frame = some L) (hke : env.scope.kind = .function)
    (B : Below A₀ base outer h₀) (F : Fr h₀ L s.heap m) (X₀ : K.In h₀) (N : News h₀ L s.heap rest) (T : Top p loose mean mg mb h₀) 
    (ho : K.lookup f = some ⟨oc, od, .func (fnOf name qual params body scope dV kV doc pm an cdv ct), osl⟩) (hcd : codeIn K cdv qual = true) (hroom : A.depth < recursionLimit)
    (hbind : BindsTo s (fnOf name qual params body scope dV kV doc pm an cdv ct) args binds) {bl : List (Str × Value)} (hB : binds = bl) (hkind : (binds.all fun y => scope.names.lookup y.1 == some .local || scope.names.lookup y.1 == some .cell) = true)
    (hnd : ((cellsFrom 0 scope.names []).map (·.1)).Nodup)
    (hco : scope.isCoroutine = false) (hgen : scope.isGenerator = false) (hk : scope.kind = .function)
    (h : ∀ g L' h₁ tk cells, (∀ b o, s.heap.get? b = some o → g.get? b = some o) → Fr h₀ L g m → Fr g L' h₁ (bindL (envOfC qual scope L' f cdv).kindOf bl fun _ => none) → News g L' h₁ (cells ++ []) →
      CellsAre (bindC (envOfC qual scope L' f cdv).kindOf bl fun _ => none) (cellsFrom (L' + 1) scope.names []) cells → Below A base (env :: outer) g → K.In g → Top p loose mean mg mb g →
      wpAny (model prog w) (A.deeper (envOfC qual scope L' f cdv)) (execs body (envOfC qual scope L' f cdv))
        (fun fl s' => LeaveF h₀ L m g rest Q (match fl with | .ret v => v | _ => .none) s')
        (fun e s' => wpAny (model prog w) (A.deeper (envOfC qual scope L' f cdv)) (leaving (envOfC qual scope L' f cdv) e) (fun _ s'' => E e s'') (fun e' s'' => E e' s'') s')
        { s with heap := h₁, toks := tk }) : wpAny (model prog w) A (call (.ref f) args.pos args.kw) Q E s := by
  subst hB
  refine wpAny_call ?_
  have N1 : News h₀ L s.heap [] := fun _ h => nomatch h
  obtain ⟨FG, BG, st, lv⟩ := groundX (R := fun r s' => match r with | .ok (.ret v) => Q v s' | .ok _ => False | .error e => E e s') B F N1 hA hf hke
  refine codeAny_call_function hroom ((X₀.keeps F.keep) _ _ ho) rfl hco hgen rfl (codeRec_of (X₀.keeps F.keep) hcd) (hbind _ _ _ _ ?_)
  refine wpAny_newFunctionEnv_cells hk (kindsX hkind _) fun env' he s' x => ?_
  subst he
  refine ⟨(T.nolimit.keeps F.keep).keeps x.toInCall.keep, codeAny_func ?_⟩
  obtain ⟨h₁, tk, rfl, _⟩ := x.done
  have hk₁ := x.toInCall.keep
  obtain ⟨cells, NC, Y⟩ := Cl.news (h₀ := s.heap) (Nat.le_refl _) fun n c hm => ⟨x.cell n c (lookup_of_mem_nodup (cellsFrom_names scope.names 0 (s.heap.objs.size + 1) [] [] rfl ▸ hnd) hm), x.above n c hm⟩
  refine wpAny_mono (h s.heap s.heap.objs.size h₁ tk cells (fun _ _ e => e) FG ⟨x.toInCall.ns, fun b o e => hk₁ b o e, Nat.le_refl _⟩ (fun p hp => ?_) Y BG (X₀.keeps st) (T.keeps st)) (fun fl s' hl => lv _ _ ?_) fun _ _ y => y
  · rw [List.append_nil] at hp
    exact NC p hp
  · obtain ⟨L'', m'', foot', F'', N'', k⟩ := hl
    have NR : News h₀ L s'.heap rest := fun p hp => ⟨F''.keep _ _ (N p hp).1, (N p hp).2⟩
    refine ⟨L'', m'', foot', F'', N'', fun kF kN => k kF (napp kN NR) fun q hq p hp e => ?_⟩
    have h1 := (N'' q hq).2.2
    have h2 := (N p hp).1
    rw [e, h1] at h2
    cases h2
end
local macro_rules | `(tactic| ktr_enter) => `(tactic| (o_head (enterFCG (args := ⟨_, _⟩), 5, 0, 0); intro g' L' h' tk' cells' KG' FG' F' N' Y' B' X' T'; k_cells Y'; (try dsimp only [List.cons_append, List.nil_append] at N'); (try dsimp only); (try k_lift B'); (try k_fold)))
local macro_rules | `(tactic| walk_at "eval ListComp") => `(tactic| (k_here; k_dflt (refine LCt.ListComp_T (F₀ := by k_asm) (by with_unfolding_all rfl) (by decide) (by rfl) (by decide) (by rfl) ?_)))
local macro_rules | `(tactic| walk_at "call builtin:sorted") => `(tactic| (k_here; refine Stop.mk ?_))
local macro_rules | `(tactic| walk_at "compareOp In int ref") => `(tactic| (k_here; refine Stop.mk ?_))
local macro_rules | `(tactic| walk_at "CompSrcT") => `(tactic| (k_here; refine Stop.mk ?_))
noncomputable def selA (xs : List Str) (os ts : List Int) : List Str := (os.filter fun o => ts.any (· == o)).filterMap fun o => xs[o.toNat]?
theorem selA_app (xs : List Str) (a b ts : List Int) : selA xs (a ++ b) ts = selA xs a ts ++ selA xs b ts := by
  unfold selA; rw [List.filter_append, List.filterMap_append]
theorem selA_in {xs : List Str} {o : Int} {ts : List Int} {x : Str} (h : (ts.any (· == o)) = true) (hx : xs[o.toNat]? = some x) : selA xs [o] ts = [x] := by
  unfold selA
  rw [List.filter_cons_of_pos (by exact h), List.filter_nil, List.filterMap_cons, hx]; rfl
theorem selA_out {xs : List Str} {o : Int} {ts : List Int} (h : (ts.any (· == o)) = false) : selA xs [o] ts = [] := by
  unfold selA
  rw [List.filter_cons_of_neg (by rw [h]; simp), List.filter_nil]; rfl
theorem ints_get : ∀ {vs : List Value} {ns : List Int} {i : Nat} {v : Value}, IntsAre vs ns → vs[i]? = some v → ∃ k t, v = .int k t ∧ ns[i]? = some k
  | _, _, i, v, .nil, h => by simp at h
  | _, _, 0, v, .cons k t r, h => by simp at h; exact ⟨k, t, h.symm, rfl⟩
  | _, _, i + 1, v, .cons k t r, h => by simpa using ints_get r (by simpa using h)
theorem take1i {l : List Int} {i : Nat} {x : Int} (h : l[i]? = some x) : l.take (i + 1) = l.take i ++ [x] := by
  rw [List.take_add_one, h]; rfl
section
variable {w : World} {p : Program} {loose : List Str} {mean : ExcName → Option Value} {mg mb : Str → Option Value}
   {dp un : Nat} {gd : Option (List Code)} {cn : Str} {cs : Scope} {a : Addr} {ccd : Value} {cl : List (Str × Addr)} {outer : List Env} {A₀ : Around} {base h₀ : Heap} {L : Addr} {m : Str → Option Value} {rest : List (Addr × Obj)} {s : Shared}
   {Q E : Value → Shared → Prop}
   (B : Below A₀ base outer h₀) (F : Fr h₀ L s.heap m) (X : (hd.heap_1 w.params).In h₀) (N : News h₀ L s.heap rest) (T : Top p loose mean mg mb h₀) (hk : cs.kind = .function)
include B F X N T hk
set_option maxHeartbeats 4000000 in
theorem c_apart {na oa ta : Addr} {vs ov tv : List Value} {xs : List Str} {os ts : List Int} {t : Nat} {tt : Tok} (hd' : dp + 2 < recursionLimit) (hu : un + 16 < cLine)
    (hN : s.heap.IsList na vs.toArray) (hO : s.heap.IsList oa ov.toArray) (hT : s.heap.IsList ta tv.toArray) (hx : StrsAre vs xs) (ho : IntsAre ov os) (ht : IntsAre tv ts) (hvl : vs.length ≤ 12) (hol : ov.length ≤ 12) (htl : tv.length ≤ 12) (hin : ∀ o ∈ os, 0 ≤ o ∧ o < (xs.length : Int))
    (hret : ∀ h' tk' D ws ss n, Fr h₀ L h' m → StrsAre ws ss → ss.Perm (selA xs (os.drop t) (ts.take t)) → sortedS ss = true → News h₀ L h' ((D, W.listOf (List.toArray ws) n) :: rest) → Q (.ref D) { s with heap := h', toks := tk' }) :
    wpAny (model PySem.Challenge.rw_qh0051_01.row.prog w) (ktrTop dp un gd cn cs L a ccd cl outer) (call (.ref 205) [.ref na, .ref oa, .ref ta, .int (t : Int) tt]) Q E s := by
  revert X; k_fill; intro X
  k_dflt ktr_enter
  (rename (∀ (b : Addr) (o : Obj), s.heap.get? b = some o → _) => KG)
  have hN' := hN.at (fun o e => KG _ o e)
  have hO' := hO.at (fun o e => KG _ o e)
  have hT' := hT.at (fun o e => KG _ o e)
  k_steps
  refine Stop.out ?_
  (with_reducible rename Fr _ _ _ _ => F6)
  (with_reducible rename News _ _ _ _ => N6)
  have hxn := hx.length
  have hos := ho.drop t
  have hts := ht.take t
  have hol2 : (ov.drop t).length ≤ 12 := by rw [List.length_drop]; omega
  refine LCt.CompSrcT.ledger rfl F6 N6 (.head _) (by rw [List.size_toArray, sizeLine_eq]; omega) (fun g2 => ?_)
  refine comp_restT (σ := Unit) (fun _ => _) (fun i ys _ => StrsAre ys (selA xs ((os.drop t).take i) (ts.take t))) () .nil ?turn ?done
  case turn =>
    intro i ys c v I oI C oC D m₂ h tk E' hi hOk hP hN9 hx9 F5 N5 off ne
    obtain ⟨k, t5, rfl, hk5⟩ := ints_get hos (by simpa using hP)
    have hk6 := hin k (List.mem_of_mem_drop (List.mem_of_getElem? hk5))
    obtain ⟨q, rfl⟩ : ∃ q : Nat, k = (q : Int) := ⟨k.toNat, by omega⟩
    obtain ⟨x, hxq⟩ : ∃ x, xs[q]? = some x := ⟨_, List.getElem?_eq_getElem (by omega)⟩
    k_steps
    refine Stop.out ?_
    (with_reducible rename News _ _ _ _ => N4)
    refine in_list_ints (News.isList N4 (.head _)) hts ?_
    k_steps
    · refine Stop.out ?_
      (with_reducible rename Fr _ _ _ _ => F8)
      refine item_in1 (hN'.at fun o q => F8.keep _ o q) hx hxq (by omega) (fun t7 => ?_)
      exact ⟨(), _, _, _, rfl, F8, N4, (fun p hp => .tail _ hp), off, .inr ⟨_, .head _, rfl, _, rfl⟩, by rw [take1i hk5, selA_app, selA_in (by assumption) (by simpa using hxq)]; exact hOk.append' (.cons _ _ .nil)⟩
    · (with_reducible rename Fr _ _ _ _ => F8)
      exact ⟨(), _, _, _, rfl, F8, N4, (fun p hp => .tail _ hp), off, .inr ⟨_, .head _, rfl, _, rfl⟩, by rw [take1i hk5, selA_app, selA_out (by assumption), List.append_nil]; exact hOk⟩
  case done =>
    intro ys _ hOk D h tk F5 N5 off
    rw [List.take_of_length_le (by rw [List.size_toArray, hos.length]; exact Nat.le_refl _)] at hOk
    k_steps
    refine Stop.out ?_
    have hyl : ys.length ≤ 12 := by
      rw [hOk.length]
      refine Nat.le_trans (List.length_filterMap_le _ _) (Nat.le_trans (List.length_filter_le _ _) ?_)
      rw [← hos.length]; exact hol2
    refine sorted_N_str F5 N5 ⟨_, (N5 (D, _) (.head _)).1, rfl, _, rfl⟩ hOk (by omega) (fun h8 vs8 ss8 e8 F8 N8 hS8 hp8 hs8 => ?_)
    exact ⟨_, _, [(_, W.listOf vs8.toArray e8)], F8, nsub N8 (List.forall_mem_cons.mpr ⟨.head _, List.forall_mem_nil _⟩), fun kF kN _ => hret _ _ _ _ _ _ kF hS8 hp8 hs8 kN⟩
end
end
end
section
open PySem PySem.W PyProof.Rows
set_option Elab.async false
set_option linter.unusedVariables false
set_option linter.unusedSimpArgs false
set_option linter.unusedSectionVars false
set_option pp.deepTerms false
set_option pp.deepTerms.threshold 6
set_option pp.proofs false
set_option maxRecDepth 100000
set_option compiler.extract_closed false
set_option rowWalk.seconds 0
set_option genInjectivity false
set_option genSizeOf false
local macro_rules | `(tactic| o_head 19) => `(tactic| first | assumption | exact zc1 ‹_› | exact zc2 ‹_› | exact zc3 ‹_› | exact zc4 ‹_› | exact zc5 ‹_› | exact zc6 ‹_› | exact zc7 ‹_› | exact zc8 ‹_› | exact zc9 ‹_› | exact zc10 ‹_› | exact zc11 ‹_› | exact zc0 ‹_› ‹_›)

section
variable {prog : Program} {w : World} {A A₀ : Around} {E : Value → Shared → Prop} {s : Shared} {K : Frag} {L : Addr} {h₀ base : Heap} {m mg mb : Str → Option Value} {foot rest : List (Addr × Obj)} {p : Program} {loose : List Str} {mean : ExcName → Option Value} {Q : Value → Shared → Prop}
theorem enterFB {env : Env} {outer : List Env} {name qual : Str} {params : Arguments} {body : List Stmt} {scope : Scope} {dV kV doc pm cdv ct oc : Value} {an od : Option Addr} {osl : Array (Option Value)} {f : Addr} {args : Args} {binds : List (Str × Value)}
    (hA : A.frames = some (env :: outer)) (hf : env.frame = some L) (hke : env.scope.kind = .function)
    (B : Below A₀ base outer h₀) (F : Fr h₀ L s.heap m) (X₀ : K.In h₀) (N : News h₀ L s.heap (foot ++ rest)) (hoff : ∀ p ∈ rest, p.1 ∉ foot.map (·.1)) (T : Top p loose mean mg mb h₀) 
    (ho : K.lookup f = some ⟨oc, od, .func (fnOf name qual params body scope dV kV doc pm an cdv ct), osl⟩) (hcd : codeIn K cdv qual = true) (hroom : A.depth < recursionLimit)
    (hbind : BindsTo s (fnOf name qual params body scope dV kV doc pm an cdv ct) args binds) {bl : List (Str × Value)} (hB : binds = bl) (hloc : ∀ y ∈ binds, scope.names.lookup y.1 = some .local)
    (hco : scope.isCoroutine = false) (hgen : scope.isGenerator = false) (hk : scope.kind = .function)
    (hcell : ∀ x ∈ scope.names, x.2 ≠ .cell)
    (h : ∀ g L' h₁ tk, (∀ b o, b ∉ foot.map (·.1) → s.heap.get? b = some o → g.get? b = some o) → Fr h₀ L g m → Fr g L' h₁ (fun y => bl.reverse.lookup y) → News g L' h₁ foot → Below A base (env :: outer) g → K.In g → Top p loose mean mg mb g → (∀ p ∈ foot, p.1 < L') → (∀ p ∈ rest, p.1 < L') →
      wpAny (model prog w) (A.deeper (envOf qual scope L' f cdv)) (execs body (envOf qual scope L' f cdv))
        (fun fl s' => LeaveF h₀ L m g rest Q (match fl with | .ret v => v | _ => .none) s')
        (fun e s' => wpAny (model prog w) (A.deeper (envOf qual scope L' f cdv)) (leaving (envOf qual scope L' f cdv) e) (fun _ s'' => E e s'') (fun e' s'' => E e' s'') s')
        { s with heap := h₁, toks := tk }) : wpAny (model prog w) A (call (.ref f) args.pos args.kw) Q E s := by
  subst hB
  refine wpAny_call ?_
  have N1 : News h₀ L s.heap foot := nsub N fun p hp => List.mem_append_left _ hp
  obtain ⟨FG, BG, st, lv⟩ := groundX (R := fun r s' => match r with | .ok (.ret v) => Q v s' | .ok _ => False | .error e => E e s') B F N1 hA hf hke
  have G : GSub s.heap (hideAll s.heap (foot.map (·.1))) (foot.map (·.1)) := fun b o e n => hideAll_get _ e n
  refine codeAny_call_def (fd := fnOf name qual params body scope dV kV doc pm an cdv ct) (body := body) (binds := binds) hroom ((X₀.keeps F.keep) _ _ ho) rfl (T.nolimit.keeps F.keep) (codeRec_of (X₀.keeps F.keep) hcd) rfl hbind hcell hloc (fun h₁ hns hk₁ => ?_) hco hgen hk
  refine wpAny_mono (h _ s.heap.objs.size h₁ _ (fun b o n e => G b o e n) FG ⟨hns, fun b o e => hk₁ b o (of_hideAll _ e), Nat.le_of_eq (hideAll_size _ _)⟩
    (fun p hp => ⟨hk₁ _ _ (N1 p hp).1, Nat.ne_of_lt (Heap.lt_size (N1 p hp).1), hideAll_none _ (List.mem_map_of_mem hp)⟩) BG (X₀.keeps st) (T.keeps st) (fun p hp => Heap.lt_size (N1 p hp).1) (fun p hp => Heap.lt_size (N p (List.mem_append_right _ hp)).1)) (fun fl s' hl => lv _ _ ?_) fun _ _ y => y
  obtain ⟨L'', m'', foot', F'', N'', k⟩ := hl
  have NR : News h₀ L s'.heap rest := rest_kept F'' G (nsub N fun p hp => List.mem_append_right _ hp) hoff
  refine ⟨L'', m'', foot', F'', N'', fun kF kN => k kF (napp kN NR) fun q hq p hp e => ?_⟩
  have h1 := (N'' q hq).2.2
  have h2 := G _ _ (N p (List.mem_append_right _ hp)).1 (hoff p hp)
  rw [e, h1] at h2
  cases h2
end
structure Kc where
  ps : List Value
  pn : Nat
  gv : List Value
  gn : Nat
  wl : List Wt
  wr : List Value
  wn : Nat
  tl : List (Addr × Obj)
structure KcOk (e : Nat) (vs : List Value) (xs : List Str) (lim : Addr) (go wa : Addr) (i : Nat) (c : Kc) : Prop where
  a1 : c.ps = qAt e i vs
  a2 : c.gv = gAt e i vs
  a3 : c.wl.length = i + 1
  a4 : WtOk e xs c.wl
  a5 : c.wr = c.wl.map (fun w => Value.ref w.a)
  a6 : c.tl = c.wl.map Wt.obj
  a7 : ∀ p ∈ c.tl, @LT.lt Nat _ lim p.1
  a8 : ∀ p ∈ c.tl, p.1 ≠ go
  a9 : ∀ p ∈ c.tl, p.1 ≠ wa
theorem up_size {n : Nat} : Builtin.Range.rangeSize 0 (n : Int) 1 = ((n : Nat) : Int) := by
  unfold Builtin.Range.rangeSize
  rw [if_pos (by decide)]
  split
  · rw [Int.ediv_one]; omega
  · omega
theorem up_small {n : Nat} (h : n ≤ 100) : Builtin.Range.small 0 (n : Int) 1 = true := by
  have key : ∀ n : Fin 101, Builtin.Range.small 0 (n.1 : Int) 1 = true := by decide +kernel
  exact key ⟨n, by omega⟩
theorem ne_cons {α : Type} {l : List α} (h : l.length ≠ 0) : ∃ v r, l = v :: r := by
  cases l with
  | nil => exact absurd rfl h
  | cons v r => exact ⟨v, r, rfl⟩
theorem ownoff_snoc {own A : List (Addr × Obj)} {x : Addr × Obj} (h : OwnOff own (A.map (·.1))) (h2 : ∀ p ∈ own, p.1 ≠ x.1) : OwnOff own ((A ++ [x]).map (·.1)) := by
  intro p hp b hb
  rw [List.map_append] at hb
  rcases List.mem_append.mp hb with hb | hb
  · exact h p hp b hb
  · rw [List.mem_singleton.mp hb]; exact h2 p hp
structure Hid (P : Prop) : Prop where
  out : P
theorem lex_off {P : Params} {z : Lx} (Zl : @LT.lt Nat _ z.ct z.cg ∧ @LT.lt Nat _ z.cg z.e ∧ @LT.lt Nat _ z.e z.y ∧ @LT.lt Nat _ z.y z.k ∧ @LT.lt Nat _ z.k z.g ∧ @LT.lt Nat _ z.g z.f ∧ @LT.lt Nat _ z.f z.d ∧ @LT.lt Nat _ z.d z.x ∧ @LT.lt Nat _ z.x z.l) (hc : @LT.lt Nat _ z.c z.ct)
    {a : Addr} (h : @LT.lt Nat _ z.l a ∨ @LT.lt Nat _ a z.c) : a ∉ (lexLed P z ++ [(z.c, z.oc)]).map (·.1) := by
  have key : ∀ b ∈ (lexLed P z ++ [(z.c, z.oc)]).map (·.1), @LE.le Nat _ z.c b ∧ @LE.le Nat _ b z.l := by
    simp only [lexLed, List.cons_append, List.nil_append, List.map_cons, List.map_nil]
    repeat (refine List.forall_mem_cons.mpr ⟨⟨by first | exact Nat.le_refl _ | exact Nat.le_of_lt (by o_head 28) | omega, by first | exact Nat.le_refl _ | exact Nat.le_of_lt (by o_head 28) | omega⟩, ?_⟩)
    exact List.forall_mem_nil _
  intro hm
  have := key a hm
  omega
local macro_rules | `(tactic| k_steps) => `(tactic| o_head 36)
local macro_rules | `(tactic| ktr_enter) => `(tactic| (o_head (enterFB (args := ⟨_, _⟩), 6, 0, 0); intro g' L' h' tk' KG' FG' F' N' B' X' T' l1 lR; (try k_lt l1); (try dsimp only); (try k_fold)))
local macro_rules | `(tactic| k_all) => `(tactic| assumption)
local macro_rules | `(tactic| walk_at "exec For Name Name cons nil") => `(tactic| (k_here; (rename Fr _ _ _ _ => lF'); (with_unfolding_all refine' For_invVF lF' ?k1 ?k2 ?_; (case k1 => exact rfl); (case k2 => exact rfl); k_whole)))
local macro_rules | `(tactic| walk_at "call builtin:sorted") => `(tactic| (k_here; refine Stop.mk ?_))
local macro_rules | `(tactic| walk_at "call ref") => `(tactic| o_head (174))
local macro_rules | `(tactic| walk_at "call ref") => `(tactic| o_head (56))
local macro_rules | `(tactic| walk_at "call ref") => `(tactic| o_head (49))
local macro_rules | `(tactic| walk_at "call builtin:len") => `(tactic| (k_here; (with_reducible show wpAny _ _ (call _ [Value.ref _]) _ _ _); k_dflt (apply len_list; kmk_list; (rw [List.size_toArray]; omega)); (try rw [List.size_toArray])))
section
variable {w : World} {p : Program} {loose : List Str} {mean : ExcName → Option Value} {mg mb : Str → Option Value}
   {dp un : Nat} {gd : Option (List Code)} {cn : Str} {cs : Scope} {a : Addr} {ccd : Value} {cl : List (Str × Addr)} {outer : List Env} {A₀ : Around} {base h₀ : Heap} {L : Addr} {m : Str → Option Value} {rest : List (Addr × Obj)} {s : Shared}
   {Q E : Value → Shared → Prop}
   (B : Below A₀ base outer h₀) (F : Fr h₀ L s.heap m) (X : (hd.heap_1 w.params).In h₀) {c : Addr} {oc : Obj} (C : CodeHd base 173 169) (N : News h₀ L s.heap ([(169, tabObj #[rawInt 249, rawInt 4, .ref c]), (c, oc)] ++ rest)) (O : ∀ p ∈ rest, p.1 ∉ ([(169, tabObj #[rawInt 249, rawInt 4, .ref c]), (c, oc)] : List (Addr × Obj)).map (·.1)) (T : Top p loose mean mg mb h₀) (hk : cs.kind = .function)
include B F X C N O T hk
set_option maxHeartbeats 4000000 in
theorem c_counted {na : Addr} {vs : List Value} {xs : List Str} {e : Nat} {te : Tok} (hd' : dp + 5 < recursionLimit) (hu : un + 40 < cLine) (hc : @LT.lt Nat _ 169 c) (hoc : CodeOk oc)
    (hna : na ≠ 169 ∧ na ≠ c) (hN : s.heap.IsList na vs.toArray) (hx : Hid (StrsAre vs xs)) (hvl : vs.length ≤ 12) (he : 1 ≤ e ∧ e ≤ 90)
    (hret : ∀ h' tk' T go wa gv gn wn (wl : List Wt), Fr h₀ L h' m → StrsAre gv (gAt e xs.length xs) → wl.length = xs.length + 1 → WtOk e xs wl → (∀ p ∈ (T, tup2 (.ref go) (.ref wa)) :: (go, W.listOf gv.toArray gn) :: (wa, W.listOf (wl.map fun w => Value.ref w.a).toArray wn) :: wl.map Wt.obj, @LT.lt Nat _ c p.1) →
      News h₀ L h' ((((T, tup2 (.ref go) (.ref wa)) :: (go, W.listOf gv.toArray gn) :: (wa, W.listOf (wl.map fun w => Value.ref w.a).toArray wn) :: wl.map Wt.obj) ++ [(169, tabObj #[rawInt 249, rawInt 4, .ref c]), (c, oc)]) ++ rest) → Q (.ref T) { s with heap := h', toks := tk' }) :
    wpAny (model PySem.Challenge.rw_qh0051_01.row.prog w) (ktrTop dp un gd cn cs L a ccd cl outer) (call (.ref 200) [.ref na, .int (e : Int) te]) Q E s := by
  revert X; k_fill; intro X
  k_dflt ktr_enter
  rename_i gG LL hh0 _ KG FG0 F0 N0 BG XG TG lc lR
  have hN' := hN.at (fun o q => KG _ o (by simpa using hna) q)
  k_steps
  refine Stop.out ?_
  rw [empty_txt]
  refine c_lexer1 (rest := []) (by k_asm) (by k_asm) (by k_asm) C N0 (fun _ h => nomatch h) (by k_asm) rfl (by ktr_room) (by ktr_units) hc hoc (fun h6 tk6 z F6 LZ hzc hzo hcz hps hgs hln htx _ h169 N6 => ?_)
  subst hzc
  subst hzo
  have Zl := LZ.lt
  have hvn : vs.length = xs.length := StrsAre.length hx.out
  (try dsimp only)
  simp only [List.cons_append, List.nil_append, List.append_nil] at N6
  k_steps
  refine Stop.out ?_
  (with_reducible rename News _ _ _ _ => N5)
  refine' for_listG [] (fun c : List Value × Nat => []) (fun c => (lexLed w.params { z with ps := c.1, pn := c.2 } ++ [(z.c, z.oc)]) ++ [(169, tabObj #[rawInt 249, rawInt 4, .ref z.c])]) (fun i c => c.1 = vs.take i) (z.ps, z.pn) rfl (by k_asm) (nsub N5 (by k_dflt (repeat (first | exact sub_nil | (refine sub_cons ?_ ?_; (focus k_mem)) | (refine sub_app ?_ ?_) | (focus (intro p9 hp9; (repeat (first | exact hp9 | apply List.Mem.tail)); done)))))) hN' ?hps ?h0 ?turn ?done
  case hps => exact List.forall_mem_nil _
  case h0 => exact hps
  case turn =>
    intro i v p9x1 u h tk own hv hOk hoff F7 N7
    (try k_fold)
    obtain ⟨ps, pn⟩ := p9x1
    dsimp only at hOk
    have hv' : vs[i]? = some v := by simpa using hv
    have hpl : ps.length ≤ 12 := by rw [hOk, List.length_take]; omega
    dsimp only at F7 N7
    dsimp only [List.cons_append, List.nil_append] at N7
    k_steps
    refine Stop.out ?_
    (with_reducible rename News _ _ _ _ => N8)
    refine c_push (z := { z with ps := ps, pn := pn }) (rest := (169, tabObj #[rawInt 249, rawInt 4, .ref z.c]) :: own) (by k_asm) (by k_asm) (by k_asm) (by kn_code) (nsub N8 (by k_dflt (repeat (first | exact sub_nil | (refine sub_cons ?_ ?_; (focus k_mem)) | (refine sub_app ?_ ?_) | (focus (intro p9 hp9; (repeat (first | exact hp9 | apply List.Mem.tail)); done)))))) (List.forall_mem_cons.mpr ⟨lex_off Zl hcz (.inr hc), fun p hp hm => hoff p hp p.1 (by rw [List.map_append]; exact List.mem_append_left _ hm) rfl⟩) ⟨LZ.spec, LZ.og, LZ.ot, LZ.lt⟩ (.inl hcz) (by k_asm) rfl (by ktr_room) (by ktr_units) (by dsimp only; omega) (fun h9 tk9 n9 F9 N9 => ?_)
    (try dsimp only)
    k_steps
    (with_reducible rename Fr _ _ _ _ => Fz)
    (with_reducible rename News _ _ _ _ => Nz)
    exact ⟨(ps ++ [v], n9), _, _, _, _, rfl, Fz, Nz, (by k_dflt (repeat (first | exact sub_nil | (refine sub_cons ?_ ?_; (focus k_mem)) | (refine sub_app ?_ ?_) | (focus (intro p9 hp9; (repeat (first | exact hp9 | apply List.Mem.tail)); done))))), hoff, List.forall_mem_nil _, (by o_head 37), (by dsimp only; rw [hOk, List.take_add_one, hv']; rfl)⟩
  case done =>
    intro p9x2 u h tk hOk F7 N7
    (try k_fold)
    obtain ⟨ps, pn⟩ := p9x2
    dsimp only at hOk
    obtain rfl : ps = vs := by rw [hOk, List.size_toArray, List.take_length]
    dsimp only at F7 N7
    dsimp only [List.cons_append, List.nil_append] at N7
    k_steps
    refine Stop.out ?_
    (with_reducible rename Fr _ _ _ _ => F8)
    (with_reducible rename News _ _ _ _ => N8)
    rename_i go _ lgo
    refine sortedK F8 N8 (News.isList N8 (by k_mem)) hx.out (by omega) (fun D0 h9 ws0 ss0 e0 F9 N9 lw0 hS0 hp0 hs0 => ?_)
    k_lt lw0
    k_steps
    refine Stop.out ?_
    (with_reducible rename Fr _ _ _ _ => F5)
    (with_reducible rename News _ _ _ _ => N5)
    (with_reducible rename IsRange _ _ _ _ _ _ _ _ => hR)
    rename_i wa _ lwa tp _ ltp _ _ _ _ _ _ _ _ _ _ _ _ _
    have lzw : @LT.lt Nat _ z.l wa := lwa.2.2.1
    refine' for_range [Str.ofString "step"] (fun c : Kc => []) (fun c => (lexLed w.params { z with ps := c.ps, pn := c.pn } ++ [(z.c, z.oc)]) ++ ((169, tabObj #[rawInt 249, rawInt 4, .ref z.c]) :: (go, W.listOf c.gv.toArray c.gn) :: (wa, W.listOf c.wr.toArray c.wn) :: c.tl)) (KcOk e ps xs z.l go wa) ⟨ps, pn, [], 0, [⟨D0, ws0, e0⟩], [.ref D0], 0, [(D0, W.listOf ws0.toArray e0)]⟩ rfl F5 hR (up_small (by omega)) (n := ps.length) up_size (nsub N5 (by k_dflt (repeat (first | exact sub_nil | (refine sub_cons ?_ ?_; (focus k_mem)) | (refine sub_app ?_ ?_) | (focus (intro p9 hp9; (repeat (first | exact hp9 | apply List.Mem.tail)); done)))))) ?hps2 ?h02 ?turn2 ?done2
    case hps2 => exact List.forall_mem_nil _
    case h02 =>
      refine ⟨rfl, rfl, rfl, ?_, rfl, rfl, List.forall_mem_cons.mpr ⟨by dsimp only; omega, List.forall_mem_nil _⟩, List.forall_mem_cons.mpr ⟨by k_ne, List.forall_mem_nil _⟩, List.forall_mem_cons.mpr ⟨by k_ne, List.forall_mem_nil _⟩⟩
      exact WtOk.snoc (wl := []) (fun j w h => by simp at h) hS0 hp0 hs0
    case turn2 =>
      clear N5 F5 hR
      intro i t p9x3 u2 h2 tk2 own hi p9x4 hoff F7 N7
      (try k_fold)
      obtain ⟨ps2, pn2, gv, gn, wl, wr, wn, tl⟩ := p9x3
      obtain ⟨hq, hg, hwl, hwo, hwr, htl, hta, htg, htw⟩ := p9x4
      dsimp only at hq hg hwl hwo hwr htl hta htg htw
      dsimp only at F7 N7
      dsimp only [List.cons_append, List.nil_append] at N7
      have hTf : ∀ p ∈ tl ++ own, p.1 ∉ (lexLed w.params z ++ [(z.c, z.oc)]).map (·.1) := List.forall_mem_append.mpr ⟨fun p hp => lex_off Zl hcz (.inl (hta p hp)), fun p hp hm => hoff p hp p.1 (by rw [List.map_append]; exact List.mem_append_left _ hm) rfl⟩
      have hTg : ∀ p ∈ tl ++ own, p.1 ≠ go := List.forall_mem_append.mpr ⟨htg, fun p hp => hoff p hp go (by rw [List.map_append]; exact List.mem_append_right _ (.tail _ (.head _)))⟩
      have hTw : ∀ p ∈ tl ++ own, p.1 ≠ wa := List.forall_mem_append.mpr ⟨htw, fun p hp => hoff p hp wa (by rw [List.map_append]; exact List.mem_append_right _ (.tail _ (.tail _ (.head _))))⟩
      have hTm : ∀ p ∈ tl, p ∈ tl ++ own := fun p hp => List.mem_append_left _ hp
      have hOm : ∀ p ∈ own, p ∈ tl ++ own := fun p hp => List.mem_append_right _ hp
      generalize tl ++ own = T0 at N7 hTf hTg hTw hTm hOm
      have hpl : ps2.length = ps.length - i := by rw [hq, qAt_length]
      have hgl : gv.length = i := by rw [hg]; exact gAt_length _ _ _ (by omega)
      k_steps
      refine Stop.out ?_
      (with_reducible rename Fr _ _ _ _ => F6)
      (with_reducible rename News _ _ _ _ => N6)
      (with_reducible rename IsRange _ _ _ _ _ _ _ _ => hR2)
      rw [show ((e : Int) - 1) = ((e - 1 : Nat) : Int) from by omega] at hR2
      refine' for_range [] (fun c : List Value × Nat => []) (fun c => (lexLed w.params { z with ps := c.1, pn := c.2 } ++ [(z.c, z.oc)]) ++ ((169, tabObj #[rawInt 249, rawInt 4, .ref z.c]) :: (go, W.listOf gv.toArray gn) :: (wa, W.listOf wr.toArray wn) :: T0)) (fun j c => c.1 = rotL j ps2) (ps2, pn2) rfl F6 hR2 (up_small (by omega)) (n := e - 1) up_size (nsub N6 (by k_dflt (repeat (first | exact sub_nil | (refine sub_cons ?_ ?_; (focus k_mem)) | (refine sub_app ?_ ?_) | (focus (intro p9 hp9; (repeat (first | exact hp9 | apply List.Mem.tail)); done)))))) ?hps3 ?h03 ?turn3 ?done3
      case hps3 => exact List.forall_mem_nil _
      case h03 => rfl
      case turn3 =>
        clear N6 F6 hR2
        intro j t3 p9x5 u3 h3 tk3 own2 hj hq3 hoff2 F8 N8
        (try k_fold)
        obtain ⟨ps3, pn3⟩ := p9x5
        dsimp only at hq3
        dsimp only at F8 N8
        dsimp only [List.cons_append, List.nil_append] at N8
        have hT2f : ∀ p ∈ T0 ++ own2, p.1 ∉ (lexLed w.params z ++ [(z.c, z.oc)]).map (·.1) := List.forall_mem_append.mpr ⟨hTf, fun p hp hm => hoff2 p hp p.1 (by rw [List.map_append]; exact List.mem_append_left _ hm) rfl⟩
        have hTm2 : ∀ p ∈ T0, p ∈ T0 ++ own2 := fun p hp => List.mem_append_left _ hp
        have hOm2 : ∀ p ∈ own2, p ∈ T0 ++ own2 := fun p hp => List.mem_append_right _ hp
        generalize T0 ++ own2 = T2 at N8 hT2f hTm2 hOm2
        have hpl3 : ps3.length = ps2.length := by rw [hq3, rotL_length]
        obtain ⟨v, r, rfl⟩ := ne_cons (l := ps3) (by omega)
        have hrl : r.length ≤ 12 := Nat.le_of_succ_le (Nat.le_trans (Nat.le_of_eq (hpl3.trans hpl)) (Nat.le_trans (Nat.sub_le _ _) (by omega)))
        k_steps
        refine Stop.out ?_
        (with_reducible rename News _ _ _ _ => N9)
        refine c_get1 (z := { z with ps := v :: r, pn := pn3 }) (rest := ((169, tabObj #[rawInt 249, rawInt 4, .ref z.c]) :: (go, W.listOf gv.toArray _) :: (wa, W.listOf wr.toArray _) :: T2)) (by k_asm) (by k_asm) (by k_asm) (by kn_code) (nsub N9 (by k_dflt (repeat (first | exact sub_nil | (refine sub_cons ?_ ?_; (focus k_mem)) | (refine sub_app ?_ ?_) | (focus (intro p9 hp9; (repeat (first | exact hp9 | apply List.Mem.tail)); done)))))) (List.forall_mem_cons.mpr ⟨lex_off Zl hcz (.inr hc), List.forall_mem_cons.mpr ⟨lex_off Zl hcz (.inl lgo.1), List.forall_mem_cons.mpr ⟨lex_off Zl hcz (.inl lzw), hT2f⟩⟩⟩) ⟨LZ.spec, LZ.og, LZ.ot, LZ.lt⟩ (.inl hcz) (by k_asm) rfl (by ktr_room) (by ktr_units) (by dsimp only; simp only [List.length_cons]; omega) rfl (fun h9 tk9 n9 F9 N9 => ?_)
        (try dsimp only)
        k_steps
        refine Stop.out ?_
        (with_reducible rename News _ _ _ _ => N9)
        refine c_push (z := { z with ps := r, pn := n9 }) (rest := ((169, tabObj #[rawInt 249, rawInt 4, .ref z.c]) :: (go, W.listOf gv.toArray _) :: (wa, W.listOf wr.toArray _) :: T2)) (by k_asm) (by k_asm) (by k_asm) (by kn_code) (nsub N9 (by k_dflt (repeat (first | exact sub_nil | (refine sub_cons ?_ ?_; (focus k_mem)) | (refine sub_app ?_ ?_) | (focus (intro p9 hp9; (repeat (first | exact hp9 | apply List.Mem.tail)); done)))))) (List.forall_mem_cons.mpr ⟨lex_off Zl hcz (.inr hc), List.forall_mem_cons.mpr ⟨lex_off Zl hcz (.inl lgo.1), List.forall_mem_cons.mpr ⟨lex_off Zl hcz (.inl lzw), hT2f⟩⟩⟩) ⟨LZ.spec, LZ.og, LZ.ot, LZ.lt⟩ (.inl hcz) (by k_asm) rfl (by ktr_room) (by ktr_units) (by dsimp only; omega) (fun h10 tk10 n10 F10 N10 => ?_)
        (try dsimp only)
        k_steps
        (with_reducible rename Fr _ _ _ _ => Fz)
        (with_reducible rename News _ _ _ _ => Nz)
        dsimp only [List.cons_append, List.nil_append] at Nz
        exact ⟨(r ++ [v], n10), _, _, _, _, rfl, Fz, Nz, (by k_dflt (repeat (first | exact sub_nil | (refine sub_cons ?_ ?_; (focus k_mem)) | (refine sub_app ?_ ?_) | (focus (intro p9 hp9; (repeat (first | exact hp9 | exact hTm2 _ hp9 | exact hOm2 _ hp9 | apply List.Mem.tail)); done))))), hoff2, List.forall_mem_nil _, (by o_head 37), (by dsimp only; rw [rotL, ← hq3]; rfl)⟩
      case done3 =>
        clear N6 F6 hR2
        intro p9x6 u3 h3 tk3 hq3 F8 N8
        (try k_fold)
        obtain ⟨ps3, pn3⟩ := p9x6
        dsimp only at hq3
        dsimp only at F8 N8
        dsimp only [List.cons_append, List.nil_append] at N8
        have hpl3 : ps3.length = ps2.length := by rw [hq3, rotL_length]
        obtain ⟨v, r, rfl⟩ := ne_cons (l := ps3) (by omega)
        have hrl : r.length ≤ 12 := Nat.le_of_succ_le (Nat.le_trans (Nat.le_of_eq (hpl3.trans hpl)) (Nat.le_trans (Nat.sub_le _ _) (by omega)))
        have hr : r = qAt e (i + 1) ps := by rw [qAt, ← hq, ← hq3]; rfl
        have hv : gv ++ [v] = gAt e (i + 1) ps := by rw [gAt, ← hg, ← hq, ← hq3]; rfl
        have hS1 : StrsAre r (qAt e (i + 1) xs) := by rw [hr]; exact strs_qAt hx.out e (i + 1)
        have hwrl : wr.length ≤ 12 := by rw [hwr, List.length_map, hwl]; omega
        k_steps
        refine Stop.out ?_
        (with_reducible rename News _ _ _ _ => N9)
        refine c_get1 (z := { z with ps := v :: r, pn := pn3 }) (rest := ((169, tabObj #[rawInt 249, rawInt 4, .ref z.c]) :: (go, W.listOf gv.toArray _) :: (wa, W.listOf wr.toArray _) :: T0)) (by k_asm) (by k_asm) (by k_asm) (by kn_code) (nsub N9 (by k_dflt (repeat (first | exact sub_nil | (refine sub_cons ?_ ?_; (focus k_mem)) | (refine sub_app ?_ ?_) | (focus (intro p9 hp9; (repeat (first | exact hp9 | apply List.Mem.tail)); done)))))) (List.forall_mem_cons.mpr ⟨lex_off Zl hcz (.inr hc), List.forall_mem_cons.mpr ⟨lex_off Zl hcz (.inl lgo.1), List.forall_mem_cons.mpr ⟨lex_off Zl hcz (.inl lzw), hTf⟩⟩⟩) ⟨LZ.spec, LZ.og, LZ.ot, LZ.lt⟩ (.inl hcz) (by k_asm) rfl (by ktr_room) (by ktr_units) (by dsimp only; simp only [List.length_cons]; omega) rfl (fun h9 tk9 n9 F9 N9 => ?_)
        (try dsimp only)
        dsimp only [List.cons_append, List.nil_append] at N9
        k_steps
        refine Stop.out ?_
        (with_reducible rename Fr _ _ _ _ => F10)
        (with_reducible rename News _ _ _ _ => N10)
        simp only [List.push_toArray] at N10
        refine sortedK F10 N10 (News.isList N10 (by k_mem)) hS1 (by omega) (fun D1 h11 ws1 ss1 e1 F11 N11 lD hSs hps1 hss => ?_)
        have lT : ∀ p ∈ T0, p.1 < D1 := fun p hp => lD p (by repeat (first | exact hp | apply List.Mem.tail))
        have lwD : @LT.lt Nat _ wa D1 := lD (wa, _) (by k_mem)
        have lgD : @LT.lt Nat _ go D1 := lD (go, _) (by k_mem)
        have lzD : @LT.lt Nat _ z.l D1 := lD (z.l, _) (by k_mem)
        k_lt lD
        k_steps
        (with_reducible rename Fr _ _ _ _ => Fz)
        (with_reducible rename News _ _ _ _ => Nz)
        simp only [List.push_toArray] at Nz
        refine ⟨⟨r, _, gv ++ [v], _, wl ++ [⟨D1, ws1, e1⟩], wr ++ [.ref D1], _, tl ++ [(D1, W.listOf ws1.toArray e1)]⟩, _, _, _, _, rfl, Fz, Nz, (by k_dflt (repeat (first | exact sub_nil | (refine sub_cons ?_ ?_; (focus k_mem)) | (refine sub_app ?_ ?_) | (focus (intro p9 hp9; (repeat (first | exact hp9 | exact hTm _ hp9 | exact hOm _ hp9 | apply List.Mem.tail)); done))))), ?_, List.forall_mem_nil _, (by intro y h1 h2 h3; simp only [List.contains_cons, List.contains_nil, Bool.or_false, beq_eq_false_iff_ne, ne_eq] at h3; simp [kstB, h1, h3]), hr, hv, (by simp [hwl]), WtOk.snoc hwo hSs (by rw [hwl]; exact hps1) hss, (by rw [hwr, List.map_append]; rfl), (by rw [htl, List.map_append]; rfl),
          List.forall_mem_append.mpr ⟨hta, List.forall_mem_cons.mpr ⟨lzD, List.forall_mem_nil _⟩⟩, List.forall_mem_append.mpr ⟨htg, List.forall_mem_cons.mpr ⟨by k_ne, List.forall_mem_nil _⟩⟩, List.forall_mem_append.mpr ⟨htw, List.forall_mem_cons.mpr ⟨by k_ne, List.forall_mem_nil _⟩⟩⟩
        exact ownoff_snoc (x := (D1, W.listOf ws1.toArray e1)) hoff (fun p hp => Nat.ne_of_lt (lT p (hOm p hp)))
    case done2 =>
      clear N5 F5 hR
      intro p9x7 u2 h2 tk2 p9x8 F7 N7
      (try k_fold)
      obtain ⟨ps2, pn2, gv, gn, wl, wr, wn, tl⟩ := p9x7
      obtain ⟨hq, hg, hwl, hwo, hwr, htl, hta, htg, htw⟩ := p9x8
      dsimp only at hq hg hwl hwo hwr htl hta htg htw
      dsimp only at F7 N7
      dsimp only [List.cons_append, List.nil_append] at N7
      k_steps
      (with_reducible rename Fr _ _ _ _ => Fz)
      (with_reducible rename News _ _ _ _ => Nz)
      have hg2 : gv = gAt e ps.length ps := hg
      subst hwr htl
      rename_i tpx _ ltx
      refine ⟨_, _, ((tpx, tup2 (.ref go) (.ref wa)) :: (go, W.listOf gv.toArray gn) :: (wa, W.listOf (wl.map fun w => Value.ref w.a).toArray wn) :: wl.map Wt.obj) ++ [(169, tabObj #[rawInt 249, rawInt 4, .ref z.c]), (z.c, z.oc)], Fz, nsub Nz (by k_dflt (repeat (first | exact sub_nil | (refine sub_cons ?_ ?_; (focus k_mem)) | (refine sub_app ?_ ?_) | (focus (intro p9 hp9; (repeat (first | exact hp9 | apply List.Mem.tail)); done))))), fun kF kN off => ?_⟩
      refine hret _ _ tpx go wa gv gn wn wl kF (by rw [hg2, ← hvn]; exact strs_gAt hx.out e _) (by rw [hwl, hvn]) hwo (List.forall_mem_cons.mpr ⟨by dsimp only; omega, List.forall_mem_cons.mpr ⟨by dsimp only; omega, List.forall_mem_cons.mpr ⟨by dsimp only; omega, fun p hp => Nat.lt_trans (by omega) (hta p hp)⟩⟩⟩) kN
end
end
section
open PySem PySem.W PyProof.Rows PySem.Calls PyProof.Rows.LCg
set_option Elab.async false
set_option maxRecDepth 100000
set_option genInjectivity false
set_option genSizeOf false
section
variable {prog : Program} {w : World} {A : Around} {E : Value → Shared → Prop} {s : Shared} {h₀ : Heap} {L : Addr} {m : Str → Option Value} {env : Env}
inductive EnTurn (h₀ : Heap) (L : Addr) (m : Str → Option Value) (s : Shared) (must : List (Addr × Obj)) (Ok : Value → Prop) (y : Value) (s₂ : Shared) : Prop
  | mk (h' : Heap) (tk' : Nat) (all : List (Addr × Obj)) (e : s₂ = { s with heap := h', toks := tk' }) (F : Fr h₀ L h' m) (N : News h₀ L h' all) (sub : ∀ p ∈ must, p ∈ all) (ok : Ok y) : EnTurn h₀ L m s must Ok y s₂
inductive EnInv (h₀ : Heap) (L : Addr) (m : Str → Option Value) (s₂ : Shared) (En I ax C D : Addr) (items : List Value) (news : List (Addr × Obj)) (Ok : Nat → List Value → Prop) (k : Nat) (s' : Shared) : Prop
  | mk (h' : Heap) (tk i : Nat) (ys : List Value) (m' : Str → Option Value) (e : s' = { s₂ with heap := h', toks := tk }) (hi : i ≤ items.length) (hk : k = items.length + 1 - i) (hyl : ys.length = i) (hE : ∃ old, IsEnum h' En I (i : Int) old) (hI : h'.IsListIter I ax i)
    (F : Fr h₀ L h' m) (hn : h'.Ns C m') (N : News h₀ L h' ((D, lst ys) :: news)) (ok : Ok i ys) : EnInv h₀ L m s₂ En I ax C D items news Ok k s'
theorem enum_block {elt iter : Expr} {a b : Str} {pa pb tp : Pos} {kk : Nat} {scope : Scope} {cl : List (Str × Addr)} {pos : Pos} {s₂ : Shared} {En I ax : Addr} {items : List Value} {n : Nat} {news : List (Addr × Obj)} {Ok : Nat → List Value → Prop} {RR : Value → Addr → Result → Shared → Prop}
    (hh : A.handled = none) (hE : IsEnum s₂.heap En I 0 .none) (hI : s₂.heap.IsListIter I ax 0) (hm : (ax, W.listOf items.toArray n) ∈ news) (hEI : En ≠ I) (hsz : items.length ≤ sizeLine)
    (hcell : ∀ y ∈ scope.names, y.2 ≠ .cell) (hkind : scope.kind = .function) (hxa : scope.names.lookup a = some .local) (hxb : scope.names.lookup b = some .local) (hab : ¬ a = b)
    (F : Fr h₀ L s₂.heap m) (N : News h₀ L s₂.heap news) (hEL : L ≠ En) (hIL : L ≠ I) (hE₀ : h₀.get? En = none) (hI₀ : h₀.get? I = none) (off : ∀ p ∈ news, p.1 ≠ En ∧ p.1 ≠ I) (h0 : Ok 0 [])
    (turn : ∀ i ys v t oE oI C oC D m₂ h tk (E' : Value → Shared → Prop), items[i]? = some v → Ok i ys → NsObj oC m₂ → m₂ a = some (.int (i : Int) t) → m₂ b = some v → Fr h₀ L h m → News h₀ L h ((En, oE) :: (I, oI) :: (C, oC) :: (D, lst ys) :: news) →
      wpAny (model prog w) A (eval elt (compEnvC scope cl C env)) (EnTurn h₀ L m { s₂ with heap := h, toks := tk } ((En, oE) :: (I, oI) :: (C, oC) :: (D, lst ys) :: news) (fun y => Ok (i + 1) (ys ++ [y]))) E' { s₂ with heap := h, toks := tk })
    (hRR : ∀ D C h tk m' ys, Fr h₀ L h m → News h₀ L h ((D, lst ys) :: news) → h.Ns C m' → h₀.get? C = none → h₀.get? D = none → C ≠ L → D ≠ L → C ≠ D → (∀ p ∈ news, p.1 ≠ C) → (∀ p ∈ news, p.1 < D) → Ok items.length ys → RR (.ref D) C (.ok .next) { s₂ with heap := h, toks := tk }) :
    wpAny (model prog w) A (newList []) (fun acc s₃ => wpAny (model prog w) A (newFunctionEnv scope env.globals cl [] env.qual none .none (some env)) (fun cenv s₄ =>
      codeAny (model prog w) A (.compStart (.ListComp elt [⟨.Tuple [.Name a pa, .Name b pb] kk tp, iter, [], 0⟩] scope pos) 0 (.ref En) acc { cenv with scope := relabel scope env }) (RR acc cenv.locals) s₄) E s₃) E s₂ := by
  refine wpAny_newObj_type (wpAny_newFunctionEnv hcell (by intro y hy; simp at hy) (fun h₁ hns₁ hsb₁ => ?_) hkind)
  dsimp only at hns₁ hsb₁ ⊢
  generalize hH2 : s₂.heap.push { cls := .type "list", dict := none, data := .seq ([] : List Value).toArray } = H2 at hns₁ hsb₁ ⊢
  have hC : H2.objs.size = s₂.heap.objs.size + 1 := by rw [← hH2, Heap.size_push]
  generalize hDn : s₂.heap.objs.size = D at hC ⊢
  generalize hCn : H2.objs.size = C at hC hns₁ hsb₁ ⊢
  have hCD : C ≠ D := by rw [hC]; exact Nat.succ_ne_self _
  have lo : ∀ b o, s₂.heap.get? b = some o → b ≠ C ∧ b ≠ D := fun b o e => by
    have := Heap.lt_size e
    rw [hDn] at this
    exact ⟨by rw [hC]; exact Nat.ne_of_lt (Nat.lt_succ_of_lt this), Nat.ne_of_lt this⟩
  have old : ∀ b o, s₂.heap.get? b = some o → h₁.get? b = some o := fun b o e => hsb₁.extBut b o (lo b o e).1 (Heap.get?_push_of_some _ (by rw [← hH2]; exact Heap.get?_push_of_some _ e))
  have hacc : h₁.get? D = some (lst []) := hsb₁.extBut _ _ (Ne.symm hCD) (by
    refine Heap.get?_push_of_some _ ?_
    rw [← hH2, ← hDn]
    exact Heap.get?_push_size _ rfl)
  have none₀ : ∀ b, s₂.heap.objs.size ≤ b → h₀.get? b = none := fun b hb => by
    cases q : h₀.get? b with
    | none => rfl
    | some o => exact absurd (Heap.lt_size (F.keep _ _ q)) (Nat.not_lt.mpr hb)
  have hD₀ : h₀.get? D = none := none₀ _ (Nat.le_of_eq hDn)
  have hC₀ : h₀.get? C = none := none₀ _ (by rw [hC, hDn]; exact Nat.le_succ _)
  obtain ⟨oL, _, _, hLo, _⟩ := id F.ns
  have hCL : C ≠ L := Ne.symm (lo _ _ hLo).1
  have hDL : D ≠ L := Ne.symm (lo _ _ hLo).2
  have hEC := (lo _ _ hE)
  obtain ⟨oI0, hI0, _⟩ := id hI
  have hIC := (lo _ _ hI0)
  have offC : ∀ p ∈ news, p.1 ≠ C ∧ p.1 ≠ D := fun p hp => lo _ _ (N p hp).1
  have hax := N _ hm
  have W := (WalksT.enumerate (prog := prog) (w := w) hh En I ax hEI (off _ hm).1 (off _ hm).2 items.toArray).toU
  have loop : ∀ s₃ : Shared, s₃ = { s₂ with heap := h₁, toks := s₂.toks + ([] : List (Str × Value)).length } →
      codeAny (model prog w) A (.compLoop (.ListComp elt [⟨.Tuple [.Name a pa, .Name b pb] kk tp, iter, [], 0⟩] scope pos) 0 (.ref En) (.ref D) (compEnvC scope cl C env)) (RR (.ref D) C) s₃ := by
    rintro s₃ rfl
    refine kcp_loop
      (EnInv h₀ L m s₂ En I ax C D items news Ok) ?_ (items.length + 1)
      ⟨h₁, _, 0, [], _, rfl, Nat.zero_le _, rfl, rfl, ⟨_, old _ _ hE⟩, ⟨oI0, old _ _ hI0, (by obtain ⟨o, e, r⟩ := hI; rw [hI0] at e; cases e; exact r)⟩, F.keeps old, hns₁, fun p hp => ?_, h0⟩
    · rintro k s' ⟨h', tk, i, ys, m', rfl, hi, rfl, hyl, hE', hI', F', hn', N', hOk⟩
      have hl' : h'.IsList ax items.toArray := ⟨_, (N' _ (List.mem_cons_of_mem _ hm)).1, rfl, _, rfl⟩
      by_cases hlt : i < items.length
      · refine W.item i _ _ _ (by simpa using hlt) ⟨hE', hI', hl'⟩ fun T vals h₂ tk₂ hP hT hMid hk₂ => ?_
        obtain ⟨t, v, hv, rfl⟩ := hP
        have hv' : items[i]? = some v := by simpa using hv
        refine W.go _ _ _ i T _ _ _ hMid fun h₃ hst₃ hk₃ => ?_
        have hTE : T ∉ [En, I] := W.apart _ _ _ hMid
        obtain ⟨⟨old₃, hE₃⟩, hI₃, hl₃⟩ := hst₃
        have hT₃ : h₃.IsTuple T #[.int (i : Int) t, v] := by
          obtain ⟨o, e, r⟩ := hT
          exact ⟨o, hk₃ T o hTE e, r⟩
        have up₃ : ∀ c o, c ≠ En → c ≠ I → h'.get? c = some o → h₃.get? c = some o := fun c o c1 c2 e => hk₃ c o (by simp [c1, c2]) (hk₂ c o (by simp [c1, c2]) e)
        refine kcp_assign (env := compEnvC scope cl C env) hh hT₃ (lookup_relabel_local hxa) (lookup_relabel_local hxb) (by simp [compEnvC, relabel, hkind]) (hn'.at' fun o e => up₃ _ o (Ne.symm hEC.1) (Ne.symm hIC.1) e) fun h₄ tk₄ hn₄ hs₄ => ?_
        have up : ∀ c o, c ≠ En → c ≠ I → c ≠ C → h'.get? c = some o → h₄.get? c = some o := fun c o c1 c2 c3 e => hs₄ c o c3 (up₃ c o c1 c2 e)
        obtain ⟨oI₃, eI₃, rI₃⟩ := id hI₃
        have eE₄ := hs₄ En _ hEC.1 hE₃
        have eI₄ := hs₄ I _ hIC.1 eI₃
        obtain ⟨oC, heC, hoC⟩ := ns_obj hn₄
        have F₄ : Fr h₀ L h₄ m := ⟨F'.ns.at' fun o e => up _ o hEL hIL (Ne.symm hCL) e, fun c o e => up c o (fun q => by rw [q, hE₀] at e; cases e) (fun q => by rw [q, hI₀] at e; cases e) (fun q => by rw [q, hC₀] at e; cases e) (F'.keep c o e), F'.above⟩
        have N₄ : News h₀ L h₄ ((En, _) :: (I, oI₃) :: (C, oC) :: (D, lst ys) :: news) := fun q hq => by
          rcases List.mem_cons.mp hq with rfl | hq
          · exact ⟨eE₄, Ne.symm hEL, hE₀⟩
          · rcases List.mem_cons.mp hq with rfl | hq
            · exact ⟨eI₄, Ne.symm hIL, hI₀⟩
            · rcases List.mem_cons.mp hq with rfl | hq
              · exact ⟨heC, hCL, hC₀⟩
              · have z := N' q hq
                rcases List.mem_cons.mp hq with rfl | hq
                · exact ⟨up _ _ (Ne.symm hEC.2) (Ne.symm hIC.2) (Ne.symm hCD) z.1, z.2⟩
                · exact ⟨up _ _ (off q hq).1 (off q hq).2 (offC q hq).1 z.1, z.2⟩
        refine wpAny_mono (turn i ys v t _ oI₃ C oC D _ h₄ _ _ hv' hOk hoC (by simp [hab]) (by simp) F₄ N₄) (fun y s₅ h₅ => ?_) fun _ _ e => e
        obtain ⟨h₅, tk₅, all, rfl, F₅, N₅, sub, hOk₅⟩ := h₅
        have zE := (N₅ _ (sub _ List.mem_cons_self)).1
        have zI := (N₅ _ (sub _ (List.mem_cons_of_mem _ List.mem_cons_self))).1
        have zC := (N₅ _ (sub _ (List.mem_cons_of_mem _ (List.mem_cons_of_mem _ List.mem_cons_self)))).1
        have zD := (N₅ _ (sub _ (List.mem_cons_of_mem _ (List.mem_cons_of_mem _ (List.mem_cons_of_mem _ List.mem_cons_self))))).1
        have N₅' : News h₀ L h₅ news := fun q hq => N₅ q (sub q (List.mem_cons_of_mem _ (List.mem_cons_of_mem _ (List.mem_cons_of_mem _ (List.mem_cons_of_mem _ hq)))))
        refine append_at (hsz := by show ys.toArray.size ≤ sizeLine; rw [List.size_toArray, hyl]; exact Nat.le_trans hi hsz) zD fun h₆ hs₆ hD₆ => ?_
        refine ⟨items.length + 1 - (i + 1), by omega, h₆, tk₅, i + 1, ys ++ [y], _, rfl, hlt, rfl, by rw [List.length_append, List.length_singleton, hyl], ⟨_, by
            have e9 : ((i + 1 : Nat) : Int) = (i : Int) + 1 := by omega
            rw [e9]; exact hs₆.extBut En _ hEC.2 zE⟩, ⟨oI₃, hs₆.extBut I _ hIC.2 zI, rI₃⟩, F₅.change hs₆ hDL hD₀,
          (hoC.ns zC).sameBut hs₆ hCD, fun q hq => ?_, hOk₅⟩
        rcases List.mem_cons.mp hq with rfl | hq
        · exact ⟨hD₆.trans (congrArg some (lst_snoc ys y)), hDL, hD₀⟩
        · exact ⟨hs₆.extBut _ _ (offC q hq).2 (N₅' q hq).1, (N₅' q hq).2⟩
      · have hin : i = items.length := Nat.le_antisymm hi (Nat.not_lt.mp hlt)
        subst hin
        refine W.done _ _ _ (by rw [List.size_toArray]; exact ⟨hE', hI', hl'⟩) fun h₂ tk₂ hk₂ => ?_
        have up : ∀ c o, c ≠ En → c ≠ I → h'.get? c = some o → h₂.get? c = some o := fun c o c1 c2 e => hk₂ c o (by simp [c1, c2]) e
        refine hRR _ _ h₂ tk₂ _ ys ⟨F'.ns.at' fun o e => up _ o hEL hIL e, fun c o e => up c o (fun q => by rw [q, hE₀] at e; cases e) (fun q => by rw [q, hI₀] at e; cases e) (F'.keep c o e), F'.above⟩ (fun q hq => ?_) (hn'.at' fun o e => up _ o (Ne.symm hEC.1) (Ne.symm hIC.1) e) hC₀ hD₀ hCL hDL hCD (fun p hp => (offC p hp).1) (fun p hp => (by rw [← hDn]; exact Heap.lt_size (N p hp).1)) hOk
        have z := N' q hq
        rcases List.mem_cons.mp hq with rfl | hq
        · exact ⟨up _ _ (Ne.symm hEC.2) (Ne.symm hIC.2) z.1, z.2⟩
        · exact ⟨up _ _ (off q hq).1 (off q hq).2 z.1, z.2⟩
    · rcases List.mem_cons.mp hp with rfl | hp
      · exact ⟨hacc, hDL, hD₀⟩
      · exact ⟨old _ _ (N p hp).1, (N p hp).2⟩
  exact codeAny_compStart_list (loop _ rfl) (W.self 0 _ _ _ ⟨⟨_, old _ _ hE⟩, ⟨oI0, old _ _ hI0, (by obtain ⟨o, e, r⟩ := hI; rw [hI0] at e; cases e; exact r)⟩, ⟨_, old _ _ hax.1, rfl, _, rfl⟩⟩ (loop _ rfl))

inductive SrcE (prog : Program) (w : World) (A : Around) (h₀ : Heap) (L : Addr) (m : Str → Option Value) (env : Env) (elt : Expr) (a b y : Str) (scope : Scope) (cl : List (Str × Addr)) (Q : Flow → Shared → Prop) (xv : Value) (s₁ : Shared) : Prop
  | mk (En I ax : Addr) (items : List Value) (n : Nat) (news : List (Addr × Obj)) (Ok : Nat → List Value → Prop) (e : xv = .ref En) (hh : A.handled = none) (F : Fr h₀ L s₁.heap m) (N : News h₀ L s₁.heap news) (hm : (ax, W.listOf items.toArray n) ∈ news) (hE : IsEnum s₁.heap En I 0 .none) (hI : s₁.heap.IsListIter I ax 0) (hEI : En ≠ I)
    (q4 : L ≠ En ∧ L ≠ I ∧ h₀.get? En = none ∧ h₀.get? I = none) (off : ∀ p ∈ news, p.1 ≠ En ∧ p.1 ≠ I) (hsz : items.length ≤ sizeLine) (h0 : Ok 0 [])
    (turn : ∀ i ys v t oE oI C oC D m₂ h tk (E' : Value → Shared → Prop), items[i]? = some v → Ok i ys → NsObj oC m₂ → m₂ a = some (.int (i : Int) t) → m₂ b = some v → Fr h₀ L h m → News h₀ L h ((En, oE) :: (I, oI) :: (C, oC) :: (D, lst ys) :: news) →
      wpAny (model prog w) A (eval elt (compEnvC scope cl C env)) (EnTurn h₀ L m { s₁ with heap := h, toks := tk } ((En, oE) :: (I, oI) :: (C, oC) :: (D, lst ys) :: news) (fun y => Ok (i + 1) (ys ++ [y]))) E' { s₁ with heap := h, toks := tk })
    (done : ∀ D h tk ys, Ok items.length ys → Fr h₀ L h (fun z => if z = y then some (.ref D) else m z) → News h₀ L h ((D, lst ys) :: news) → (∀ p ∈ news, p.1 < D) → Q .next { s₁ with heap := h, toks := tk }) : SrcE prog w A h₀ L m env elt a b y scope cl Q xv s₁
theorem Assign_ListComp_E {elt iter : Expr} {a b y : Str} {pa pb tp py : Pos} {kk : Nat} {scope : Scope} {cl : List (Str × Addr)} {pos spos : Pos} {Q : Flow → Shared → Prop} (F₀ : Fr h₀ L s.heap m) (hLe : env.locals = L)
    (hsw : swapsWith (.ListComp elt [⟨.Tuple [.Name a pa, .Name b pb] kk tp, iter, [], 0⟩] scope pos) (some (.Name y py)) spos.line env = pure true)
    (hclos : closureFor scope env = pure cl) (hcell : ∀ z ∈ scope.names, z.2 ≠ .cell) (hkind : scope.kind = .function)
    (hnames : ∀ z ∈ scope.names, z.2 = .local → scope.names.lookup z.1 = some .local) (hxa : scope.names.lookup a = some .local) (hxb : scope.names.lookup b = some .local) (hab : ¬ a = b)
    (hy : env.kindOf y = some .local) (hp : (env.scope.kind == .class || (env.scope.kind == .module && env.locals != env.globals)) = false)
    (h : wpAny (model prog w) A (eval iter env) (SrcE prog w A h₀ L m env elt a b y scope cl Q) E s)
    (hs : ∀ x, foldedSetIterable iter env x = pure x := by intro _; rfl) :
    wpAny (model prog w) A (exec (.Assign [.Name y py] (.ListComp elt [⟨.Tuple [.Name a pa, .Name b pb] kk tp, iter, [], 0⟩] scope pos) spos) env) Q E s := by
  subst hLe
  rw [exec_Assign_Name_used _ _ _ _ hsw]
  refine wpAny_bind (wpAny_standAt (wpAny_bind ?_))
  show wpAny _ A (do let _ ← comprehension (.ListComp elt [⟨.Tuple [.Name a pa, .Name b pb] kk tp, iter, [], 0⟩] scope pos) scope env _ (newList []) false (eval iter env) (some (assign (.Name y py) env))) _ _ s
  refine wpAny_bind (wpAny_mono (wpAny_comprehension_free (use := some (assign (.Name y py) env)) (Q := fun _ s' => Q .next s') rfl hs hclos hkind hnames
    (wpAny_mono h (fun xv s₁ h₁ => ?_) fun _ _ e => e)) (fun _ s' hq => wpAny_pure (wpAny_pure hq)) fun _ _ e => e)
  obtain ⟨En, I, ax, items, n, news, Ok, rfl, hh, F, N, hm, hE, hI, hEI, ⟨hEL, hIL, hE₀, hI₀⟩, off, hsz, h0, turn, done⟩ := h₁
  have hl : s₁.heap.IsList ax items.toArray := ⟨_, (N _ hm).1, rfl, _, rfl⟩
  refine ((WalksT.enumerate (prog := prog) (w := w) hh En I ax hEI (off _ hm).1 (off _ hm).2 items.toArray).toU).self 0 _ _ _ ⟨⟨_, hE⟩, hI, hl⟩ ?_
  refine enum_block hh hE hI hm hEI hsz hcell hkind hxa hxb hab F N hEL hIL hE₀ hI₀ off h0 turn ?_
  intro D C h' tk m' ys F' N' hn hC₀ hD₀ hCL hDL hCD offC offD hOk
  show wpAny _ A (assign (.Name y py) env (.ref D)) _ _ _
  refine wpAny_assign_Name (wpAny_storeName_local hy F'.ns (fun h₂ hn₂ hs₂ => ?_) hp)
  have hL₀ : h₀.get? env.locals = none := Heap.get?_none_of_le F'.above
  have F₂ : Fr h₀ env.locals h₂ (fun z => if z = y then some (.ref D) else m z) := ⟨hn₂, fun b o e => hs₂.extBut b o (fun q => by rw [q, hL₀] at e; cases e) (F'.keep b o e), F'.above⟩
  refine ⟨m', hn.sameBut hs₂ hCL, fun h'' hs'' => done D h'' _ ys hOk (F₂.change hs'' hCL hC₀) (fun p hp => ?_) offD⟩
  have z : h₂.get? p.1 = some p.2 := hs₂.extBut _ _ (N' p hp).2.1 (N' p hp).1
  refine ⟨hs''.extBut _ _ ?_ z, (N' p hp).2⟩
  rcases List.mem_cons.mp hp with rfl | hp
  · exact Ne.symm hCD
  · exact offC p hp
theorem enum_src {elt : Expr} {a b y : Str} {scope : Scope} {cl : List (Str × Addr)} {Q : Flow → Shared → Prop} {ax : Addr} {items : List Value} {n : Nat} {news : List (Addr × Obj)} (Ok : Nat → List Value → Prop)
    (hh : A.handled = none) (F : Fr h₀ L s.heap m) (N : News h₀ L s.heap news) (hm : (ax, W.listOf items.toArray n) ∈ news) (hsz : items.length ≤ sizeLine) (h0 : Ok 0 [])
    (turn : ∀ g i ys v t En oE I oI C oC D m₂ h tk (E' : Value → Shared → Prop), items[i]? = some v → Ok i ys → NsObj oC m₂ → m₂ a = some (.int (i : Int) t) → m₂ b = some v → Fr h₀ L h m → News h₀ L h ((En, oE) :: (I, oI) :: (C, oC) :: (D, lst ys) :: news) →
      wpAny (model prog w) A (eval elt (compEnvC scope cl C env)) (EnTurn h₀ L m { s with heap := h, toks := tk } ((En, oE) :: (I, oI) :: (C, oC) :: (D, lst ys) :: news) (fun y => Ok (i + 1) (ys ++ [y]))) E' { { s with heap := g } with heap := h, toks := tk })
    (done : ∀ D h tk ys, Ok items.length ys → Fr h₀ L h (fun z => if z = y then some (.ref D) else m z) → News h₀ L h ((D, lst ys) :: news) → (∀ p ∈ news, p.1 < D) → Q .next { s with heap := h, toks := tk }) :
    wpAny (model prog w) A (call (.type "enumerate") [.ref ax]) (SrcE prog w A h₀ L m env elt a b y scope cl Q) E s := by
  have hl : s.heap.IsList ax items.toArray := ⟨_, (N _ hm).1, rfl, _, rfl⟩
  refine call_enumerate_list hl fun h' hE hI hsz' hk => ?_
  have fresh : ∀ b, s.heap.objs.size ≤ b → (∀ p ∈ news, p.1 ≠ b) ∧ L ≠ b ∧ h₀.get? b = none := fun b hb =>
    ⟨fun p hp q => absurd (Heap.lt_size (N p hp).1) (by rw [q]; exact Nat.not_lt.mpr hb), fun q => absurd F.ns.lt (by rw [q]; exact Nat.not_lt.mpr hb), by
      cases q : h₀.get? b with
      | none => rfl
      | some o => exact absurd (Heap.lt_size (F.keep _ _ q)) (Nat.not_lt.mpr hb)⟩
  have f1 := fresh (s.heap.objs.size + 1) (Nat.le_succ _)
  have f2 := fresh s.heap.objs.size (Nat.le_refl _)
  exact ⟨_, _, ax, items, n, news, Ok, rfl, hh, F.keeps hk, N.grown hk, hm, hE, hI, Nat.succ_ne_self _, ⟨f1.2.1, f2.2.1, f1.2.2, f2.2.2⟩, fun p hp => ⟨f1.1 p hp, f2.1 p hp⟩, hsz, h0,
    fun i ys v t oE oI C oC D m₂ h tk E' a1 a2 a3 a4 a5 a6 a7 => turn h' i ys v t _ oE _ oI C oC D m₂ h tk E' a1 a2 a3 a4 a5 a6 a7, done⟩
end
end
section
open PySem PySem.W PyProof.Rows PySem.Calls
set_option Elab.async false
set_option maxRecDepth 100000
set_option linter.all false

set_option genInjectivity false
set_option genSizeOf false
structure FlagC : Prop where
  n : True
noncomputable def MkOk (x0 x1 : Nat) : Prop := x0 ≠ x1 ∧ (x0 = 34 ∨ x0 = 92 ∨ x0 = 32 ∨ x0 = 10) ∧ (x1 = 34 ∨ x1 = 92 ∨ x1 = 32 ∨ x1 = 10)
theorem mk0 : Str.ofString "\" " = txt [34, 32] := by kernel_rfl
theorem mk1 : Str.ofString "\\\"" = txt [92, 34] := by kernel_rfl
theorem mk2 : Str.ofString " \\" = txt [32, 92] := by kernel_rfl
theorem mk3 : Str.ofString "\"\\" = txt [34, 92] := by kernel_rfl
theorem mk4 : Str.ofString "\n\"" = txt [10, 34] := by kernel_rfl
theorem mk5 : Str.ofString "\\\n" = txt [92, 10] := by kernel_rfl
inductive BsAre : List Value → List (Array UInt8) → Prop
  | nil : BsAre [] []
  | cons (b : Array UInt8) (t : Tok) {vs bs} : BsAre vs bs → BsAre (.bytes b t :: vs) (b :: bs)
theorem BsAre.append {vs ws : List Value} {bs cs : List (Array UInt8)} (h : BsAre vs bs) (k : BsAre ws cs) : BsAre (vs ++ ws) (bs ++ cs) := by
  induction h with
  | nil => exact k
  | cons b t _ ih => exact .cons b t ih
theorem BsAre.length {vs : List Value} {bs : List (Array UInt8)} (h : BsAre vs bs) : vs.length = bs.length := by
  induction h with
  | nil => rfl
  | cons b t _ ih => rw [List.length_cons, List.length_cons, ih]
theorem bs_get {vs : List Value} {bs : List (Array UInt8)} {i : Nat} {v : Value} (a : BsAre vs bs) (h : vs[i]? = some v) : ∃ b t, v = .bytes b t ∧ bs[i]? = some b := by
  induction a generalizing i with
  | nil => cases h
  | cons k t _ ih =>
    cases i with
    | zero => cases h; exact ⟨k, t, rfl, rfl⟩
    | succ i => exact ih h
noncomputable def rowI (ns : List Int) (k : Nat) : List Int := [248 + ns.getD k 0 % 8, 16 * (k : Int) + ns.getD k 0 / 8 % 16]
noncomputable def rowB (ns : List Int) (k : Nat) : Array UInt8 := byteArr (rowI ns k)
theorem rowB_size (ns : List Int) (k : Nat) : (rowB ns k).size ≤ 4096 := by unfold rowB byteArr rowI; simp
theorem getD_of {ns : List Int} {i : Nat} {v : Int} (h : ns[i]? = some v) : ns.getD i 0 = v := by rw [List.getD_eq_getElem?_getD, h]; rfl
theorem fmod8 {x : Int} : x.fmod 8 = x % 8 := Int.fmod_eq_emod_of_nonneg x (by decide)
theorem fdiv8 {x : Int} : x.fdiv 8 = x / 8 := Int.fdiv_eq_ediv_of_nonneg x (by decide)
theorem fmod16 {x : Int} : x.fmod 16 = x % 16 := Int.fmod_eq_emod_of_nonneg x (by decide)
theorem fmod6 (x : Int) : 0 ≤ x.fmod 6 ∧ x.fmod 6 < 6 := by
  rw [Int.fmod_eq_emod_of_nonneg x (by decide)]
  exact ⟨Int.emod_nonneg _ (by decide), Int.emod_lt_of_pos _ (by decide)⟩
theorem mk_ascii {x0 x1 : Nat} (h : MkOk x0 x1) : Ascii (txt [x0, x1]) := by
  intro c hc
  have hc' : c = x0 ∨ c = x1 := by simpa using hc
  obtain ⟨_, h0, h1⟩ := h
  rcases hc' with rfl | rfl
  · rcases h0 with rfl | rfl | rfl | rfl <;> decide
  · rcases h1 with rfl | rfl | rfl | rfl <;> decide
theorem ns_facts {vs : List Value} {l : List Int} (_ : IntsAre vs ([20, 63, 9, 102] ++ List.map (fun k' : Int => k'.fmod (10 ^ Int.toNat 6)) (List.take 8 l))) :
    4 ≤ ([20, 63, 9, 102] ++ List.map (fun k' : Int => k'.fmod (10 ^ Int.toNat 6)) (List.take 8 l)).length ∧ ([20, 63, 9, 102] ++ List.map (fun k' : Int => k'.fmod (10 ^ Int.toNat 6)) (List.take 8 l)).length ≤ 12 ∧
    ∀ v ∈ [20, 63, 9, 102] ++ List.map (fun k' : Int => k'.fmod (10 ^ Int.toNat 6)) (List.take 8 l), 0 ≤ v := by
  refine ⟨by simp, by simp; omega, fun v hv => ?_⟩
  rcases List.mem_append.mp hv with hv | hv
  · simp at hv; omega
  · obtain ⟨k, _, rfl⟩ := List.mem_map.mp hv
    rw [Int.fmod_eq_emod_of_nonneg k (by decide)]
    exact Int.emod_nonneg _ (by decide)
section
variable {prog : Program} {w : World} {A : Around} {E : Value → Shared → Prop} {s : Shared}
theorem marks_item {value slice : Expr} {l : Addr} {t0 t1 t2 t3 t4 t5 u : Tok} {k : Int} {Q : Value → Shared → Prop}
    (hl : s.heap.IsList l #[.str (Str.ofString "\" ") t0, .str (Str.ofString "\\\"") t1, .str (Str.ofString " \\") t2, .str (Str.ofString "\"\\") t3, .str (Str.ofString "\n\"") t4, .str (Str.ofString "\\\n") t5])
    (h0 : 0 ≤ k) (h6 : k < 6) (h : ∀ x0 x1 t, MkOk x0 x1 → Q (.str (txt [x0, x1]) t) s)
    (hs : subscripted slice false (.ref l) (.int k u) = operate [.ref l, .int k u] (getItem (.ref l) (.int k u)) := by with_unfolding_all rfl) :
    wpAny (model prog w) A (subscriptTail value slice (.ref l) (.int k u)) Q E s := by
  have go : ∀ (j : Nat) (y : Str) (x0 x1 : Nat) (t : Tok), k = (j : Int) → (#[Value.str (Str.ofString "\" ") t0, .str (Str.ofString "\\\"") t1, .str (Str.ofString " \\") t2, .str (Str.ofString "\"\\") t3, .str (Str.ofString "\n\"") t4, .str (Str.ofString "\\\n") t5] : Array Value)[j]? = some (.str y t) → y = txt [x0, x1] → MkOk x0 x1 →
      wpAny (model prog w) A (subscriptTail value slice (.ref l) (.int k u)) Q E s := by
    intro j y x0 x1 t hk hj hy hM
    exact tail_any hl.typeIs slot_list_getitem.lookup (wpAny_getItem_list hl h0 (by omega) (by rw [hk, Int.toNat_natCast]; exact hj) (by rw [hy]; exact h x0 x1 t hM)) hs
  obtain ⟨j, rfl⟩ := Int.eq_ofNat_of_zero_le h0
  have hk := (by decide : ∀ j : Nat, j < 6 → j = 0 ∨ j = 1 ∨ j = 2 ∨ j = 3 ∨ j = 4 ∨ j = 5) j (Int.ofNat_lt.mp h6)
  rcases hk with rfl | rfl | rfl | rfl | rfl | rfl
  · exact go 0 _ _ _ t0 rfl rfl mk0 (by unfold MkOk; decide)
  · exact go 1 _ _ _ t1 rfl rfl mk1 (by unfold MkOk; decide)
  · exact go 2 _ _ _ t2 rfl rfl mk2 (by unfold MkOk; decide)
  · exact go 3 _ _ _ t3 rfl rfl mk3 (by unfold MkOk; decide)
  · exact go 4 _ _ _ t4 rfl rfl mk4 (by unfold MkOk; decide)
  · exact go 5 _ _ _ t5 rfl rfl mk5 (by unfold MkOk; decide)
end

theorem trans2 (f0 f1 g0 g1 : UInt8) (c : UInt8) : (transTab #[f0, f1] #[g0, g1]).getD c.toNat c = if c = f1 then g1 else if c = f0 then g0 else c := by
  have hc := c.toNat_lt
  have h0 := f0.toNat_lt
  have h1 := f1.toNat_lt
  unfold transTab
  simp only [List.zip_cons_cons, List.zip_nil_right, List.foldl_cons, List.foldl_nil]
  rw [Array.getD_eq_getD_getElem?]
  rw [Array.getElem?_setIfInBounds, Array.getElem?_setIfInBounds]
  simp only [Array.size_setIfInBounds, Array.size_map, Array.size_range]
  by_cases e1 : f1.toNat = c.toNat
  · have e1' : c = f1 := UInt8.toNat_inj.mp e1.symm
    rw [if_pos e1, if_pos (by omega), if_pos e1']; rfl
  · have e1' : ¬ c = f1 := fun q => e1 (by rw [q])
    rw [if_neg e1, if_neg e1']
    by_cases e0 : f0.toNat = c.toNat
    · have e0' : c = f0 := UInt8.toNat_inj.mp e0.symm
      rw [if_pos e0, if_pos (by omega), if_pos e0']; rfl
    · have e0' : ¬ c = f0 := fun q => e0 (by rw [q])
      rw [if_neg e0, if_neg e0']
      simp [hc]
noncomputable def nmC (i : Int) : Nat := (b64c i).toNat
noncomputable def nameL (x0 x1 : Nat) (ns : List Int) (k : Nat) : List Nat :=
  [if ns.getD k 0 % 8 < 4 then x0 else x1, nmC (ns.getD k 0 % 4 * 16 + k), nmC (ns.getD k 0 / 8 % 16 * 4), 61]
theorem nmC_all : ∀ i : Fin 62, nmC (i.val : Int) ≠ 43 ∧ nmC (i.val : Int) ≠ 47 ∧ nmC (i.val : Int) ≠ 61 ∧ nmC (i.val : Int) ≠ 34 ∧ nmC (i.val : Int) ≠ 92 ∧ nmC (i.val : Int) ≠ 32 ∧ nmC (i.val : Int) ≠ 10 ∧ nmC (i.val : Int) ≠ 9 ∧ nmC (i.val : Int) ≠ 13 ∧ nmC (i.val : Int) < 128 ∧ b64v (nmC (i.val : Int) : Int) = i.val := by decide +kernel
theorem nmC_at {i : Int} (h0 : 0 ≤ i) (h1 : i < 62) : nmC i ≠ 43 ∧ nmC i ≠ 47 ∧ nmC i ≠ 61 ∧ nmC i ≠ 34 ∧ nmC i ≠ 92 ∧ nmC i ≠ 32 ∧ nmC i ≠ 10 ∧ nmC i ≠ 9 ∧ nmC i ≠ 13 ∧ nmC i < 128 ∧ b64v (nmC i : Int) = i := by
  have := nmC_all ⟨i.toNat, by omega⟩
  rwa [show ((⟨i.toNat, by omega⟩ : Fin 62).val : Int) = i from by simp; omega] at this
theorem encL2o {a b : Int} (ha0 : 0 ≤ a) (ha : a < 256) (hb0 : 0 ≤ b) (hb : b < 256) : encL [a, b] = [b64c (a / 4), b64c (a % 4 * 16 + b / 16), b64c (b % 16 * 4), 61] := by
  have o := ((EncOk.nil).s0 ha0 ha).s2 hb0 hb
  have e := encL4 o
  rw [show ([] ++ [a] ++ [b] : List Int) = [a, b] from rfl] at e
  rw [e]
  have e1 : ((0 : Int) * 256 + a) % 65536 = a := by omega
  have e2 : a / 4 % 64 = a / 4 := by omega
  have e0 : (a * 256 + b) % 65536 = a * 256 + b := Int.emod_eq_of_lt (Int.add_nonneg (Int.mul_nonneg ha0 (by decide)) hb0) (by omega)
  have f1 : (a * 256 + b) / 16 = b / 16 + a * 16 := by rw [Int.add_comm, show a * 256 = 16 * (a * 16) from by rw [Int.mul_comm 16, Int.mul_assoc]; rfl, Int.add_mul_ediv_left _ _ (by decide)]
  have e3 : (a * 256 + b) % 65536 / 16 % 64 = a % 4 * 16 + b / 16 := by rw [e0, f1]; omega
  have e4 : (a * 256 + b) % 65536 % 16 * 4 = b % 16 * 4 := by rw [e0, Int.add_comm, show a * 256 = 16 * (a * 16) from by rw [Int.mul_comm 16, Int.mul_assoc]; rfl, Int.add_mul_emod_self_left]
  rw [e1, e2, e3, e4]; rfl
theorem toB_txt (l : List Nat) : toB (txt l) = (l.map Nat.toUInt8).toArray := by simp [toB]
theorem u8ne {a b : Nat} (ha : a < 256) (hb : b < 256) (h : a ≠ b) : a.toUInt8 ≠ b.toUInt8 := fun e => by
  have e1 := congrArg UInt8.toNat e
  simp only [Nat.toUInt8_eq, UInt8.toNat_ofNat'] at e1
  omega
theorem bInts_row {ns : List Int} {k : Nat} (hk : k < 16) : KBw.bInts (rowB ns k) = rowI ns k := by
  unfold rowB
  refine PySem.W.KBa.ints_make ?_
  unfold rowI
  intro n hn
  rcases List.mem_cons.mp hn with rfl | hn
  · omega
  · have := List.mem_singleton.mp hn; omega
theorem enc_row {ns : List Int} {k : Nat} (hk : k < 12) : encL (KBw.bInts (rowB ns k)) = [if ns.getD k 0 % 8 < 4 then 43 else 47, b64c (ns.getD k 0 % 4 * 16 + k), b64c (ns.getD k 0 / 8 % 16 * 4), 61] := by
  rw [bInts_row (by omega)]
  unfold rowI
  generalize ns.getD k 0 = v
  rw [encL2o (by omega) (by omega) (by omega) (by omega)]
  have e1 : (248 + v % 8) / 4 = if v % 8 < 4 then 62 else 63 := by split <;> omega
  have q0 : 0 ≤ v / 8 % 16 := Int.emod_nonneg _ (by decide)
  have q1 : v / 8 % 16 < 16 := Int.emod_lt_of_pos _ (by decide)
  have r1 : (248 + v % 8) % 4 = v % 4 := by rw [Int.add_emod, Int.emod_emod_of_dvd v (by decide : (4 : Int) ∣ 8), show (248 : Int) % 4 = 0 from rfl, Int.zero_add, Int.emod_emod]
  have e2 : (248 + v % 8) % 4 * 16 + (16 * (k : Int) + v / 8 % 16) / 16 = v % 4 * 16 + k := by rw [r1, Int.add_comm (16 * (k : Int)), Int.add_mul_ediv_left _ _ (by decide), Int.ediv_eq_zero_of_lt q0 q1, Int.zero_add]
  have e3 : (16 * (k : Int) + v / 8 % 16) % 16 * 4 = v / 8 % 16 * 4 := by rw [Int.add_comm (16 * (k : Int)), Int.add_mul_emod_self_left, Int.emod_eq_of_lt q0 q1]
  rw [e1, e2, e3]
  split
  · rw [show b64c 62 = 43 from by decide +kernel]
  · rw [show b64c 63 = 47 from by decide +kernel]
theorem at_of {v : Int} {k : Nat} (hk : k < 12) : (0 ≤ v % 4 * 16 + (k : Int) ∧ v % 4 * 16 + (k : Int) < 62) ∧ (0 ≤ v / 8 % 16 * 4 ∧ v / 8 % 16 * 4 < 62) := by omega
noncomputable def sub1 (f0 f1 g0 g1 c : Nat) : Nat := if c = f1 then g1 else if c = f0 then g0 else c
theorem trans_txt {f0 f1 g0 g1 : Nat} (h0 : f0 < 256) (h1 : f1 < 256) {l : List Nat} (h : ∀ c ∈ l, c < 256) :
    trans (transTab (toB (txt [f0, f1])) (toB (txt [g0, g1]))) (toB (txt l)) = toB (txt (l.map (sub1 f0 f1 g0 g1))) := by
  rw [toB_txt, toB_txt, toB_txt, toB_txt]
  unfold trans
  rw [List.map_toArray, List.map_map, List.map_map]
  congr 1
  refine List.map_congr_left fun c hc => ?_
  have hc := h c hc
  show (transTab #[f0.toUInt8, f1.toUInt8] #[g0.toUInt8, g1.toUInt8]).getD c.toUInt8.toNat c.toUInt8 = (sub1 f0 f1 g0 g1 c).toUInt8
  rw [trans2]
  unfold sub1
  by_cases e1 : c = f1
  · rw [if_pos (by rw [e1]), if_pos e1]
  · rw [if_neg (u8ne hc h1 e1), if_neg e1]
    by_cases e0 : c = f0
    · rw [if_pos (by rw [e0]), if_pos e0]
    · rw [if_neg (u8ne hc h0 e0), if_neg e0]
theorem b64sig : #[43, 47] = toB (txt [43, 47]) := by rw [toB_txt]; rfl
theorem byteArr_txt (l : List Int) : byteArr l = toB (txt (l.map Int.toNat)) := by rw [toB_txt, List.map_map]; rfl
theorem enc_name {x0 x1 : Nat} (hM : MkOk x0 x1) {ns : List Int} {k : Nat} (hk : k < 12) :
    trans (transTab #[43, 47] (toB (txt [x0, x1]))) (byteArr (encL (KBw.bInts (rowB ns k)))) = toB (txt (nameL x0 x1 ns k)) := by
  rw [enc_row hk]
  unfold nameL
  generalize ns.getD k 0 = v
  obtain ⟨a1, a2⟩ := @at_of v k hk
  have b1 := nmC_at a1.1 a1.2
  have b2 := nmC_at a2.1 a2.2
  rw [b64sig, byteArr_txt]
  have e : List.map Int.toNat [if v % 8 < 4 then (43 : Int) else 47, b64c (v % 4 * 16 + (k : Int)), b64c (v / 8 % 16 * 4), 61] = [if v % 8 < 4 then 43 else 47, nmC (v % 4 * 16 + (k : Int)), nmC (v / 8 % 16 * 4), 61] := by
    by_cases hv : v % 8 < 4
    · rw [if_pos hv, if_pos hv]; rfl
    · rw [if_neg hv, if_neg hv]; rfl
  rw [e]
  generalize nmC (v % 4 * 16 + (k : Int)) = y1 at b1
  generalize nmC (v / 8 % 16 * 4) = y2 at b2
  clear e
  rw [trans_txt (by decide) (by decide)]
  · congr 2
    rw [List.map_cons, List.map_cons, List.map_cons, List.map_cons, List.map_nil]
    unfold sub1
    by_cases hv : v % 8 < 4
    · rw [if_pos hv, if_pos hv, if_neg (by decide), if_pos rfl, if_neg b1.2.1, if_neg b1.1, if_neg b2.2.1, if_neg b2.1]; rfl
    · rw [if_neg hv, if_neg hv, if_pos rfl, if_neg b1.2.1, if_neg b1.1, if_neg b2.2.1, if_neg b2.1]; rfl
  · refine List.forall_mem_cons.mpr ⟨?_, List.forall_mem_cons.mpr ⟨Nat.lt_trans b1.2.2.2.2.2.2.2.2.2.1 (by decide), List.forall_mem_cons.mpr ⟨Nat.lt_trans b2.2.2.2.2.2.2.2.2.2.1 (by decide), List.forall_mem_cons.mpr ⟨by decide, List.forall_mem_nil _⟩⟩⟩⟩
    split <;> decide
theorem sg {x : Nat} (h : x = 34 ∨ x = 92 ∨ x = 32 ∨ x = 10) : x < 128 ∧ x ≠ 9 ∧ x ≠ 13 := by
  rcases h with rfl | rfl | rfl | rfl <;> decide
theorem name_each {x0 x1 : Nat} (hM : MkOk x0 x1) {ns : List Int} {k : Nat} (hk : k < 12) : ∀ c ∈ nameL x0 x1 ns k, c < 128 ∧ c ≠ 9 ∧ c ≠ 13 := by
  unfold nameL
  generalize ns.getD k 0 = v
  obtain ⟨a1, a2⟩ := @at_of v k hk
  have b1 := nmC_at a1.1 a1.2
  have b2 := nmC_at a2.1 a2.2
  refine List.forall_mem_cons.mpr ⟨?_, List.forall_mem_cons.mpr ⟨⟨b1.2.2.2.2.2.2.2.2.2.1, b1.2.2.2.2.2.2.2.1, b1.2.2.2.2.2.2.2.2.1⟩, List.forall_mem_cons.mpr ⟨⟨b2.2.2.2.2.2.2.2.2.2.1, b2.2.2.2.2.2.2.2.1, b2.2.2.2.2.2.2.2.2.1⟩, List.forall_mem_cons.mpr ⟨by decide, List.forall_mem_nil _⟩⟩⟩⟩
  split
  · exact sg hM.2.1
  · exact sg hM.2.2
theorem nameL_ascii {x0 x1 : Nat} (hM : MkOk x0 x1) {ns : List Int} {k : Nat} (hk : k < 12) : ∀ c ∈ nameL x0 x1 ns k, c < 128 := fun c hc => (name_each hM hk c hc).1
theorem nameL_quiet {x0 x1 : Nat} (hM : MkOk x0 x1) {ns : List Int} {k : Nat} (hk : k < 12) : ∀ c ∈ nameL x0 x1 ns k, c ≠ 9 ∧ c ≠ 13 := fun c hc => (name_each hM hk c hc).2
theorem toB_asciiB {l : List Nat} (h : ∀ c ∈ l, c < 128) : AsciiB (toB (txt l)) := by
  intro c hc
  have : c ∈ (l.map Nat.toUInt8).toArray := by simpa [toB] using hc
  rw [List.mem_toArray] at this
  obtain ⟨n, hn, rfl⟩ := List.mem_map.mp this
  have := h n hn
  simp only [Nat.toUInt8_eq, UInt8.toNat_ofNat']
  omega
theorem ofB_toB {l : List Nat} (h : ∀ c ∈ l, c < 128) : ofB (toB (txt l)) = txt l := by
  have e : ((toB (txt l)).map UInt8.toNat) = l.toArray := by
    rw [show toB (txt l) = (l.map Nat.toUInt8).toArray from by simp [toB], List.map_toArray, List.map_map]
    congr 1
    conv => rhs; rw [← List.map_id l]
    refine List.map_congr_left fun n hn => ?_
    have := h n hn
    simp only [Function.comp, Nat.toUInt8_eq, UInt8.toNat_ofNat', id]
    omega
  unfold ofB
  rw [e]
theorem toB_len (l : List Nat) : (toB (txt l)).size = l.length := by rw [toB_size, txt_len]
theorem mk_ne {x0 x1 y : Nat} (hM : MkOk x0 x1) (h1 : y ≠ 34) (h2 : y ≠ 92) (h3 : y ≠ 32) (h4 : y ≠ 10) : y ≠ x0 ∧ y ≠ x1 := by
  obtain ⟨-, h5, h6⟩ := hM
  have key : ∀ x, (x = 34 ∨ x = 92 ∨ x = 32 ∨ x = 10) → y ≠ x := fun x h e => h.elim (fun h => h1 (e.trans h)) fun h => h.elim (fun h => h2 (e.trans h)) fun h => h.elim (fun h => h3 (e.trans h)) fun h => h4 (e.trans h)
  exact ⟨key _ h5, key _ h6⟩
theorem dec_name {x0 x1 : Nat} (hM : MkOk x0 x1) {ns : List Int} {k : Nat} (hk : k < 12) :
    trans (transTab (toB (txt [x0, x1])) #[43, 47]) (toB (txt (nameL x0 x1 ns k))) = #[if ns.getD k 0 % 8 < 4 then 43 else 47, (nmC (ns.getD k 0 % 4 * 16 + k)).toUInt8, (nmC (ns.getD k 0 / 8 % 16 * 4)).toUInt8, 61] := by
  have hA := nameL_ascii hM (ns := ns) hk
  unfold nameL at hA ⊢
  generalize ns.getD k 0 = v at hA ⊢
  obtain ⟨a1, a2⟩ := @at_of v k hk
  have b1 := nmC_at a1.1 a1.2
  have b2 := nmC_at a2.1 a2.2
  generalize nmC (v % 4 * 16 + (k : Int)) = y1 at b1 hA ⊢
  generalize nmC (v / 8 % 16 * 4) = y2 at b2 hA ⊢
  have x0l : x0 < 256 := by have := hM.2.1; omega
  have x1l : x1 < 256 := by have := hM.2.2; omega
  have n1 := mk_ne hM b1.2.2.2.1 b1.2.2.2.2.1 b1.2.2.2.2.2.1 b1.2.2.2.2.2.2.1
  have n2 := mk_ne hM b2.2.2.2.1 b2.2.2.2.2.1 b2.2.2.2.2.2.1 b2.2.2.2.2.2.2.1
  have n3 := mk_ne (y := 61) hM (by decide) (by decide) (by decide) (by decide)
  have n4 := hM.1
  clear b1 b2 a1 a2
  rw [b64sig, trans_txt x0l x1l (fun c hc => Nat.lt_trans (hA c hc) (by decide))]
  rw [List.map_cons, List.map_cons, List.map_cons, List.map_cons, List.map_nil]
  rw [toB_txt]
  unfold sub1
  rw [if_neg n1.2, if_neg n1.1, if_neg n2.2, if_neg n2.1, if_neg n3.2, if_neg n3.1]
  by_cases hv : v % 8 < 4
  · rw [if_pos hv, if_pos hv, if_neg n4, if_pos rfl]; rfl
  · rw [if_neg hv, if_neg hv, if_pos rfl]; rfl
theorem u8nat {y : Nat} (h : y < 128) : (y.toUInt8.toNat : Int) = (y : Int) := by
  simp only [Nat.toUInt8_eq, UInt8.toNat_ofNat']
  omega
theorem dec_at {v : Int} {k : Nat} (hk : k < 12) :
    (b64v (((if v % 8 < 4 then 43 else 47 : UInt8).toNat : Nat) : Int) = (if v % 8 < 4 then 62 else 63) ∧ (((if v % 8 < 4 then 43 else 47 : UInt8).toNat : Nat) : Int) ≠ 61 ∧ (0 : Int) ≤ (if v % 8 < 4 then 62 else 63) ∧ (if v % 8 < 4 then 62 else 63 : Int) < 64) ∧
    (b64v ((nmC (v % 4 * 16 + k)).toUInt8.toNat : Int) = v % 4 * 16 + k ∧ ((nmC (v % 4 * 16 + k)).toUInt8.toNat : Int) ≠ 61 ∧ 0 ≤ v % 4 * 16 + (k : Int) ∧ v % 4 * 16 + (k : Int) < 64) ∧
    (b64v ((nmC (v / 8 % 16 * 4)).toUInt8.toNat : Int) = v / 8 % 16 * 4 ∧ ((nmC (v / 8 % 16 * 4)).toUInt8.toNat : Int) ≠ 61 ∧ 0 ≤ v / 8 % 16 * 4 ∧ v / 8 % 16 * 4 < 64) := by
  obtain ⟨a1, a2⟩ := @at_of v k hk
  have b1 := nmC_at a1.1 a1.2
  have b2 := nmC_at a2.1 a2.2
  refine ⟨?_, ⟨?_, ?_, a1.1, Int.lt_trans a1.2 (by decide)⟩, ⟨?_, ?_, a2.1, Int.lt_trans a2.2 (by decide)⟩⟩
  · by_cases hv : v % 8 < 4
    · rw [if_pos hv, if_pos hv]; decide +kernel
    · rw [if_neg hv, if_neg hv]; decide +kernel
  · rw [u8nat b1.2.2.2.2.2.2.2.2.2.1]; exact b1.2.2.2.2.2.2.2.2.2.2
  · rw [u8nat b1.2.2.2.2.2.2.2.2.2.1]; exact fun e => b1.2.2.1 (Int.ofNat.inj e)
  · rw [u8nat b2.2.2.2.2.2.2.2.2.2.1]; exact b2.2.2.2.2.2.2.2.2.2.2
  · rw [u8nat b2.2.2.2.2.2.2.2.2.2.1]; exact fun e => b2.2.2.1 (Int.ofNat.inj e)
theorem dec_row {ns : List Int} {k : Nat} (hk : k < 12) : byteArr [(if ns.getD k 0 % 8 < 4 then 62 else 63) * 4 + (ns.getD k 0 % 4 * 16 + k) / 16, (ns.getD k 0 % 4 * 16 + (k : Int)) % 16 * 16 + (ns.getD k 0 / 8 % 16 * 4) / 4] = rowB ns k := by
  unfold rowB rowI
  generalize ns.getD k 0 = v
  have e1 : (if v % 8 < 4 then 62 else 63) * 4 + (v % 4 * 16 + (k : Int)) / 16 = 248 + v % 8 := by split <;> omega
  have e2 : (v % 4 * 16 + (k : Int)) % 16 * 16 + (v / 8 % 16 * 4) / 4 = 16 * (k : Int) + v / 8 % 16 := by rw [Int.mul_ediv_cancel _ (by decide), Int.add_comm (v % 4 * 16), Int.add_mul_emod_self_right, Int.emod_eq_of_lt (Int.natCast_nonneg k) (by omega), Int.mul_comm]
  rw [e1, e2]
theorem nameL_inj {x0 x1 : Nat} {ns : List Int} {i j : Nat} (hi : i < 12) (hj : j < 12) (h : nameL x0 x1 ns i = nameL x0 x1 ns j) : i = j := by
  unfold nameL at h
  injection h with _ h
  injection h with h _
  obtain ⟨a1, -⟩ := @at_of (ns.getD i 0) i hi
  obtain ⟨a2, -⟩ := @at_of (ns.getD j 0) j hj
  have b1 := (nmC_at a1.1 a1.2).2.2.2.2.2.2.2.2.2.2
  have b2 := (nmC_at a2.1 a2.2).2.2.2.2.2.2.2.2.2.2
  rw [h] at b1
  omega
end
section
open PySem PySem.W PyProof.Rows PySem.Calls
set_option Elab.async false
set_option maxRecDepth 100000
set_option linter.all false

set_option genInjectivity false
set_option genSizeOf false
local macro_rules | `(tactic| o_head 19) => `(tactic| first | assumption | exact zc1 ‹_› | exact zc2 ‹_› | exact zc3 ‹_› | exact zc4 ‹_› | exact zc5 ‹_› | exact zc6 ‹_› | exact zc7 ‹_› | exact zc8 ‹_› | exact zc9 ‹_› | exact zc10 ‹_› | exact zc11 ‹_› | exact zc0 ‹_› ‹_›)
theorem small13 {n : Nat} (h : n ≤ 13) : Builtin.Range.small 0 (n : Int) 1 = true := by
  have a : ∀ i : Fin 14, Builtin.Range.small 0 ((i.val : Nat) : Int) 1 = true := by decide +kernel
  exact a ⟨n, by omega⟩
theorem rsize13 {n : Nat} (h : n ≤ 13) : Builtin.Range.rangeSize 0 (n : Int) 1 = (n : Int) := by
  have a : ∀ i : Fin 14, Builtin.Range.rangeSize 0 ((i.val : Nat) : Int) 1 = ((i.val : Nat) : Int) := by decide +kernel
  exact a ⟨n, by omega⟩
theorem lex_off0 {P : Params} {z : Lx} (Zl : @LT.lt Nat _ z.ct z.cg ∧ @LT.lt Nat _ z.cg z.e ∧ @LT.lt Nat _ z.e z.y ∧ @LT.lt Nat _ z.y z.k ∧ @LT.lt Nat _ z.k z.g ∧ @LT.lt Nat _ z.g z.f ∧ @LT.lt Nat _ z.f z.d ∧ @LT.lt Nat _ z.d z.x ∧ @LT.lt Nat _ z.x z.l) (hc : @LT.lt Nat _ z.g z.c ∧ @LT.lt Nat _ z.c z.f)
    {a : Addr} (h : @LT.lt Nat _ z.l a ∨ @LT.lt Nat _ a z.ct) : a ∉ (lexLed P z ++ [(z.c, z.oc)]).map (·.1) := by
  have key : ∀ b ∈ (lexLed P z ++ [(z.c, z.oc)]).map (·.1), @LE.le Nat _ z.ct b ∧ @LE.le Nat _ b z.l := by
    simp only [lexLed, List.cons_append, List.nil_append, List.map_cons, List.map_nil]
    repeat (refine List.forall_mem_cons.mpr ⟨⟨by first | exact Nat.le_refl _ | exact Nat.le_of_lt (by o_head 28) | omega, by first | exact Nat.le_refl _ | exact Nat.le_of_lt (by o_head 28) | omega⟩, ?_⟩)
    exact List.forall_mem_nil _
  intro hm
  have := key a hm
  omega
noncomputable def wordL (b : Bool) (l : List Nat) : List Nat := if b then 34 :: (escQ l ++ [34]) else escU l
noncomputable def sepC (k : Nat) : Nat := if k / 2 % 2 = 0 then 32 else 10
noncomputable def quoted (T : Int) (k : Nat) : Bool := ((T + (k : Int)).fmod 2 == 1)
noncomputable def pieceL (x0 x1 : Nat) (ns : List Int) (T : Int) (k : Nat) : List Nat := wordL (quoted T k) (nameL x0 x1 ns k) ++ [sepC k]
noncomputable def textL (x0 x1 : Nat) (ns : List Int) (T : Int) (i : Nat) : Nat → List Nat
  | 0 => []
  | n + 1 => pieceL x0 x1 ns T i ++ textL x0 x1 ns T (i + 1) n
theorem sep_ws (k : Nat) : Ws (sepC k) := by
  unfold Ws sepC; split <;> simp
theorem sep_item (i : Nat) : Txt.item (Str.ofString " \n") (((i : Int).fdiv 2).fmod 2) = txt [sepC i] := by
  rw [Int.fdiv_eq_ediv_of_nonneg _ (by decide), Int.fmod_eq_emod_of_nonneg _ (by decide)]
  unfold sepC
  rw [show (i : Int) / 2 % 2 = ((i / 2 % 2 : Nat) : Int) from rfl]
  rcases Nat.mod_two_eq_zero_or_one (i / 2) with h2 | h2
  · rw [h2]; kernel_rfl
  · rw [h2]; kernel_rfl
theorem wordL_len (b : Bool) (x0 x1 : Nat) (ns : List Int) (k : Nat) : (txt (wordL b (nameL x0 x1 ns k))).length ≤ 10 := by
  have h1 := escQ_len (nameL x0 x1 ns k)
  have h2 := escU_len (nameL x0 x1 ns k)
  have h3 : (nameL x0 x1 ns k).length = 4 := rfl
  rw [txt_len]
  unfold wordL
  split <;> simp <;> omega
theorem tk_piece {x0 x1 : Nat} (hM : MkOk x0 x1) {ns : List Int} {T : Int} {k : Nat} (hk : k < 12) (pre : List Nat) (hp : pre = [] ∨ ∃ c, pre = [c] ∧ Ws c) (r : List Nat) :
    ∃ pre', (pre' = [] ∨ ∃ c, pre' = [c] ∧ Ws c) ∧ Tk (pre ++ (pieceL x0 x1 ns T k ++ r)) (nameL x0 x1 ns k) (pre' ++ r) := by
  have key : ∃ pre', (pre' = [] ∨ ∃ c, pre' = [c] ∧ Ws c) ∧ Tk (pieceL x0 x1 ns T k ++ r) (nameL x0 x1 ns k) (pre' ++ r) := by
    unfold pieceL wordL
    by_cases hq : quoted T k = true
    · rw [if_pos hq]
      refine ⟨[sepC k], .inr ⟨_, rfl, sep_ws k⟩, ?_⟩
      have := Tk.q (nameL x0 x1 ns k) ([sepC k] ++ r)
      simpa using this
    · rw [if_neg hq]
      refine ⟨[], .inl rfl, ?_⟩
      have h9 := nameL_quiet hM (ns := ns) hk
      have hn : ∃ b body, nameL x0 x1 ns k = b :: body := ⟨_, _, rfl⟩
      obtain ⟨b, body, e⟩ := hn
      rw [e] at h9 ⊢
      have := Tk.u b body r (sepC k) (sep_ws k) h9
      simpa using this
  obtain ⟨pre', h1, h2⟩ := key
  refine ⟨pre', h1, ?_⟩
  rcases hp with rfl | ⟨c, rfl, hc⟩
  · exact h2
  · exact .s c _ _ _ hc h2
theorem tk_end (pre : List Nat) (hp : pre = [] ∨ ∃ c, pre = [c] ∧ Ws c) : Tk (pre ++ []) [] [] := by
  rcases hp with rfl | ⟨c, rfl, hc⟩
  · exact .e
  · exact .s c _ _ _ hc .e
theorem pieceL_len (x0 x1 : Nat) (ns : List Int) (T : Int) (k : Nat) : (pieceL x0 x1 ns T k).length ≤ 11 := by
  have h1 := escQ_len (nameL x0 x1 ns k)
  have h2 := escU_len (nameL x0 x1 ns k)
  have h3 : (nameL x0 x1 ns k).length = 4 := rfl
  unfold pieceL wordL
  split <;> simp <;> omega
theorem sum_piece (x0 x1 : Nat) (ns : List Int) (T : Int) : ∀ (l : List Nat), ((l.map fun k => txt (pieceL x0 x1 ns T k)).map Str.length).sum ≤ 11 * l.length
  | [] => by simp
  | k :: l => by
    have h1 := sum_piece x0 x1 ns T l
    have h2 := pieceL_len x0 x1 ns T k
    rw [List.map_cons, List.map_cons, List.sum_cons, txt_len, List.length_cons]; omega
theorem textL_len (x0 x1 : Nat) (ns : List Int) (T : Int) : ∀ (n i : Nat), (textL x0 x1 ns T i n).length ≤ 11 * n
  | 0, i => by simp [textL]
  | n + 1, i => by
    have h1 := textL_len x0 x1 ns T n (i + 1)
    have h2 := pieceL_len x0 x1 ns T i
    unfold textL
    rw [List.length_append]; omega
theorem textL_flat (x0 x1 : Nat) (ns : List Int) (T : Int) : ∀ (n i : Nat), textL x0 x1 ns T i n = ((List.range n).map fun k => pieceL x0 x1 ns T (i + k)).flatten
  | 0, i => by simp [textL]
  | n + 1, i => by
    unfold textL
    rw [textL_flat x0 x1 ns T n (i + 1), List.range_succ_eq_map, List.map_cons, List.flatten_cons, List.map_map]
    congr 2
    refine List.map_congr_left fun k _ => ?_
    show _ = pieceL x0 x1 ns T (i + (k + 1))
    rw [Nat.add_right_comm i 1 k, Nat.add_assoc]
theorem offN {P : Params} {z : Lx} {c : Gt} {tab : Addr × Obj} {R : List (Addr × Obj)} {I C D : Addr} (off : LCg.Off3 I C D ((z.c, z.oc) :: (lexLed P (c.lx z) ++ [tab]) ++ R)) :
    I ∉ (lexLed P (c.lx z) ++ [((c.lx z).c, (c.lx z).oc)]).map (·.1) ∧ C ∉ (lexLed P (c.lx z) ++ [((c.lx z).c, (c.lx z).oc)]).map (·.1) ∧ D ∉ (lexLed P (c.lx z) ++ [((c.lx z).c, (c.lx z).oc)]).map (·.1) := by
  have key : ∀ p ∈ lexLed P (c.lx z) ++ [((c.lx z).c, (c.lx z).oc)], p.1 ≠ I ∧ p.1 ≠ C ∧ p.1 ≠ D := by
    intro p hp
    refine off.mem p ?_
    rcases List.mem_append.mp hp with hp | hp
    · exact List.mem_append_left _ (.tail _ (List.mem_append_left _ hp))
    · rw [List.mem_singleton.mp hp]
      exact List.mem_append_left _ (.head _)
  refine ⟨fun hm => ?_, fun hm => ?_, fun hm => ?_⟩
  · obtain ⟨p, hp, e⟩ := List.mem_map.mp hm; exact (key p hp).1 e
  · obtain ⟨p, hp, e⟩ := List.mem_map.mp hm; exact (key p hp).2.1 e
  · obtain ⟨p, hp, e⟩ := List.mem_map.mp hm; exact (key p hp).2.2 e
theorem textL_step {x0 x1 : Nat} {ns : List Int} {T : Int} {i n : Nat} (h : i < n) : textL x0 x1 ns T i (n - i) = pieceL x0 x1 ns T i ++ textL x0 x1 ns T (i + 1) (n - (i + 1)) := by
  rw [show n - i = (n - (i + 1)) + 1 from by rw [Nat.sub_add_eq, Nat.sub_add_cancel (Nat.sub_pos_of_lt h)]]; rfl
theorem all8 {P : Addr × Obj → Prop} {a1 a2 a3 a4 a5 a6 a7 a8 : Addr × Obj} (h : ∀ p ∈ [a1, a2, a3, a4, a5, a6, a7, a8], P p) : P a1 ∧ P a2 ∧ P a3 ∧ P a4 ∧ P a5 ∧ P a6 ∧ P a7 ∧ P a8 := by simpa using h
theorem notin169 {a : Addr} {o : Obj} (h : @Ne Nat a 169) : a ∉ ([(169, o)] : List (Addr × Obj)).map (·.1) := by simpa using h
section
variable {w : World} {p : Program} {loose : List Str} {mean : ExcName → Option Value} {mg mb : Str → Option Value}
   {dp un : Nat} {gd : Option (List Code)} {cn : Str} {cs : Scope} {a : Addr} {ccd : Value} {cl : List (Str × Addr)} {outer : List Env} {A₀ : Around} {base h₀ : Heap} {L : Addr} {m : Str → Option Value} {rest : List (Addr × Obj)} {s : Shared}
   {Q E : Value → Shared → Prop}
   (B : Below A₀ base outer h₀) (F : Fr h₀ L s.heap m) (X : (hd.heap_1 w.params).In h₀) (N : News h₀ L s.heap rest) (T : Top p loose mean mg mb h₀) (hk : cs.kind = .function)
include B F X N T hk
theorem c_word {l : List Nat} {b : Bool} {t : Tok} (hd' : dp + 2 < recursionLimit) (hu : un + 16 < cLine) (hl : l.length ≤ 100) (ha : ∀ c ∈ l, c < 128)
    (hret : ∀ h' tk' t', Fr h₀ L h' m → News h₀ L h' rest → Q (.str (txt (wordL b l)) t') { s with heap := h', toks := tk' }) :
    wpAny (model PySem.Challenge.rw_qh0051_01.row.prog w) (ktrTop dp un gd cn cs L a ccd cl outer) (call (.ref 179) [.str (txt l) t, .bool b]) Q E s := by
  cases b with
  | true => exact c_word_true B F X N T hk hd' hu hl ha hret
  | false => exact c_word_false B F X N T hk hd' hu hl ha hret
end
end
section
open PySem PySem.W PyProof.Rows PySem.Calls PySem.SeqAt
set_option Elab.async false
set_option maxRecDepth 100000
set_option linter.all false

set_option genInjectivity false
set_option genSizeOf false
theorem item0 (a : Nat) (l : List Nat) : Txt.item (txt (a :: l)) 0 = txt [a] := by
  have e : seqIndex? 0 (txt (a :: l)).length = some 0 := by simp [seqIndex?, Str.length]
  simp [Txt.item, Txt.charAt, e]
theorem off1_mem {D : Addr} : ∀ {l : List (Addr × Obj)}, LCg.Off1 D l → ∀ p ∈ l, p.1 ≠ D
  | [], _, _, h => nomatch h
  | _ :: _, x, p, h => by
    rcases List.mem_cons.mp h with rfl | h
    · exact x.1
    · exact off1_mem x.2 p h
theorem offD {P : Params} {z : Lx} {c : Gt} {tab : Addr × Obj} {R : List (Addr × Obj)} {D : Addr} (off : LCg.Off1 D ((z.c, z.oc) :: (lexLed P (c.lx z) ++ [tab]) ++ R)) : D ∉ (lexLed P (c.lx z) ++ [((c.lx z).c, (c.lx z).oc)]).map (·.1) := by
  intro hm
  obtain ⟨p, hp, e⟩ := List.mem_map.mp hm
  refine off1_mem off p ?_ e
  rcases List.mem_append.mp hp with hp | hp
  · exact List.mem_append_left _ (.tail _ (List.mem_append_left _ hp))
  · rw [List.mem_singleton.mp hp]
    exact List.mem_append_left _ (.head _)
theorem cnt_count (l : List Nat) : cnt 10 l = ((l.count 10 : Nat) : Int) := by
  induction l with
  | nil => rfl
  | cons c r ih =>
    have e : cnt 10 (c :: r) = (if c = 10 then 1 else 0) + cnt 10 r := cnt_cons 10 c r
    rw [e, ih, List.count_cons]
    by_cases h : c = 10
    · subst h; simp; omega
    · simp [h]
theorem count10 (l : List Nat) : Txt.count (txt l) (Str.ofString "\n") = ((l.count 10 : Nat) : Int) := by
  rw [nl_txt, show (txt [10]) = (⟨#[10]⟩ : Str) from rfl, count_cnt]
  exact cnt_count l
theorem fmod256 {x : Int} : x.fmod 256 = x % 256 := Int.fmod_eq_emod_of_nonneg x (by decide)
theorem notin2 {a c : Addr} {o oc : Obj} (h1 : @Ne Nat a 169) (h2 : @Ne Nat a c) : a ∉ ([(169, o), (c, oc)] : List (Addr × Obj)).map (·.1) := by
  simp only [List.map_cons, List.map_nil, List.mem_cons, List.not_mem_nil, or_false, not_or]
  exact ⟨h1, h2⟩
theorem fdiv4 {x : Int} : x.fdiv 4 = x / 4 := Int.fdiv_eq_ediv_of_nonneg x (by decide)
section
variable {A : Around} {s : Shared}
theorem eqS (x : Str) (t u : Tok) : EqAt A s (.str x t) (.str x u) true := by
  have := EqAt.str_str (A := A) (s := s) x t x u
  rwa [beq_self_eq_true] at this
theorem eqI (x : Int) (t u : Tok) : EqAt A s (.int x t) (.int x u) true := by
  have := EqAt.int_int (A := A) (s := s) x t x u
  rwa [beq_self_eq_true] at this
theorem eqB (b : Array UInt8) (t u : Tok) : EqAt A s (.bytes b t) (.bytes b u) true := fun prog w E Q h => by
  unfold eqBool
  refine wpAny_holding ?_
  refine wpAny_ite_split (fun _ => ?_) (fun _ => ?_)
  · exact wpAny_bind (wpAny_rule (wpAny_pure h))
  · exact wpAny_bind (eq_bytes (by rw [beq_self_eq_true]; exact wpAny_truthy_bool h))
inductive Eq2 (A : Around) (s : Shared) : List Value → List Value → Prop
  | nil : Eq2 A s [] []
  | cons {v w vs ws} : EqAt A.in1 s v w true → Eq2 A s vs ws → Eq2 A s (v :: vs) (w :: ws)
theorem Eq2.length {vs ws : List Value} (h : Eq2 A s vs ws) : vs.length = ws.length := by
  induction h with
  | nil => rfl
  | cons _ _ ih => rw [List.length_cons, List.length_cons, ih]
theorem Eq2.get {vs ws : List Value} (h : Eq2 A s vs ws) : ∀ j (h1 : j < vs.length) (h2 : j < ws.length), EqAt A.in1 s vs[j] ws[j] true := by
  induction h with
  | nil => intro j h1; exact absurd h1 (Nat.not_lt_zero _)
  | cons e _ ih =>
    intro j h1 h2
    cases j with
    | zero => exact e
    | succ j => exact ih j (Nat.lt_of_succ_lt_succ h1) (Nat.lt_of_succ_lt_succ h2)
theorem Eq2.strs {vs ws : List Value} {xs : List Str} (h : StrsAre vs xs) (k : StrsAre ws xs) : Eq2 A s vs ws := by
  induction h generalizing ws with
  | nil => cases k; exact .nil
  | cons y t r ih =>
    cases k with
    | cons _ u q => exact .cons (eqS _ _ _) (ih q)
theorem Eq2.bs {vs ws : List Value} {xs : List (Array UInt8)} (h : BsAre vs xs) (k : BsAre ws xs) : Eq2 A s vs ws := by
  induction h generalizing ws with
  | nil => cases k; exact .nil
  | cons y t r ih =>
    cases k with
    | cons _ u q => exact .cons (eqB _ _ _) (ih q)
theorem all_true (n : Nat) : ((List.range n).all fun _ => true) = true := by rw [List.all_eq_true]; intro _ _; rfl
theorem eqL {a b : Addr} {vs ws : List Value} (hne : a ≠ b) (ha : s.heap.IsList a vs.toArray) (hb : s.heap.IsList b ws.toArray) (h : Eq2 A s vs ws) (hu : A.units < cLine) : EqAt A s (.ref a) (.ref b) true := by
  refine EqAt.of_refs hne ?_
  have := RcAt.lists (A := A) (s := s) (e := fun _ => true) ha hb (by simpa using h.length) hu (fun j h1 h2 => by simpa using h.get j (by simpa using h1) (by simpa using h2))
  rw [all_true] at this
  exact this
section
variable {prog : Program} {w : World} {E : Value → Shared → Prop} {Q : Value → Shared → Prop}
theorem ne_lists {a b : Addr} {vs ws : List Value} (ha : s.heap.IsList a vs.toArray) (hb : s.heap.IsList b ws.toArray) (h2 : Eq2 A s vs ws) (hu : A.units < cLine) (h : Q (.bool false) s) :
    wpAny (model prog w) A (compareOp .NotEq (.ref a) (.ref b)) Q E s := by
  refine PySem.EqBoolInt.of_rcne (k := false) ?_ h
  have := RcNeAt.lists (A := A) (s := s) (e := fun _ => true) ha hb (by simpa using h2.length) hu (fun j h1 h2' => by simpa using h2.get j (by simpa using h1) (by simpa using h2'))
  rw [all_true] at this
  exact this
theorem ne_tup2 {a b : Addr} {v1 v2 w1 w2 : Value} (ha : s.heap.IsTuple a #[v1, v2]) (hb : s.heap.IsTuple b #[w1, w2]) (e1 : EqAt A.in1 s v1 w1 true) (e2 : EqAt A.in1 s v2 w2 true) (hu : A.units < cLine) (h : Q (.bool false) s) :
    wpAny (model prog w) A (compareOp .NotEq (.ref a) (.ref b)) Q E s := by
  refine PySem.EqBoolInt.of_rcne (k := false) ?_ h
  have := RcNeAt.tuples (A := A) (s := s) (e := fun _ => true) ha hb hu (fun j h1 h2' => by
    rcases j with _ | _ | j
    · exact e1
    · exact e2
    · exact absurd h1 (Nat.not_lt.mpr (Nat.le_add_left 2 j)))
  rw [all_true] at this
  exact this
theorem mark_item {value slice : Expr} {x0 x1 : Nat} {i : Int} {tM ui : Tok} (l0 : x0 < 256) (l1 : x1 < 256) (h0 : 0 ≤ i) (h1 : i < 2)
    (h : ∀ t k, Q (.int (((if i = 0 then x0 else x1 : Nat) : Nat) : Int) t) { s with toks := k })
    (hs : ∀ b t, subscripted slice false (.bytes b t) (.int i ui) = operate [.bytes b t, .int i ui] (getItem (.bytes b t) (.int i ui)) := by intro _ _; with_unfolding_all rfl)
    (ht : ∀ b t r, letTemporaryGo value (.bytes b t) r = pure () := by intro _ _ _; with_unfolding_all rfl) :
    wpAny (model prog w) A (subscriptTail value slice (.bytes (toB (txt [x0, x1])) tM) (.int i ui)) Q E s := by
  rw [toB_txt]
  refine KBy.item_N (x := [x0, x1].map Nat.toUInt8) (by simp) h0 (by simpa using h1) ?_ (hs _ _) (ht _ _)
  have hi : i = 0 ∨ i = 1 := by omega
  have e : ((([x0, x1].map Nat.toUInt8).getD i.toNat 0).toNat : Int) = (((if i = 0 then x0 else x1 : Nat) : Nat) : Int) := by
    rcases hi with rfl | rfl
    · show ((x0.toUInt8.toNat : Nat) : Int) = (x0 : Int)
      simp only [Nat.toUInt8_eq, UInt8.toNat_ofNat']; omega
    · show ((x1.toUInt8.toNat : Nat) : Int) = (x1 : Int)
      simp only [Nat.toUInt8_eq, UInt8.toNat_ofNat']; omega
  rw [e]
  exact h _ _
end
end
end
section
open PySem PySem.W PyProof.Rows PySem.Calls
set_option Elab.async false
set_option maxRecDepth 100000
set_option linter.all false
set_option genInjectivity false
set_option genSizeOf false
theorem ltc_iff : ∀ a b : List Nat, Spec.ltCps a b = true ↔ a < b
  | [], [] => by simp [Spec.ltCps]
  | [], b :: t => by simp [Spec.ltCps]
  | a :: r, [] => by simp [Spec.ltCps]
  | a :: r, b :: t => by
    rw [List.cons_lt_cons_iff, ← ltc_iff r t]
    simp [Spec.ltCps]
theorem le_of_ltc {x y : Str} (h : Spec.ltCps x.cps.toList y.cps.toList = false) : ¬ tlt x y := fun h' => by
  rw [(ltc_iff _ _).mpr h'] at h
  cases h
theorem rising_pw : ∀ (l : List Str) (p : Str), risingS p l = true → (p :: l).Pairwise fun a b => ¬ tlt b a
  | [], p, _ => List.pairwise_singleton _ _
  | x :: r, p, h => by
    have h1 : (!Spec.ltCps x.cps.toList p.cps.toList && risingS x r) = true := h
    rw [Bool.and_eq_true] at h1
    have h2 := rising_pw r x h1.2
    have hxp : ¬ tlt x p := le_of_ltc (by simpa using h1.1)
    refine List.pairwise_cons.mpr ⟨fun y hy => ?_, h2⟩
    rcases List.mem_cons.mp hy with rfl | hy
    · exact hxp
    · have h3 : ¬ tlt y x := (List.pairwise_cons.mp h2).1 y hy
      intro h4
      exact List.not_lt.mpr (List.le_trans (List.not_lt.mp hxp) (List.not_lt.mp h3)) h4
theorem sorted_rise {ss : List Str} (h : sortedS ss = true) (hn : ss.Nodup) : Rise ss := by
  have h1 : ss.Pairwise fun a b => ¬ tlt b a := by
    cases ss with
    | nil => exact .nil
    | cons x r => exact rising_pw r x h
  refine List.Pairwise.imp (fun {a b} hab => ?_) (List.Pairwise.and h1 hn)
  rcases Decidable.em (tlt a b) with h2 | h2
  · exact h2
  · exact absurd (tlt_eq h2 hab.1) hab.2
theorem rise_ext : ∀ {a b : List Str}, Rise a → Rise b → (∀ x, x ∈ a ↔ x ∈ b) → a = b
  | [], [], _, _, _ => rfl
  | [], y :: t, _, _, h => nomatch (h y).mpr (.head _)
  | x :: r, [], _, _, h => nomatch (h x).mp (.head _)
  | x :: r, y :: t, ha, hb, h => by
    have a1 := List.pairwise_cons.mp ha
    have b1 := List.pairwise_cons.mp hb
    have e : x = y := by
      rcases List.mem_cons.mp ((h x).mp (.head _)) with e | hx
      · exact e
      · rcases List.mem_cons.mp ((h y).mpr (.head _)) with e | hy
        · exact e.symm
        · exact absurd (tlt_trans (a1.1 y hy) (b1.1 x hx)) (tlt_irr x)
    subst e
    refine congrArg (x :: ·) (rise_ext a1.2 b1.2 fun z => ⟨fun hz => ?_, fun hz => ?_⟩)
    · rcases List.mem_cons.mp ((h z).mp (.tail _ hz)) with rfl | hz'
      · exact absurd (a1.1 z hz) (tlt_irr z)
      · exact hz'
    · rcases List.mem_cons.mp ((h z).mpr (.tail _ hz)) with rfl | hz'
      · exact absurd (b1.1 z hz) (tlt_irr z)
      · exact hz'
theorem dif_rise {a b : List Str} (h : Rise a) : Rise (dif a b) := List.Pairwise.sublist List.filter_sublist h
theorem dif_mem {a b : List Str} {x : Str} : x ∈ dif a b ↔ x ∈ a ∧ x ∉ b := by simp [dif]
theorem told_line {e n : Nat} (he : e = 2 ∨ e = 4) (h4 : 4 ≤ n) (h12 : n ≤ 12) : told e n = (gAt e n (List.range n)).map fun k : Nat => (k : Int) := by
  have key : ∀ n : Fin 13, 4 ≤ n.val → told 2 n.val = (gAt 2 n.val (List.range n.val)).map (fun k : Nat => (k : Int)) ∧ told 4 n.val = (gAt 4 n.val (List.range n.val)).map fun k : Nat => (k : Int) := by decide +kernel
  have := key ⟨n, by omega⟩ h4
  rcases he with rfl | rfl
  · exact this.1
  · exact this.2
theorem line_perm (e n : Nat) : (gAt e n (List.range n)).Perm (List.range n) := by
  have h := gq_perm e n (List.range n)
  have h3 : qAt e n (List.range n) = [] := List.eq_nil_of_length_eq_zero (by rw [qAt_length, List.length_range]; omega)
  rwa [h3, List.append_nil] at h
theorem line_drop (e n t : Nat) (h : t ≤ n) : ((gAt e n (List.range n)).drop t).Perm (qAt e t (List.range n)) := by
  have := gAt_drop e t (List.range n) (by rw [List.length_range]; exact h)
  rwa [List.length_range] at this
theorem line_nodup (e n : Nat) : (gAt e n (List.range n)).Nodup := (line_perm e n).nodup_iff.mpr List.nodup_range
theorem line_lt {e n k : Nat} (h : k ∈ gAt e n (List.range n)) : k < n := List.mem_range.mp ((line_perm e n).mem_iff.mp h)
section
variable {n : Nat} {f : Nat → Str}
theorem map_nodup : ∀ {l : List Nat}, l.Nodup → (∀ i ∈ l, ∀ j ∈ l, f i = f j → i = j) → (l.map f).Nodup
  | [], _, _ => .nil
  | x :: r, h, hi => by
    have h1 := List.nodup_cons.mp h
    rw [List.map_cons]
    refine List.nodup_cons.mpr ⟨fun hm => ?_, map_nodup h1.2 fun i a j b => hi i (.tail _ a) j (.tail _ b)⟩
    obtain ⟨y, hy, e⟩ := List.mem_map.mp hm
    exact h1.1 (hi y (.tail _ hy) x (.head _) e ▸ hy)
theorem selA_line (a b : List Nat) (h : ∀ k ∈ a, k < n) : selA ((List.range n).map f) (a.map fun k : Nat => (k : Int)) (b.map fun k : Nat => (k : Int)) = (a.filter fun k => decide (k ∈ b)).map f := by
  induction a with
  | nil => rfl
  | cons k r ih =>
    have hk := h k (.head _)
    rw [List.map_cons, ← List.singleton_append, selA_app, ih fun j hj => h j (.tail _ hj)]
    by_cases hm : k ∈ b
    · rw [List.filter_cons_of_pos (by simpa using hm), List.map_cons, selA_in (x := f k) (by simpa using ⟨k, hm, rfl⟩) (by simp [hk])]
      rfl
    · rw [List.filter_cons_of_neg (by simpa using hm), selA_out (by simp only [List.any_map, Bool.eq_false_iff, ne_eq, List.any_eq_true, not_exists]; rintro x ⟨hx, e⟩; have : x = k := by have e9 := eq_of_beq e; exact Int.ofNat.inj e9
                                                                    exact hm (this ▸ hx))]
      rfl
theorem wait_rise {e t : Nat} (inj : ∀ i j, i < n → j < n → f i = f j → i = j) (ht : t ≤ n) {X : List Str} (hX : X.Perm (qAt e t ((List.range n).map f))) (sX : sortedS X = true) :
    Rise X ∧ ∀ x, x ∈ X ↔ ∃ k, k ∈ (gAt e n (List.range n)).drop t ∧ f k = x := by
  rw [qAt_map] at hX
  have hp := line_drop e n t ht
  have h2 : ((gAt e n (List.range n)).drop t).Nodup := (line_nodup e n).sublist (List.drop_sublist _ _)
  have hP : X.Perm (((gAt e n (List.range n)).drop t).map f) := hX.trans (hp.symm.map f)
  refine ⟨sorted_rise sX (hP.nodup_iff.mpr (map_nodup h2 fun i hi j hj => inj i j (line_lt (List.mem_of_mem_drop hi)) (line_lt (List.mem_of_mem_drop hj)))), fun x => ?_⟩
  rw [hP.mem_iff, List.mem_map]
theorem apart_eq {e e' t : Nat} (inj : ∀ i j, i < n → j < n → f i = f j → i = j) (ht : t ≤ n) {X Y ss : List Str}
    (hX : X.Perm (qAt e t ((List.range n).map f))) (sX : sortedS X = true) (hY : Y.Perm (qAt e' t ((List.range n).map f))) (sY : sortedS Y = true)
    (hs : ss.Perm (selA ((List.range n).map f) (((gAt e n (List.range n)).map fun k : Nat => (k : Int)).drop t) (((gAt e' n (List.range n)).map fun k : Nat => (k : Int)).take t))) (hss : sortedS ss = true) : ss = dif X Y := by
  obtain ⟨rX, mX⟩ := wait_rise inj ht hX sX
  obtain ⟨rY, mY⟩ := wait_rise inj ht hY sY
  rw [← List.map_drop, ← List.map_take, selA_line _ _ fun k hk => line_lt (List.mem_of_mem_drop hk)] at hs
  have h2 : (((gAt e n (List.range n)).drop t).filter fun k => decide (k ∈ (gAt e' n (List.range n)).take t)).Nodup := ((line_nodup e n).sublist (List.drop_sublist _ _)).sublist List.filter_sublist
  have rS : Rise ss := sorted_rise hss (hs.nodup_iff.mpr (map_nodup h2 fun i hi j hj => inj i j (line_lt (List.mem_of_mem_drop (List.mem_filter.mp hi).1)) (line_lt (List.mem_of_mem_drop (List.mem_filter.mp hj).1))))
  refine rise_ext rS (dif_rise rX) fun x => ?_
  rw [dif_mem, mX, mY, hs.mem_iff, List.mem_map]
  constructor
  · rintro ⟨k, hk, rfl⟩
    obtain ⟨k1, k2⟩ := List.mem_filter.mp hk
    have k2 : k ∈ (gAt e' n (List.range n)).take t := by simpa using k2
    refine ⟨⟨k, k1, rfl⟩, ?_⟩
    rintro ⟨j, hj, ej⟩
    have hjk := inj j k (line_lt (List.mem_of_mem_drop hj)) (line_lt (List.mem_of_mem_drop k1)) ej
    subst hjk
    have hn := line_nodup e' n
    rw [← List.take_append_drop t (gAt e' n (List.range n))] at hn
    exact (List.nodup_append.mp hn).2.2 j k2 j hj rfl
  · rintro ⟨⟨k, k1, rfl⟩, k3⟩
    refine ⟨k, List.mem_filter.mpr ⟨k1, ?_⟩, rfl⟩
    have h5 : k ∈ gAt e' n (List.range n) := (line_perm e' n).mem_iff.mpr (List.mem_range.mpr (line_lt (List.mem_of_mem_drop k1)))
    rw [← List.take_append_drop t (gAt e' n (List.range n))] at h5
    rcases List.mem_append.mp h5 with h5 | h5
    · simpa using h5
    · exact absurd ⟨k, h5, rfl⟩ k3
end
end
section
open PySem PySem.W PyProof.Rows PySem.Calls PySem.SeqAt
set_option Elab.async false
set_option maxRecDepth 100000
set_option linter.all false
set_option genInjectivity false
set_option genSizeOf false
structure FlagS (n : Nat) : Prop where
  out : True
theorem small14 {n : Nat} (h : n ≤ 12) : Builtin.Range.small 0 ((n : Int) + 1) 1 = true := small13 (n := n + 1) (by omega)
theorem rsize14 {n : Nat} (h : n ≤ 12) : Builtin.Range.rangeSize 0 ((n : Int) + 1) 1 = ((n + 1 : Nat) : Int) := rsize13 (n := n + 1) (by omega)
theorem led_turn {h₀ h : Heap} {L : Addr} {T g w : Addr × Obj} {foot rest tl : List (Addr × Obj)} (N : News h₀ L h (((T :: g :: w :: tl) ++ foot) ++ rest)) : News h₀ L h (T :: g :: w :: (foot ++ rest ++ tl)) := by
  refine nsub N fun p hp => ?_
  simp only [List.mem_cons, List.mem_append] at hp ⊢
  rcases hp with h | h | h | (h | h) | h <;> simp [h]
theorem take1n {l : List Nat} {i k : Nat} (h : l[i]? = some k) : l.take (i + 1) = l.take i ++ [k] := by
  rw [List.take_add_one, h]; rfl
theorem eqL' {A : Around} {s : Shared} {a b : Addr} {vs ws : List Value} (ha : s.heap.IsList a vs.toArray) (hb : s.heap.IsList b ws.toArray) (h : Eq2 A s vs ws) (hu : A.units < cLine) : EqAt A s (.ref a) (.ref b) true := by
  by_cases e : a = b
  · subst e; exact EqAt.same _
  · exact eqL e ha hb h hu
section
variable {prog : Program} {w : World} {A : Around} {s : Shared} {E : Value → Shared → Prop}
theorem item_ref {value slice : Expr} {l : Addr} {vs : List Value} {v : Value} {j : Nat} {u : Tok} {Q : Value → Shared → Prop} (hl : s.heap.IsList l vs.toArray) (hv : vs[j]? = some v) (hhi : (j : Int) < 2 ^ 63) (h : Q v s)
    (hs : subscripted slice false (.ref l) (.int j u) = operate [.ref l, .int j u] (getItem (.ref l) (.int j u)) := by with_unfolding_all rfl) :
    wpAny (model prog w) A (subscriptTail value slice (.ref l) (.int j u)) Q E s :=
  tail_any hl.typeIs slot_list_getitem.lookup (wpAny_getItem_list hl (by omega) hhi (by simpa using hv) h) hs
end
theorem wl_get {e : Nat} {xs : List Str} {wl : List Wt} {i n : Nat} (hl : wl.length = n + 1) (hi : i ≤ n) (hO : WtOk e xs wl) :
    ∃ w, wl[i]? = some w ∧ (wl.map fun w => Value.ref w.a)[i]? = some (.ref w.a) ∧ Wt.obj w ∈ wl.map Wt.obj ∧ ∃ ss, StrsAre w.ws ss ∧ ss.Perm (qAt e i xs) ∧ sortedS ss = true := by
  have h1 : wl[i]? = some wl[i] := List.getElem?_eq_getElem (by omega)
  exact ⟨_, h1, by rw [List.getElem?_map, h1]; rfl, List.mem_map_of_mem (List.mem_of_getElem? h1), hO _ _ h1⟩
theorem names_inj {x0 x1 : Nat} {ns : List Int} {n : Nat} (hn : n ≤ 12) : ∀ i j, i < n → j < n → txt (nameL x0 x1 ns i) = txt (nameL x0 x1 ns j) → i = j := by
  intro i j hi hj h
  have h1 : (txt (nameL x0 x1 ns i)).cps.toList = (txt (nameL x0 x1 ns j)).cps.toList := by rw [h]
  exact nameL_inj (by omega) (by omega) (by simpa using h1)
theorem told_in {e n : Nat} {xs : List Str} (he : e = 2 ∨ e = 4) (h4 : 4 ≤ n) (h12 : n ≤ 12) (hx : xs.length = n) : ∀ o ∈ told e n, 0 ≤ o ∧ o < (xs.length : Int) := by
  intro o ho
  rw [told_line he h4 h12] at ho
  obtain ⟨k, hk, rfl⟩ := List.mem_map.mp ho
  have := line_lt hk
  omega
theorem wait_len {e i n : Nat} {f : Nat → Str} {w : List Value} {ss : List Str} (h12 : n ≤ 12) (h : StrsAre w ss) (hp : ss.Perm (qAt e i ((List.range n).map f))) : w.length ≤ 12 := by
  rw [h.length, hp.length_eq, qAt_length, List.length_map, List.length_range]
  omega
theorem sum_nonneg' : ∀ {l : List Int}, (∀ v ∈ l, 0 ≤ v) → 0 ≤ l.sum
  | [], _ => Int.le_refl _
  | a :: r, h => by
    have h1 := h a (.head _)
    have h2 := sum_nonneg' (l := r) fun v hv => h v (.tail _ hv)
    rw [List.sum_cons]; omega
theorem cells_sum (l : List Int) : 0 ≤ (List.map (fun k' : Int => k'.fmod (10 ^ Int.toNat 6)) (List.take 8 l)).sum := by
  refine sum_nonneg' fun v hv => ?_
  obtain ⟨k, _, rfl⟩ := List.mem_map.mp hv
  rw [Int.fmod_eq_emod_of_nonneg k (by decide)]
  exact Int.emod_nonneg _ (by decide)
theorem ns_len {vs : List Value} {l : List Int} (_ : IntsAre vs ([20, 63, 9, 102] ++ List.map (fun k' : Int => k'.fmod (10 ^ Int.toNat 6)) (List.take 8 l))) :
    ([20, 63, 9, 102] ++ List.map (fun k' : Int => k'.fmod (10 ^ Int.toNat 6)) (List.take 8 l)).length = 1 + 1 + 1 + 1 + (List.map (fun k' : Int => k'.fmod (10 ^ Int.toNat 6)) (List.take 8 l)).length := by
  rw [List.length_append]; rfl
end
section
local macro_rules | `(tactic| o_head 19) => `(tactic| first | assumption | exact zc1 ‹_› | exact zc2 ‹_› | exact zc3 ‹_› | exact zc4 ‹_› | exact zc5 ‹_› | exact zc6 ‹_› | exact zc7 ‹_› | exact zc8 ‹_› | exact zc9 ‹_› | exact zc10 ‹_› | exact zc11 ‹_› | exact zc0 ‹_› ‹_›)
local macro_rules | `(tactic| k_steps) => `(tactic| o_head 36)
local macro_rules | `(tactic| walk_at "eval ListComp") => `(tactic| (k_here; (rename FlagC => hfl9); (with_reducible show wpAny _ _ (eval (Expr.ListComp _ [Comprehension.mk (Expr.Name _ _) _ [] _] _ _) _) _ _ _); k_dflt (refine LCg.ListComp_U (F₀ := by k_asm) (by rfl) (by decide) (by rfl) (by decide) (by rfl) ?_)))
local macro_rules | `(tactic| walk_at "CompSrc") => `(tactic| (k_here; (rename FlagC => hfl9); refine Stop.mk ?_))
local macro_rules | `(tactic| walk_at "subscriptTail") => `(tactic| o_head [subscriptTail (Expr.List _ _) _ (Value.ref _) (Value.int _ _)])
local macro_rules | `(tactic| walk_at "exec Assign cons ListComp") => `(tactic| o_head [exec (Stmt.Assign _ (Expr.ListComp _ [Comprehension.mk (Expr.Tuple _ _ _) _ _ _] _ _) _) _])
local macro_rules | `(tactic| walk_at "call type:enumerate") => `(tactic| (k_here; refine Stop.mk ?_))
local macro_rules | `(tactic| walk_at "call ref") => `(tactic| first | o_head (174) | o_head (49) | o_head (153) | o_head (193) | o_head (200) | o_head (167) | o_head (205))
local macro_rules | `(tactic| walk_at "subscriptTail") => `(tactic| ((rename FlagC => hfl9); o_head [subscriptTail _ _ (Value.ref _) (Value.int _ _)]))
local macro_rules | `(tactic| walk_at "subscriptTail Name Name ref int") => `(tactic| walk_at "subscriptTail")
local macro_rules | `(tactic| o_head 35) => `(tactic| first | exact rowB_size _ _ | exact (by decide : 4 ≤ 100))
local macro_rules | `(tactic| walk_at "call ref") => `(tactic| o_head (145, _, c_enc2))
local macro_rules | `(tactic| walk_at "call ref") => `(tactic| o_head (179, _, c_word))
local macro_rules | `(tactic| walk_at "subscriptTail") => `(tactic| ((rename FlagC => hfl9); o_head [subscriptTail _ _ (Value.bytes _ _) (Value.int _ _)]))
local macro_rules | `(tactic| walk_at "subscriptTail Name BinOp bytes int") => `(tactic| (k_here; (rename FlagC => hfl9); refine Stop.mk ?_))
local macro_rules | `(tactic| walk_at "compareOp NotEq ref ref") => `(tactic| (k_here; (rename FlagC => hfl9); refine Stop.mk ?_))
local macro_rules | `(tactic| walk_at "execs cons") => `(tactic| ((rename FlagS 14 => hfl8); o_head [execs [_, _, _, _, _] _]))
local macro_rules | `(tactic| walk_at "execs cons") => `(tactic| ((rename FlagS 9 => hfl8); o_head [execs [_, _, _, _, _, _, _, _, _, _] _]))
section
open PySem PySem.SeqAt PySem.W PyProof.Rows
set_option Elab.async false
set_option linter.unusedVariables false
set_option linter.unusedSimpArgs false
set_option linter.unusedSectionVars false
set_option pp.deepTerms false
set_option pp.deepTerms.threshold 6
set_option pp.proofs false
set_option maxRecDepth 100000
set_option compiler.extract_closed false
set_option rowWalk.seconds 0
set_option genInjectivity false
set_option genSizeOf false
noncomputable def lawBody (P : Params) : List Stmt := match (hd.heap_1 P).lookup 210 with | some ⟨_, _, .func f, _⟩ => (match f.body with | .stmts b => b | _ => []) | _ => []
noncomputable def lawScope (P : Params) : Scope := match (hd.heap_1 P).lookup 210 with | some ⟨_, _, .func f, _⟩ => f.scope | _ => ⟨.function, [], false, false, []⟩
section
variable {wA : World} {p : Program} {loose : List Str} {mean : ExcName → Option Value} {mg mb : Str → Option Value} {G : Heap} {L fa : Addr} {cd : Value} {s : Shared} {h₀ : Heap} {tk₀ : Nat} {Q : Flow → Shared → Prop} {E : Value → Shared → Prop}
  (K : Below callerA G [] G) (X : (hd.heap_1 wA.params).In G) (T : Top p loose mean mg mb G) (C : CodeHd G 173 169) (h169 : @LT.lt Nat _ 169 L) (hQ : ∀ h' tk' m', Fr G L h' m' → GrownAt 169 h' → Q (.ret (.bool true)) { s with heap := h', toks := tk' })
include K X T C h169 hQ
set_option maxHeartbeats 4000000 in
theorem law_d {n : Nat} {A2 A4 D3 : Addr} {a2n a4n : Nat} {tc : Tok} {m0 : Str → Option Value} {v2 v4 ys2 : List Value} {ns : List Int} {x0 x1 : Nat} {p5 : Obj} {z : Lx}
    (F30 : Fr G L h₀ (fun y => if y = Str.ofString "four" then some (Value.ref A4) else if y = Str.ofString "two" then some (Value.ref A2) else if y = Str.ofString "count" then some (Value.int (n : Int) tc) else m0 y))
    (N30 : News G L h₀ [(169, tabObj #[rawInt 249, rawInt 4, .ref z.c]), (z.c, z.oc), (A4, W.listOf v4.toArray a4n), (A2, W.listOf v2.toArray a2n), (D3, LCg.lst ys2), (L + 1 + 1 + 1 + 1 + 1, p5)])
    (d5 : p5.data = .cell (some (.ref D3))) (hTo2 : IntsAre v2 (told 2 n)) (hTo4 : IntsAre v4 (told 4 n)) (hNm : Hid (StrsAre ys2 ((List.range n).map fun k => txt (nameL x0 x1 ns k)))) (hn4 : 4 ≤ n) (hn12 : n ≤ 12) (hoc : CodeOk z.oc) (h169c : @LT.lt Nat _ 169 z.c)
    (hD39 : @Ne Nat D3 169) (hD3c : @Ne Nat D3 z.c) (hA29 : @Ne Nat A2 169) (hA2c : @Ne Nat A2 z.c) (hA49 : @Ne Nat A4 169) (hA4c : @Ne Nat A4 z.c) (hL59 : @Ne Nat (L + 1 + 1 + 1 + 1 + 1) 169) (hL5c : @Ne Nat (L + 1 + 1 + 1 + 1 + 1) z.c) :
    wpAny (model PySem.Challenge.rw_qh0051_01.row.prog wA) (callerA.deeper (envOfC (Str.ofString "law") (lawScope wA.params) L fa cd)) (execs ((lawBody wA.params).drop 14) (envOfC (Str.ofString "law") (lawScope wA.params) L fa cd)) Q (fun e s1 => wpAny (model PySem.Challenge.rw_qh0051_01.row.prog wA) (callerA.deeper (envOfC (Str.ofString "law") (lawScope wA.params) L fa cd)) (leaving (envOfC (Str.ofString "law") (lawScope wA.params) L fa cd) e) (fun _ s2 => E e s2) (fun e2 s2 => E e2 s2) s1) { s with heap := h₀, toks := tk₀ } := by
  have hFlag : FlagC := ⟨trivial⟩
  revert X; k_fill; intro X
  show wpAny _ (callerA.deeper (envOfC (Str.ofString "law") ⟨_, _, _, _, _⟩ L fa cd)) (execs [_, _, _, _, _] (envOfC (Str.ofString "law") ⟨_, _, _, _, _⟩ L fa cd)) Q (fun e s1 => wpAny _ (callerA.deeper (envOfC (Str.ofString "law") ⟨_, _, _, _, _⟩ L fa cd)) (leaving (envOfC (Str.ofString "law") ⟨_, _, _, _, _⟩ L fa cd) e) (fun _ s2 => E e s2) (fun e2 s2 => E e2 s2) s1) { s with heap := h₀, toks := tk₀ }
  have hys2l : ys2.length ≤ 12 := by rw [hNm.out.length, List.length_map, List.length_range]; exact hn12
  k_steps
  refine Stop.out ?_
  (with_reducible rename Fr _ _ _ _ => F31)
  (with_reducible rename News _ _ _ _ => N31)
  refine c_counted (e := 2) (rest := [(A4, W.listOf v4.toArray a4n), (A2, W.listOf v2.toArray a2n), (D3, LCg.lst ys2), (L + 1 + 1 + 1 + 1 + 1, p5)]) (by k_asm) F31 (by k_asm) (by kn_code) (nsub N31 (by k_dflt (repeat (first | exact sub_nil | (refine sub_cons ?_ ?_; (focus k_mem)) | (refine sub_app ?_ ?_) | (focus (intro p9 hp9; (repeat (first | exact hp9 | apply List.Mem.tail)); done)))))) ?offC (by k_asm) rfl (by ktr_room) (by ktr_units) h169c hoc ⟨hD39, hD3c⟩ (News.isList N31 (by k_mem)) hNm hys2l (by decide) (fun hc1 tkc1 T1 go1 wa1 gv1 g1n w1n wl1 F32 hG1 hWl1 hWo1 hNew1 N32 => ?_)
  case offC => exact List.forall_mem_cons.mpr ⟨notin2 (by dsimp only; omega) (by dsimp only; omega), List.forall_mem_cons.mpr ⟨notin2 (by dsimp only; omega) (by dsimp only; omega), List.forall_mem_cons.mpr ⟨notin2 (by dsimp only; omega) (by dsimp only; omega), List.forall_mem_cons.mpr ⟨notin2 (by dsimp only; omega) (by dsimp only; omega), List.forall_mem_nil _⟩⟩⟩⟩
  (try dsimp only)
  have N33 := led_turn N32
  have hg1c : @LT.lt Nat _ z.c go1 := hNew1 (go1, _) (.tail _ (.head _))
  have hw1c : @LT.lt Nat _ z.c wa1 := hNew1 (wa1, _) (.tail _ (.tail _ (.head _)))
  have ht1c : ∀ p ∈ wl1.map Wt.obj, @LT.lt Nat _ z.c p.1 := fun p hp => hNew1 p (.tail _ (.tail _ (.tail _ hp)))
  clear hNew1
  (try clear N32)
  (try clear N31)
  (try clear F31)
  generalize hwr1 : (wl1.map fun w => Value.ref w.a) = wr1 at N33
  generalize htl1 : wl1.map Wt.obj = tl1 at N33 ht1c
  dsimp only [List.cons_append, List.nil_append] at N33
  rw [List.length_map, List.length_range] at hG1 hWl1
  rw [gAt_map] at hG1
  have hG1' := Hid.mk hG1
  clear hG1
  k_steps
  refine Stop.out ?_
  (with_reducible rename Fr _ _ _ _ => F34)
  (with_reducible rename News _ _ _ _ => N34)
  refine c_counted (e := 4) (rest := (go1, W.listOf gv1.toArray g1n) :: (wa1, W.listOf wr1.toArray w1n) :: (A4, W.listOf v4.toArray a4n) :: (A2, W.listOf v2.toArray a2n) :: (D3, LCg.lst ys2) :: (L + 1 + 1 + 1 + 1 + 1, p5) :: tl1) (by k_asm) F34 (by k_asm) (by kn_code) (nsub N34 (by k_dflt (repeat (first | exact sub_nil | (refine sub_cons ?_ ?_; (focus k_mem)) | (refine sub_app ?_ ?_) | (focus (intro p9 hp9; (repeat (first | exact hp9 | apply List.Mem.tail)); done)))))) ?offC2 (by k_asm) rfl (by ktr_room) (by ktr_units) h169c hoc ⟨hD39, hD3c⟩ (News.isList N34 (by k_mem)) hNm hys2l (by decide) (fun hc2 tkc2 T2 go2 wa2 gv2 g2n w2n wl2 F35 hG2 hWl2 hWo2 hNew2 N35 => ?_)
  case offC2 => exact List.forall_mem_cons.mpr ⟨notin2 (by dsimp only; omega) (by dsimp only; omega), List.forall_mem_cons.mpr ⟨notin2 (by dsimp only; omega) (by dsimp only; omega), List.forall_mem_cons.mpr ⟨notin2 (by dsimp only; omega) (by dsimp only; omega), List.forall_mem_cons.mpr ⟨notin2 (by dsimp only; omega) (by dsimp only; omega), List.forall_mem_cons.mpr ⟨notin2 (by dsimp only; omega) (by dsimp only; omega), List.forall_mem_cons.mpr ⟨notin2 (by dsimp only; omega) (by dsimp only; omega), fun p hp => notin2 (by have := ht1c p hp; omega) (by have := ht1c p hp; omega)⟩⟩⟩⟩⟩⟩
  (try dsimp only)
  have N36 := led_turn N35
  clear hNew2
  (try clear N35)
  (try clear N34)
  (try clear F34)
  (try clear N33)
  (try clear F32)
  (try clear N30)
  (try clear F30)
  generalize hwr2 : (wl2.map fun w => Value.ref w.a) = wr2 at N36
  generalize htl2 : wl2.map Wt.obj = tl2 at N36
  dsimp only [List.cons_append, List.nil_append] at N36
  rw [List.length_map, List.length_range] at hG2 hWl2
  rw [gAt_map] at hG2
  have hG2' := Hid.mk hG2
  clear hG2
  have hm1 : ∀ p ∈ tl1, p ∈ tl1 ++ tl2 := fun p hp => List.mem_append_left _ hp
  have hm2 : ∀ p ∈ tl2, p ∈ tl1 ++ tl2 := fun p hp => List.mem_append_right _ hp
  generalize tl1 ++ tl2 = tl3 at N36 hm1 hm2
  k_steps
  refine Stop.out ?_
  (with_reducible rename Fr _ _ _ _ => F37)
  (with_reducible rename News _ _ _ _ => N37)
  have hv2l : v2.length = n := by rw [hTo2.length, told, List.length_map, List.length_range]
  have hv4l : v4.length = n := by rw [hTo4.length, told, List.length_map, List.length_range]
  refine LCg.CompSrc.ledger rfl F37 N37 (ax := A2) (its := v2.toArray) (by k_mem) (by rw [List.size_toArray, sizeLine_eq]; omega) (fun g8 => ?_)
  refine comp_rest (σ := Unit) (fun _ => _) (fun i ys _ => StrsAre ys (((gAt 2 n (List.range n)).take i).map fun k => txt (nameL x0 x1 ns k))) () .nil ?turnP ?doneP
  case turnP =>
    intro i ys9 c9 v I oI C oC D9 m₂ h tk E' hi hOk hP hN9 hx9 F9 N9 off9 ne
    obtain ⟨k, t5, rfl, hk5⟩ := ints_get hTo2 (by simpa using hP)
    rw [told_line (.inl rfl) hn4 hn12, List.getElem?_map] at hk5
    obtain ⟨q, hq, rfl⟩ := Option.map_eq_some_iff.mp hk5
    have hqn : q < n := line_lt (List.mem_of_getElem? hq)
    k_steps
    refine Stop.out ?_
    (with_reducible rename Fr _ _ _ _ => F10)
    (with_reducible rename News _ _ _ _ => N10)
    refine item_in1 (x := txt (nameL x0 x1 ns q)) (News.isList N10 (by k_mem)) hNm.out (by rw [List.getElem?_map, List.getElem?_range hqn]; rfl) (by omega) (fun t6 => ?_)
    exact ⟨(), _, _, _, rfl, F10, N10, (fun p hp => hp), off9, .inr ⟨_, (by k_mem), rfl, _, rfl⟩, by rw [take1n hq, List.map_append]; exact hOk.append' (.cons _ _ .nil)⟩
  case doneP =>
    intro cs2 _ hC2 D7 h tk F38 N38 off7
    rw [List.size_toArray, hv2l, List.take_of_length_le (Nat.le_of_eq (by rw [gAt_length _ _ _ (by rw [List.length_range]; exact Nat.le_refl _)]))] at hC2
    have hC2' := Hid.mk hC2
    clear hC2 off7
    k_steps
    refine Stop.out ?_
    (with_reducible rename Fr _ _ _ _ => F39)
    (with_reducible rename News _ _ _ _ => N39)
    refine LCg.CompSrc.ledger rfl F39 N39 (ax := A4) (its := v4.toArray) (by k_mem) (by rw [List.size_toArray, sizeLine_eq]; omega) (fun g9 => ?_)
    refine comp_rest (σ := Unit) (fun _ => _) (fun i ys _ => StrsAre ys (((gAt 4 n (List.range n)).take i).map fun k => txt (nameL x0 x1 ns k))) () .nil ?turnQ ?doneQ
    case turnQ =>
      intro i ys9 c9 v I oI C oC D9 m₂ h tk E' hi hOk hP hN9 hx9 F9 N9 off9 ne
      obtain ⟨k, t5, rfl, hk5⟩ := ints_get hTo4 (by simpa using hP)
      rw [told_line (.inr rfl) hn4 hn12, List.getElem?_map] at hk5
      obtain ⟨q, hq, rfl⟩ := Option.map_eq_some_iff.mp hk5
      have hqn : q < n := line_lt (List.mem_of_getElem? hq)
      k_steps
      refine Stop.out ?_
      (with_reducible rename Fr _ _ _ _ => F10)
      (with_reducible rename News _ _ _ _ => N10)
      refine item_in1 (x := txt (nameL x0 x1 ns q)) (News.isList N10 (by k_mem)) hNm.out (by rw [List.getElem?_map, List.getElem?_range hqn]; rfl) (by omega) (fun t6 => ?_)
      exact ⟨(), _, _, _, rfl, F10, N10, (fun p hp => hp), off9, .inr ⟨_, (by k_mem), rfl, _, rfl⟩, by rw [take1n hq, List.map_append]; exact hOk.append' (.cons _ _ .nil)⟩
    case doneQ =>
      intro cs4 _ hC4 D8 h tk F40 N40 off8
      rw [List.size_toArray, hv4l, List.take_of_length_le (Nat.le_of_eq (by rw [gAt_length _ _ _ (by rw [List.length_range]; exact Nat.le_refl _)]))] at hC4
      have hC4' := Hid.mk hC4
      clear hC4 off8
      k_steps
      refine Stop.out ?_
      (with_reducible rename Fr _ _ _ _ => F41)
      (with_reducible rename News _ _ _ _ => N41)
      refine ne_tup2 (News.isTup N41 (by k_mem)) (News.isTup N41 (by k_mem)) (eqL' (News.isList N41 (by k_mem)) (News.isList N41 (by k_mem)) (Eq2.strs hG1'.out hC2'.out) (by first | ktr_units | decide | exact Nat.le_of_ble_eq_true rfl)) (eqL' (News.isList N41 (by k_mem)) (News.isList N41 (by k_mem)) (Eq2.strs hG2'.out hC4'.out) (by first | ktr_units | decide | exact Nat.le_of_ble_eq_true rfl)) (by first | ktr_units | decide | exact Nat.le_of_ble_eq_true rfl) ?_
      have N42 := nsub N41 (l' := (169, tabObj #[rawInt 249, rawInt 4, .ref z.c]) :: (D3, LCg.lst ys2) :: (A2, W.listOf v2.toArray a2n) :: (A4, W.listOf v4.toArray a4n) :: (wa1, W.listOf wr1.toArray w1n) :: (wa2, W.listOf wr2.toArray w2n) :: (L + 1 + 1 + 1 + 1 + 1, p5) :: tl3) (by k_dflt (repeat (first | exact sub_nil | (refine sub_cons ?_ ?_; (focus k_mem)) | (refine sub_app ?_ ?_) | (focus (intro p9 hp9; (repeat (first | exact hp9 | apply List.Mem.tail)); done)))))
      (try clear N41)
      (try clear N40)
      (try clear N39)
      (try clear N38)
      (try clear N37)
      (try clear N36)
      clear hC2' hC4' hG1' hG2'
      k_steps
      refine Stop.out ?_
      (with_reducible rename Fr _ _ _ _ => F43)
      (with_reducible rename News _ _ _ _ => N43)
      (with_reducible rename IsRange _ _ _ _ _ _ _ _ => hR)
      refine' for_range [Str.ofString "told"] (fun _ : Unit => []) (fun _ => (169, tabObj #[rawInt 249, rawInt 4, .ref z.c]) :: (D3, LCg.lst ys2) :: (A2, W.listOf v2.toArray a2n) :: (A4, W.listOf v4.toArray a4n) :: (wa1, W.listOf wr1.toArray w1n) :: (wa2, W.listOf wr2.toArray w2n) :: (L + 1 + 1 + 1 + 1 + 1, p5) :: tl3) (fun _ _ => True) () rfl F43 hR (small14 hn12) (n := n + 1) (rsize14 hn12) (nsub N43 (by k_dflt (repeat (first | exact sub_nil | (refine sub_cons ?_ ?_; (focus k_mem)) | (refine sub_app ?_ ?_) | (focus (intro p9 hp9; (repeat (first | exact hp9 | apply List.Mem.tail)); done)))))) ?hpsL trivial ?turnL ?doneL
      case hpsL => exact List.forall_mem_nil _
      case turnL =>
        rintro i t ⟨⟩ u h tk own hi _ hoff F44 N44
        have hi' : i ≤ n := by omega
        have hi12 : i ≤ 12 := by omega
        obtain ⟨w1, -, hv1, hm1w, s1, hs1, hp1, ho1⟩ := wl_get hWl1 hi' hWo1
        obtain ⟨w2, -, hv2, hm2w, s2, hs2, hp2, ho2⟩ := wl_get hWl2 hi' hWo2
        rw [htl1] at hm1w
        rw [htl2] at hm2w
        rw [hwr1] at hv1
        rw [hwr2] at hv2
        have hm1t := hm1 _ hm1w
        have hm2t := hm2 _ hm2w
        clear hm1w hm2w
        (try dsimp only at F44 N44)
        rw [show ((0 : Int) + (i : Int) * 1) = (i : Int) from by omega] at F44
        dsimp only [List.cons_append, List.nil_append] at N44
        have ho4 : ∀ p ∈ own, p ∈ tl3 ++ own := fun p hp => List.mem_append_right _ hp
        have ht4 : ∀ p ∈ tl3, p ∈ tl3 ++ own := fun p hp => List.mem_append_left _ hp
        generalize tl3 ++ own = tl4 at N44 ho4 ht4
        have hm1u := ht4 _ hm1t
        have hm2u := ht4 _ hm2t
        (try clear N43)
        (try clear F43)
        (try clear hR)
        k_steps
        refine Stop.out ?_
        (with_reducible rename News _ _ _ _ => N45)
        refine item_ref (News.isList N45 (by k_mem)) hv1 (by omega) ?_
        k_steps
        refine Stop.out ?_
        refine item_ref (News.isList N45 (by k_mem)) hv2 (by omega) ?_
        k_steps
        refine Stop.out ?_
        (with_reducible rename Fr _ _ _ _ => F46)
        (with_reducible rename News _ _ _ _ => N46)
        have inj := names_inj (x0 := x0) (x1 := x1) (ns := ns) hn12
        refine c_sld F46 (by k_asm) N46 (by k_asm) rfl (by ktr_room) (by ktr_units) (N46 (Wt.obj w1) (by repeat (first | exact hm1u | apply List.Mem.tail))).2.1 (N46 (Wt.obj w2) (by repeat (first | exact hm2u | apply List.Mem.tail))).2.1 (News.isList N46 (by repeat (first | exact hm1u | apply List.Mem.tail))) (News.isList N46 (by repeat (first | exact hm2u | apply List.Mem.tail))) hs1 hs2 (wait_len hn12 hs1 hp1) (wait_len hn12 hs2 hp2) (wait_rise inj hi' hp1 ho1).1 (wait_rise inj hi' hp2 ho2).1 (fun ha1 tka1 T3 lu lm uv mv un3 mn3 F47 hM hU N47 => ?_)
        have hM' := Hid.mk hM
        have hU' := Hid.mk hU
        clear hM hU hs1 hs2
        (try dsimp only)
        k_steps
        refine Stop.out ?_
        (with_reducible rename Fr _ _ _ _ => F48)
        (with_reducible rename News _ _ _ _ => N48)
        refine c_apart (by k_asm) F48 (by k_asm) N48 (by k_asm) rfl (by ktr_room) (by ktr_units) (News.isList N48 (by k_mem)) (News.isList N48 (by k_mem)) (News.isList N48 (by k_mem)) hNm.out hTo2 hTo4 hys2l (by omega) (by omega) (told_in (.inl rfl) hn4 hn12 (by rw [List.length_map, List.length_range])) (fun ha3 tka3 D10 ws3 ss3 n3 F49 hS3 hP3 hO3 N49 => ?_)
        rw [told_line (.inl rfl) hn4 hn12, told_line (.inr rfl) hn4 hn12] at hP3
        rw [apart_eq inj hi' hp1 ho1 hp2 ho2 hP3 hO3] at hS3
        have hS3' := Hid.mk hS3
        clear hS3 hP3 hO3
        (try dsimp only)
        k_steps
        refine Stop.out ?_
        (with_reducible rename Fr _ _ _ _ => F50)
        (with_reducible rename News _ _ _ _ => N50)
        refine c_apart (by k_asm) F50 (by k_asm) N50 (by k_asm) rfl (by ktr_room) (by ktr_units) (News.isList N50 (by k_mem)) (News.isList N50 (by k_mem)) (News.isList N50 (by k_mem)) hNm.out hTo4 hTo2 hys2l (by omega) (by omega) (told_in (.inr rfl) hn4 hn12 (by rw [List.length_map, List.length_range])) (fun ha4 tka4 D11 ws4 ss4 n4 F51 hS4 hP4 hO4 N51 => ?_)
        rw [told_line (.inl rfl) hn4 hn12, told_line (.inr rfl) hn4 hn12] at hP4
        rw [apart_eq inj hi' hp2 ho2 hp1 ho1 hP4 hO4] at hS4
        have hS4' := Hid.mk hS4
        clear hS4 hP4 hO4
        (try dsimp only)
        k_steps
        refine Stop.out ?_
        (with_reducible rename Fr _ _ _ _ => F52)
        (with_reducible rename News _ _ _ _ => N52)
        refine ne_tup2 (News.isTup N52 (by k_mem)) (News.isTup N52 (by k_mem)) (eqL' (News.isList N52 (by k_mem)) (News.isList N52 (by k_mem)) (Eq2.strs hM'.out hS3'.out) (by first | ktr_units | decide | exact Nat.le_of_ble_eq_true rfl)) (eqL' (News.isList N52 (by k_mem)) (News.isList N52 (by k_mem)) (Eq2.strs hU'.out hS4'.out) (by first | ktr_units | decide | exact Nat.le_of_ble_eq_true rfl)) (by first | ktr_units | decide | exact Nat.le_of_ble_eq_true rfl) ?_
        k_steps
        (with_reducible rename Fr _ _ _ _ => Fz)
        (with_reducible rename News _ _ _ _ => Nz)
        exact ⟨(), _, _, _, _, rfl, Fz, Nz, (by k_dflt (repeat (first | exact sub_nil | (refine sub_cons ?_ ?_; (focus k_mem)) | (refine sub_app ?_ ?_) | (focus (intro p9 hp9; (repeat (first | exact hp9 | exact ht4 _ hp9 | exact ho4 _ hp9 | apply List.Mem.tail)); done))))), hoff, List.forall_mem_nil _, (by intro y h1 h2 h3; simp only [List.contains_cons, List.contains_nil, Bool.or_false, beq_eq_false_iff_ne, ne_eq] at h3; simp [kstB, h1, h3]), trivial⟩
      case doneL =>
        rintro ⟨⟩ u h tk _ F60 N60
        (try dsimp only at F60 N60)
        k_steps
        exact hQ _ _ _ F60 ⟨_, (N60 (169, _) (.head _)).1⟩
end
end
section
open PySem PySem.SeqAt PySem.W PyProof.Rows
set_option Elab.async false
set_option linter.unusedVariables false
set_option linter.unusedSimpArgs false
set_option linter.unusedSectionVars false
set_option pp.deepTerms false
set_option pp.deepTerms.threshold 6
set_option pp.proofs false
set_option maxRecDepth 100000
set_option compiler.extract_closed false
set_option rowWalk.seconds 0
set_option genInjectivity false
set_option genSizeOf false
section
variable {wA : World} {p : Program} {loose : List Str} {mean : ExcName → Option Value} {mg mb : Str → Option Value} {G : Heap} {L fa : Addr} {cd : Value} {s : Shared} {h₀ : Heap} {tk₀ : Nat} {Q : Flow → Shared → Prop} {E : Value → Shared → Prop}
  (K : Below callerA G [] G) (X : (hd.heap_1 wA.params).In G) (T : Top p loose mean mg mb G) (C : CodeHd G 173 169) (h169 : @LT.lt Nat _ 169 L) (hQ : ∀ h' tk' m', Fr G L h' m' → GrownAt 169 h' → Q (.ret (.bool true)) { s with heap := h', toks := tk' })
include K X T C h169 hQ
set_option maxHeartbeats 4000000 in
theorem law_c {ra nu D D3 : Addr} {rn nn : Nat} {n : Nat} {tc tT tM t7 : Tok} {m0 : Str → Option Value} {rvs nvs ys ys2 : List Value} {ns : List Int} {TT : Int} {x0 x1 : Nat} {o1 o2 p3 p4 p5 : Obj} {z : Lx} {c : Gt} {pre : List Nat}
    (F14 : Fr G L h₀ (fun y => if y = Str.ofString "text" then some (Value.str (txt (textL x0 x1 ns TT 0 n)) t7) else if y = Str.ofString "rows" then some (Value.ref ra) else if y = Str.ofString "count" then some (Value.int (n : Int) tc) else if y = Str.ofString "numbers" then some (Value.ref nu) else m0 y))
    (N14 : News G L h₀ ((D3, LCg.lst ys2) :: ((z.c, z.oc) :: (lexLed wA.params (c.lx z) ++ [(169, tabObj #[rawInt 249, rawInt 4, .ref z.c])]) ++ [(D, LCg.lst ys), (ra, W.listOf rvs.toArray rn), (nu, W.listOf nvs.toArray nn), (L + 1 + 1 + 1 + 1 + 1, p5), (L + 1 + 1 + 1 + 1, p4), (L + 1 + 1 + 1, p3), (L + 1 + 1, o2), (L + 1, o1)])))
    (c1 : o1.data = .cell (some (.int TT tT)))
    (c2 : o2.data = .cell (some (.bytes (toB (txt [x0, x1])) tM)))
    (d3 : p3.data = .cell (some (.ref D)))
    (d4 : p4.data = .cell (some (.ref z.x)))
    (d5 : p5.data = .cell (some (.ref D3)))
    (hMk : MkOk x0 x1)
    (hTT : 0 ≤ TT)
    (hnl : ns.length = n)
    (hn4 : 4 ≤ n)
    (hn12 : n ≤ 12)
    (hns0 : (∀ v ∈ ns, 0 ≤ v))
    (hNum : IntsAre nvs ns)
    (hRows : BsAre rvs ((List.range n).map (rowB ns)))
    (hW : StrsAre ys ((List.range n).map fun k => txt (nameL x0 x1 ns k)))
    (hNm : StrsAre ys2 ((List.range n).map fun k => txt (nameL x0 x1 ns k)))
    (hnu : @LT.lt Nat _ (L + 1 + 1 + 1 + 1 + 1) nu)
    (hra : @LT.lt Nat _ nu ra)
    (hRl : rvs.length = n)
    (LZ : LxOk wA z)
    (hoc : CodeOk z.oc)
    (hzc : (@LT.lt Nat _ z.g z.c ∧ @LT.lt Nat _ z.c z.f))
    (htx : z.text = textL x0 x1 ns TT 0 n)
    (h169z : @LT.lt Nat _ 169 z.ct)
    (op0 : (@LT.lt Nat _ D z.ct ∧ @LT.lt Nat _ ra z.ct ∧ @LT.lt Nat _ nu z.ct))
    (hLn : LnOk (c.lx z))
    (hpre : (pre = [] ∨ ∃ c, pre = [c] ∧ Ws c))
    (hdr : z.text.drop c.gs.length = pre ++ textL x0 x1 ns TT n (n - n))
    (off3 : LCg.Off1 D3 ((z.c, z.oc) :: (lexLed wA.params (c.lx z) ++ [(169, tabObj #[rawInt 249, rawInt 4, .ref z.c])]) ++ [(D, LCg.lst ys), (ra, W.listOf rvs.toArray rn), (nu, W.listOf nvs.toArray nn), (L + 1 + 1 + 1 + 1 + 1, p5), (L + 1 + 1 + 1 + 1, p4), (L + 1 + 1 + 1, p3), (L + 1 + 1, o2), (L + 1, o1)]))
    (off : (@Ne Nat ra D ∧ @Ne Nat nu D ∧ @Ne Nat 169 D))
    (zT : (txt (textL x0 x1 ns TT 0 n)).length ≤ 132) :
    wpAny (model PySem.Challenge.rw_qh0051_01.row.prog wA) (callerA.deeper (envOfC (Str.ofString "law") (lawScope wA.params) L fa cd)) (execs ((lawBody wA.params).drop 9) (envOfC (Str.ofString "law") (lawScope wA.params) L fa cd)) Q (fun e s1 => wpAny (model PySem.Challenge.rw_qh0051_01.row.prog wA) (callerA.deeper (envOfC (Str.ofString "law") (lawScope wA.params) L fa cd)) (leaving (envOfC (Str.ofString "law") (lawScope wA.params) L fa cd) e) (fun _ s2 => E e s2) (fun e2 s2 => E e2 s2) s1) { s with heap := h₀, toks := tk₀ } := by
  have hFlag : FlagC := ⟨trivial⟩
  revert X; k_fill; intro X
  show wpAny _ (callerA.deeper (envOfC (Str.ofString "law") ⟨_, _, _, _, _⟩ L fa cd)) (execs [_, _, _, _, _, _, _, _, _, _] (envOfC (Str.ofString "law") ⟨_, _, _, _, _⟩ L fa cd)) Q (fun e s1 => wpAny _ (callerA.deeper (envOfC (Str.ofString "law") ⟨_, _, _, _, _⟩ L fa cd)) (leaving (envOfC (Str.ofString "law") ⟨_, _, _, _, _⟩ L fa cd) e) (fun _ s2 => E e s2) (fun e2 s2 => E e2 s2) s1) { s with heap := h₀, toks := tk₀ }
  obtain ⟨lt1, lt2, lt3⟩ := op0
  have Zl := LZ.lt
  have hoD := offD off3
  simp only [List.cons_append, List.nil_append, LCg.Off1, and_true] at off3
  dsimp only [List.cons_append, List.nil_append] at N14
  k_steps
  refine Stop.out ?_
  have hNl : nvs.length = n := by rw [hNum.length, hnl]
  refine LCg.CompSrc.ledger rfl F14 N14 (by k_mem) (by rw [List.size_toArray, sizeLine_eq]; omega) (fun g5 => ?_)
  refine comp_rest (σ := Unit) (fun _ => _) (fun i ys _ => StrsAre ys ((List.range i).map fun k => txt [if ns.getD k 0 % 8 < 4 then x0 else x1])) () .nil ?turnS ?doneS
  case turnS =>
    intro i ss c9 v I oI C oC D4 m₂ h tk E' hi hOk hP hN9 hx9 F9 N9 off9 ne
    (try k_fold)
    obtain ⟨k, t5, rfl, hk5⟩ := ints_get hNum (by simpa using hP)
    have hk0 := hns0 k (List.mem_of_getElem? hk5)
    have hm8 := Int.emod_lt_of_pos k (show (0 : Int) < 8 by decide)
    have hm8' := Int.emod_nonneg k (show (8 : Int) ≠ 0 by decide)
    have hxz : (toB (txt [x0, x1])).size = 2 := toB_len _
    k_steps
    refine Stop.out ?_
    have hMx0 : x0 < 256 := by have := hMk.2.1; omega
    have hMx1 : x1 < 256 := by have := hMk.2.2; omega
    refine mark_item hMx0 hMx1 (by rw [fmod8, fdiv4]; exact Int.ediv_nonneg (Int.emod_nonneg _ (by decide)) (by decide)) (by rw [fmod8, fdiv4]; exact Int.ediv_lt_of_lt_mul (by decide) (Int.emod_lt_of_pos _ (by decide))) (fun t8 k8 => ?_)
    have hxx : (0 : Int) ≤ (((if (k.fmod 8).fdiv 4 = 0 then x0 else x1 : Nat) : Nat) : Int) ∧ (((if (k.fmod 8).fdiv 4 = 0 then x0 else x1 : Nat) : Nat) : Int) < 256 := by split <;> omega
    have hxe : (if (k.fmod 8).fdiv 4 = 0 then x0 else x1 : Nat) = if ns.getD i 0 % 8 < 4 then x0 else x1 := by
      rw [getD_of hk5, fmod8, fdiv4]
      by_cases h9 : k % 8 < 4
      · rw [if_pos h9, if_pos (by omega)]
      · rw [if_neg h9, if_neg (by omega)]
    rw [hxe] at hxx ⊢
    generalize hxg : (if ns.getD i 0 % 8 < 4 then x0 else x1) = xg at hxx ⊢
    obtain ⟨hx0', hx1'⟩ := hxx
    k_steps
    rw [Int.toNat_natCast]
    exact ⟨(), _, _, _, rfl, F9, N9, (fun p hp => hp), off9, .inr ⟨_, (by k_mem), rfl, _, rfl⟩, by rw [List.range_succ, List.map_append, List.map_cons, List.map_nil, hxg]; exact hOk.append' (.cons _ _ .nil)⟩
  case doneS =>
    intro ss _ hSg D4 h tk F15 N15 off4
    rw [List.size_toArray, hNl] at hSg
    (try dsimp only at off4)
    simp only [List.cons_append, List.nil_append, LCg.Off1, and_true] at off4
    k_steps
    refine Stop.out ?_
    refine ne_lists (News.isList N15 (by k_mem)) (News.isList N15 (by k_mem)) (Eq2.strs hNm hW) (by first | ktr_units | decide | exact Nat.le_of_ble_eq_true rfl) ?_
    k_steps
    refine Stop.out ?_
    have hN2 : ys2.length = n := by rw [hNm.length, List.length_map, List.length_range]
    refine LCg.CompSrc.ledger rfl F15 N15 (ax := D3) (its := ys2.toArray) (by k_mem) (by rw [List.size_toArray, sizeLine_eq]; omega) (fun g6 => ?_)
    refine comp_rest (σ := Unit) (fun _ => _) (fun i ys _ => StrsAre ys ((List.range i).map fun k => txt [if ns.getD k 0 % 8 < 4 then x0 else x1])) () .nil ?turnH ?doneH
    case turnH =>
      intro i hs2 c9 v I oI C oC D5 m₂ h tk E' hi hOk hP hN9 hx9 F9 N9 off9 ne
      (try k_fold)
      rw [List.size_toArray, hN2] at hi
      obtain ⟨t9, ht9⟩ := strs_get hNm (j := i) (x := txt (nameL x0 x1 ns i)) (by rw [List.getElem?_map, List.getElem?_range hi]; rfl)
      obtain rfl := Option.some.inj (ht9.symm.trans (by simpa using hP))
      have hl4 : (txt (nameL x0 x1 ns i)).length = 4 := txt_len _
      k_steps
      rw [show Txt.item (txt (nameL x0 x1 ns i)) 0 = txt [if ns.getD i 0 % 8 < 4 then x0 else x1] from item0 _ _]
      exact ⟨(), _, _, _, rfl, F9, N9, (fun p hp => hp), off9, .inr ⟨_, (by k_mem), rfl, _, rfl⟩, by rw [List.range_succ, List.map_append]; exact hOk.append' (.cons _ _ .nil)⟩
    case doneH =>
      intro hs2 _ hHd D5 h tk F16 N16 off5
      rw [List.size_toArray, hN2] at hHd
      (try dsimp only at off5)
      simp only [List.cons_append, List.nil_append, LCg.Off1, and_true] at off5
      k_steps
      refine Stop.out ?_
      refine ne_lists (News.isList N16 (by k_mem)) (News.isList N16 (by k_mem)) (Eq2.strs hHd hSg) (by first | ktr_units | decide | exact Nat.le_of_ble_eq_true rfl) ?_
      have N17 := nsub N16 (fun p hp => List.mem_cons_of_mem _ (List.mem_cons_of_mem _ hp))
      clear N16 off5 off4 hHd hSg N15 F15
      k_steps
      refine Stop.out ?_
      refine LCg.CompSrc.ledger rfl F16 N17 (ax := D3) (its := ys2.toArray) (by k_mem) (by rw [List.size_toArray, sizeLine_eq]; omega) (fun g7 => ?_)
      refine comp_rest (σ := Unit) (fun _ => _) (fun i ys _ => BsAre ys ((List.range i).map (rowB ns))) () .nil ?turnD ?doneD
      case turnD =>
        intro i ds c9 v I oI C oC D6 m₂ h tk E' hi hOk hP hN9 hx9 F9 N9 off9 ne
        (try k_fold)
        rw [List.size_toArray, hN2] at hi
        have hi12 : i < 12 := by omega
        obtain ⟨t9, ht9⟩ := strs_get hNm (j := i) (x := txt (nameL x0 x1 ns i)) (by rw [List.getElem?_map, List.getElem?_range hi]; rfl)
        obtain rfl := Option.some.inj (ht9.symm.trans (by simpa using hP))
        have hl4 : (txt (nameL x0 x1 ns i)).length = 4 := txt_len _
        have hAs : Ascii (txt (nameL x0 x1 ns i)) := fun c hc => nameL_ascii hMk (ns := ns) hi12 c (by simpa using hc)
        have hdA := dec_at (v := ns.getD i 0) hi12
        k_steps
        refine Stop.out ?_
        refine c_dec (by k_asm) (by k_asm) (by k_asm) N9 (by k_asm) rfl (by ktr_room) (by ktr_units) hAs (by rw [hl4, sizeLine_eq]; omega) (toB_len _) (dec_name hMk hi12) hdA.1 hdA.2.1 hdA.2.2 (fun h' tk' t' F10 N10 => ?_)
        rw [dec_row hi12]
        exact ⟨(), _, _, _, rfl, F10, N10, (fun p hp => hp), off9, .inr ⟨_, (by k_mem), rfl, _, rfl⟩, by rw [List.range_succ, List.map_append]; exact hOk.append (.cons _ _ .nil)⟩
      case doneD =>
        intro ds _ hDs D6 h tk F18 N18 off6
        rw [List.size_toArray, hN2] at hDs
        (try dsimp only at off6)
        simp only [List.cons_append, List.nil_append, LCg.Off1, and_true] at off6
        k_steps
        refine Stop.out ?_
        refine ne_lists (News.isList N18 (by k_mem)) (News.isList N18 (by k_mem)) (Eq2.bs hDs hRows) (by first | ktr_units | decide | exact Nat.le_of_ble_eq_true rfl) ?_
        have N19 := nsub N18 (fun p hp => List.mem_cons_of_mem _ hp)
        clear N18 off6 hDs N17 F16
        k_steps
        refine Stop.out ?_
        have q5 : @LT.lt Nat _ (L + 1 + 1 + 1 + 1 + 1) z.ct := Nat.lt_trans hnu lt3
        have q4 := Nat.lt_of_succ_lt q5
        have q3 := Nat.lt_of_succ_lt q4
        have q2 := Nat.lt_of_succ_lt q3
        have q1 := Nat.lt_of_succ_lt q2
        have hTk9 : Tk (z.text.drop c.gs.length) [] [] := by rw [hdr, Nat.sub_self]; exact tk_end pre hpre
        refine c_get2 (z := c.lx z) (rest := (D3, LCg.lst ys2) :: (169, tabObj #[rawInt 249, rawInt 4, .ref z.c]) :: [(D, LCg.lst ys), (ra, W.listOf rvs.toArray rn), (nu, W.listOf nvs.toArray nn), (L + 1 + 1 + 1 + 1 + 1, p5), (L + 1 + 1 + 1 + 1, p4), (L + 1 + 1 + 1, p3), (L + 1 + 1, o2), (L + 1, o1)]) (by k_asm) (by k_asm) (by k_asm) (by kn_code) (nsub N19 (by k_dflt (repeat (first | exact sub_nil | (refine sub_cons ?_ ?_; (focus k_mem)) | (refine sub_app ?_ ?_) | (focus (intro p9 hp9; (repeat (first | exact hp9 | apply List.Mem.tail)); done)))))) ?offN ⟨LZ.spec, LZ.og, LZ.ot, LZ.lt⟩ (.inr hzc) (by k_asm) rfl (by ktr_room) (by ktr_units) ?tlen rfl (by show 0 ≤ 1000; decide) hLn hTk9 (fun h9 tk9 t9 gs9 gn9 ln9 tl9 F20 hLn9 hdr9 N20 => ?_)
        case offN => exact List.forall_mem_cons.mpr ⟨hoD, List.forall_mem_cons.mpr ⟨lex_off0 (z := c.lx z) Zl hzc (.inr h169z), List.forall_mem_cons.mpr ⟨lex_off0 (z := c.lx z) Zl hzc (.inr lt1), List.forall_mem_cons.mpr ⟨lex_off0 (z := c.lx z) Zl hzc (.inr lt2), List.forall_mem_cons.mpr ⟨lex_off0 (z := c.lx z) Zl hzc (.inr lt3), List.forall_mem_cons.mpr ⟨lex_off0 (z := c.lx z) Zl hzc (.inr q5), List.forall_mem_cons.mpr ⟨lex_off0 (z := c.lx z) Zl hzc (.inr q4), List.forall_mem_cons.mpr ⟨lex_off0 (z := c.lx z) Zl hzc (.inr q3), List.forall_mem_cons.mpr ⟨lex_off0 (z := c.lx z) Zl hzc (.inr q2), List.forall_mem_cons.mpr ⟨lex_off0 (z := c.lx z) Zl hzc (.inr q1), List.forall_mem_nil _⟩⟩⟩⟩⟩⟩⟩⟩⟩⟩
        case tlen =>
          show z.text.length ≤ 1000
          rw [htx]
          exact Nat.le_trans (textL_len x0 x1 ns TT n 0) (Nat.le_trans (Nat.mul_le_mul_left _ (by assumption)) (by decide))
        (try dsimp only)
        (try dsimp only at N20)
        dsimp only [List.cons_append, List.nil_append] at N20
        k_steps
        refine Stop.out ?_
        (with_reducible rename Fr _ _ _ _ => F21)
        (with_reducible rename News _ _ _ _ => N21)
        have hln9 : ln9 = 1 + Txt.count (txt (textL x0 x1 ns TT 0 n)) (Str.ofString "\n") := by
          rw [count10]
          have q1 : gs9.length ≤ z.text.length := hLn9.1
          have q2 : ln9 = 1 + ((z.text.take gs9.length).count 10 : Nat) := hLn9.2
          have q3 : z.text.drop gs9.length = [] := hdr9
          rw [q2, List.take_of_length_le (by have := congrArg List.length q3; rw [List.length_drop, List.length_nil] at this; omega), htx]
        refine ne_tup2 (News.isTup N21 (by k_mem)) (News.isTup N21 (by k_mem)) (by rw [empty_txt]; exact eqS _ _ _) (by rw [hln9]; exact eqI _ _ _) (by first | ktr_units | decide | exact Nat.le_of_ble_eq_true rfl) ?_
        have N22 := nsub N21 (fun p hp => List.mem_cons_of_mem _ (List.mem_cons_of_mem _ hp))
        have hD3c : @Ne Nat D3 z.c := fun e => off3.1 e.symm
        have hD39 : @Ne Nat D3 169 := by omega
        clear N21; (try clear N20); (try clear N19); (try clear F20); (try clear F18); (try clear off3)
        have hT0 : 0 ≤ TT.fmod 256 := by rw [fmod256]; omega
        have hT1 : TT.fmod 256 < 256 := by rw [fmod256]; omega
        k_steps
        refine Stop.out ?_
        refine c_told2 (by k_asm) F21 (by k_asm) N22 (by k_asm) rfl (by ktr_room) (by ktr_units) hn12 hT0 hT1 (fun ha tka A2 v2 a2n F23 hTo2 N23 hA2 => ?_)
        (try dsimp only)
        k_steps
        refine Stop.out ?_
        refine c_told4 (by k_asm) F23 (by k_asm) N23 (by k_asm) rfl (by ktr_room) (by ktr_units) hn12 hT0 hT1 (fun hb tkb A4 v4 a4n F24 hTo4 N24 hA4 => ?_)
        (try dsimp only)
        have hFlS : FlagS 14 := ⟨trivial⟩
        k_steps
        refine Stop.out ?_
        (with_reducible rename Fr _ _ _ _ => F25)
        (with_reducible rename News _ _ _ _ => N25)
        have hA2c : @Ne Nat A2 z.c := fun e => hA2 (z.c, z.oc) (by k_mem) e.symm
        have hA29 : @Ne Nat A2 169 := fun e => hA2 (169, tabObj #[rawInt 249, rawInt 4, .ref z.c]) (by k_mem) e.symm
        have hA4c : @Ne Nat A4 z.c := fun e => hA4 (z.c, z.oc) (by k_mem) e.symm
        have hA49 : @Ne Nat A4 169 := fun e => hA4 (169, tabObj #[rawInt 249, rawInt 4, .ref z.c]) (by k_mem) e.symm
        have q169 : @LT.lt Nat _ 169 z.c := by omega
        refine law_d K X T C h169 hQ (fr_over (fr_over (fr_over F25 (x := Str.ofString "count") (v := .int (n : Int) tc) (by rfl)) (x := Str.ofString "two") (v := .ref A2) (by rfl)) (x := Str.ofString "four") (v := .ref A4) (by rfl)) (nsub N25 (by k_dflt (repeat (first | exact sub_nil | (refine sub_cons ?_ ?_; (focus k_mem)) | (refine sub_app ?_ ?_) | (focus (intro p9 hp9; (repeat (first | exact hp9 | apply List.Mem.tail)); done)))))) d5 hTo2 hTo4 ⟨hNm⟩ hn4 hn12 hoc q169 hD39 hD3c hA29 hA2c hA49 hA4c (by omega) (by omega)
end
end
section
open PySem PySem.SeqAt PySem.W PyProof.Rows
set_option Elab.async false
set_option linter.unusedVariables false
set_option linter.unusedSimpArgs false
set_option linter.unusedSectionVars false
set_option pp.deepTerms false
set_option pp.deepTerms.threshold 6
set_option pp.proofs false
set_option maxRecDepth 100000
set_option compiler.extract_closed false
set_option rowWalk.seconds 0
set_option genInjectivity false
set_option genSizeOf false
section
variable {wA : World} {p : Program} {loose : List Str} {mean : ExcName → Option Value} {mg mb : Str → Option Value} {G : Heap} {L fa : Addr} {cd : Value} {s : Shared} {h₀ : Heap} {tk₀ : Nat} {Q : Flow → Shared → Prop} {E : Value → Shared → Prop}
  (K : Below callerA G [] G) (X : (hd.heap_1 wA.params).In G) (T : Top p loose mean mg mb G) (C : CodeHd G 173 169) (h169 : @LT.lt Nat _ 169 L) (hQ : ∀ h' tk' m', Fr G L h' m' → GrownAt 169 h' → Q (.ret (.bool true)) { s with heap := h', toks := tk' })
include K X T C h169 hQ
set_option maxHeartbeats 4000000 in
theorem law_b {ra nu : Addr} {rn nn : Nat} {n : Nat} {tc tT tM : Tok} {m0 : Str → Option Value} {rvs nvs : List Value} {ns : List Int} {TT : Int} {x0 x1 : Nat} {o1 o2 o3 o4 o5 : Obj}
    (F5 : Fr G L h₀ (fun z => if z = Str.ofString "rows" then some (Value.ref ra) else if z = Str.ofString "count" then some (Value.int (n : Int) tc) else if z = Str.ofString "numbers" then some (Value.ref nu) else m0 z))
    (N5 : News G L h₀ [(ra, W.listOf rvs.toArray rn), (nu, W.listOf nvs.toArray nn), (L + 1 + 1 + 1 + 1 + 1, o5), (L + 1 + 1 + 1 + 1, o4), (L + 1 + 1 + 1, o3), (L + 1 + 1, o2), (L + 1, o1), (169, tabObj #[])])
    (c1 : o1.data = .cell (some (.int TT tT)))
    (c2 : o2.data = .cell (some (.bytes (toB (txt [x0, x1])) tM)))
    (c3 : o3.data = .cell none)
    (c4 : o4.data = .cell none)
    (c5 : o5.data = .cell none)
    (hMk : MkOk x0 x1)
    (hTT : 0 ≤ TT)
    (hnl : ns.length = n)
    (hn4 : 4 ≤ n)
    (hn12 : n ≤ 12)
    (hns0 : (∀ v ∈ ns, 0 ≤ v))
    (hNum : IntsAre nvs ns)
    (hRows : BsAre rvs ((List.range n).map (rowB ns)))
    (hnu : @LT.lt Nat _ (L + 1 + 1 + 1 + 1 + 1) nu)
    (hra : @LT.lt Nat _ nu ra) :
    wpAny (model PySem.Challenge.rw_qh0051_01.row.prog wA) (callerA.deeper (envOfC (Str.ofString "law") (lawScope wA.params) L fa cd)) (execs ((lawBody wA.params).drop 5) (envOfC (Str.ofString "law") (lawScope wA.params) L fa cd)) Q (fun e s1 => wpAny (model PySem.Challenge.rw_qh0051_01.row.prog wA) (callerA.deeper (envOfC (Str.ofString "law") (lawScope wA.params) L fa cd)) (leaving (envOfC (Str.ofString "law") (lawScope wA.params) L fa cd) e) (fun _ s2 => E e s2) (fun e2 s2 => E e2 s2) s1) { s with heap := h₀, toks := tk₀ } := by
  have hFlag : FlagC := ⟨trivial⟩
  revert X; k_fill; intro X
  show wpAny _ (callerA.deeper (envOfC (Str.ofString "law") ⟨_, _, _, _, _⟩ L fa cd)) (execs [_, _, _, _, _, _, _, _, _, _, _, _, _, _] (envOfC (Str.ofString "law") ⟨_, _, _, _, _⟩ L fa cd)) Q (fun e s1 => wpAny _ (callerA.deeper (envOfC (Str.ofString "law") ⟨_, _, _, _, _⟩ L fa cd)) (leaving (envOfC (Str.ofString "law") ⟨_, _, _, _, _⟩ L fa cd) e) (fun _ s2 => E e s2) (fun e2 s2 => E e2 s2) s1) { s with heap := h₀, toks := tk₀ }
  have hxz : (toB (txt [x0, x1])).size = 2 := toB_len _
  k_steps
  refine Stop.out ?_
  have hRl : rvs.length = n := by rw [hRows.length, List.length_map, List.length_range]
  refine LCg.CompSrc.ledger rfl F5 N5 (.head _) (by rw [List.size_toArray, sizeLine_eq]; omega) (fun g2 => ?_)
  refine comp_rest (σ := Unit) (fun _ => _) (fun i ys _ => StrsAre ys ((List.range i).map fun k => txt (nameL x0 x1 ns k))) () .nil ?turnW ?doneW
  case turnW =>
    intro i ys c v I oI C oC D m₂ h tk E' hi hOk hP hN9 hx9 F6 N6 off ne
    rw [List.size_toArray, hRl] at hi
    obtain ⟨b5, t5, rfl, hb5⟩ := bs_get hRows (by simpa using hP)
    have hb6 : b5 = rowB ns i := by
      rw [List.getElem?_map, List.getElem?_range hi] at hb5
      exact (Option.some.inj hb5).symm
    subst hb6
    have hi12 : i < 12 := by omega
    have hE9 := enc_name hMk (ns := ns) hi12
    have hE8 : AsciiB (trans (transTab #[43, 47] (toB (txt [x0, x1]))) (byteArr (encL (KBw.bInts (rowB ns i))))) := by rw [hE9]; exact toB_asciiB (nameL_ascii hMk hi12)
    have hE7 : (trans (transTab #[43, 47] (toB (txt [x0, x1]))) (byteArr (encL (KBw.bInts (rowB ns i))))).size = 4 := by rw [hE9]; exact toB_len _
    k_steps
    (with_reducible rename Fr _ _ _ _ => F8)
    (with_reducible rename News _ _ _ _ => N8)
    exact ⟨(), _, _, _, rfl, F8, N8, (fun p hp => hp), off, .inr ⟨_, .head _, rfl, _, rfl⟩, by rw [hE9, ofB_toB (nameL_ascii hMk hi12), List.range_succ, List.map_append]; exact hOk.append' (.cons _ _ .nil)⟩
  case doneW =>
    intro ys _ hW D h tk F6 N6 off
    rw [List.size_toArray, hRl] at hW
    (try simp only [LCg.Off1, and_true] at off)
    clear hxz F5 N5
    k_steps
    refine Stop.out ?_
    (with_reducible rename Fr _ _ _ _ => F7)
    (with_reducible rename News _ _ _ _ => N7)
    (with_reducible rename IsRange _ _ _ _ _ _ _ _ => hR7)
    (with_reducible rename Obj => p3)
    (with_reducible rename p3.data = Data.cell (some (Value.ref D)) => d3)
    refine LCg.CompSrc.range rfl F7 N7 hR7 (small13 (by omega)) (rsize13 (by omega)) (by rw [sizeLine_eq]; omega) (fun g3 => ?_)
    refine comp_rest (σ := Unit) (fun _ => _) (fun i ys _ => StrsAre ys ((List.range i).map fun k => txt (pieceL x0 x1 ns TT k))) () .nil ?turnX ?doneX
    case turnX =>
      intro i zs c v I oI C oC D2 m₂ h tk E' hi hOk hP hN9 hx9 F9 N9 off ne
      obtain ⟨t5, rfl⟩ := hP
      have hi12 : i < 12 := by omega
      have hAs := nameL_ascii hMk (ns := ns) hi12
      rw [show ((0 : Int) + (i : Int)) = (i : Int) from Int.zero_add _] at hx9
      k_steps
      refine Stop.out ?_
      (with_reducible rename News _ _ _ _ => N10)
      refine item_in1 (x := txt (nameL x0 x1 ns i)) (News.isList N10 (by k_mem)) hW (by rw [List.getElem?_map, List.getElem?_range hi]; rfl) (by omega) (fun t6 => ?_)
      k_steps
      rw [sep_item]
      have z8 : (txt [sepC i]).length = 1 := txt_len _
      have z9 := wordL_len ((TT + (i : Int)).fmod 2 == 1) x0 x1 ns i
      k_steps
      (with_reducible rename Fr _ _ _ _ => F10)
      (with_reducible rename News _ _ _ _ => N11)
      exact ⟨(), _, _, _, rfl, F10, N11, (fun p hp => hp), off, trivial, by rw [txt_app, List.range_succ, List.map_append]; exact hOk.append' (.cons _ _ .nil)⟩
    case doneX =>
      intro zs _ hX D2 h tk F8 N8 off2
      (try simp only [LCg.Off1, and_true] at off2)
      k_steps
      refine join_list (News.isList (by k_asm) (by k_mem)) hX ?sm ?_
      case sm => (rw [show (Str.ofString "").length = 0 from rfl, Nat.mul_zero, Nat.add_zero]; exact Nat.le_trans (sum_piece x0 x1 ns TT (List.range n)) (by rw [List.length_range]; omega))
      intro t7 k7
      have ej : Txt.join (Str.ofString "") ((List.range n).map fun k => txt (pieceL x0 x1 ns TT k)) = txt (textL x0 x1 ns TT 0 n) := by
        rw [join_txt, join_flat, textL_flat, List.flatMap_def]
        simp only [Nat.zero_add]
      rw [ej]
      have zT : (txt (textL x0 x1 ns TT 0 n)).length ≤ 132 := by rw [txt_len]; have := textL_len x0 x1 ns TT n 0; omega
      k_steps
      refine Stop.out ?_
      (with_reducible rename Fr _ _ _ _ => F11)
      (with_reducible rename News _ _ _ _ => N11)
      refine c_lexer0 (rest := [(D, LCg.lst ys), (ra, W.listOf rvs.toArray rn), (nu, W.listOf nvs.toArray nn), (L + 1 + 1 + 1 + 1 + 1, o5), (L + 1 + 1 + 1 + 1, o4), (L + 1 + 1 + 1, p3), (L + 1 + 1, o2), (L + 1, o1)]) (by k_asm) F11 (by k_asm) (by kn_code) (nsub N11 (by k_dflt (repeat (first | exact sub_nil | (refine sub_cons ?_ ?_; (focus k_mem)) | (refine sub_app ?_ ?_) | (focus (intro p9 hp9; (repeat (first | exact hp9 | apply List.Mem.tail)); done)))))) ?offL (by k_asm) rfl (by ktr_room) (by ktr_units) (fun h6 tk6 z F6 LZ hoc hzc hps hgs hln htx hlt h169z N6 => ?_)
      case offL => exact List.forall_mem_cons.mpr ⟨notin169 (by dsimp only; omega), List.forall_mem_cons.mpr ⟨notin169 (by dsimp only; omega), List.forall_mem_cons.mpr ⟨notin169 (by dsimp only; omega), List.forall_mem_cons.mpr ⟨notin169 (by dsimp only; omega), List.forall_mem_cons.mpr ⟨notin169 (by dsimp only; omega), List.forall_mem_cons.mpr ⟨notin169 (by dsimp only; omega), List.forall_mem_cons.mpr ⟨notin169 (by dsimp only; omega), List.forall_mem_cons.mpr ⟨notin169 (by dsimp only; omega), List.forall_mem_nil _⟩⟩⟩⟩⟩⟩⟩⟩
      have Zl := LZ.lt
      obtain ⟨lt1, lt2, lt3, lt4, lt5, lt6, lt7, lt8⟩ := all8 hlt
      (try dsimp only at lt1 lt2 lt3 lt4 lt5 lt6 lt7 lt8)
      clear N11 F11 hlt
      (try dsimp only)
      simp only [List.cons_append, List.nil_append, List.append_nil] at N6
      k_steps
      refine Stop.out ?_
      (with_reducible rename Fr _ _ _ _ => F12)
      (with_reducible rename News _ _ _ _ => N12)
      (with_reducible rename Obj => p4)
      (with_reducible rename p4.data = Data.cell (some (Value.ref z.x)) => d4)
      rw [hps] at N12
      refine LCg.CompSrc.ledger (news := (z.c, z.oc) :: (lexLed wA.params ((⟨z.gs, z.gn, z.ln, z.tl, [], 0⟩ : Gt).lx z) ++ [(169, tabObj #[rawInt 249, rawInt 4, .ref z.c])]) ++ [(D, LCg.lst ys), (ra, W.listOf rvs.toArray rn), (nu, W.listOf nvs.toArray nn), (L + 1 + 1 + 1 + 1 + 1, o5), (L + 1 + 1 + 1 + 1, p4), (L + 1 + 1 + 1, p3), (L + 1 + 1, o2), (L + 1, o1)]) rfl F12 (nsub N12 (by k_dflt (repeat (first | exact sub_nil | (refine sub_cons ?_ ?_; (focus k_mem)) | (refine sub_app ?_ ?_) | (focus (intro p9 hp9; (repeat (first | exact hp9 | apply List.Mem.tail)); done)))))) (by k_mem) (by rw [List.size_toArray, sizeLine_eq]; omega) (fun g4 => ?_)
      refine comp_rest (σ := Gt) (fun c => (z.c, z.oc) :: (lexLed wA.params (c.lx z) ++ [(169, tabObj #[rawInt 249, rawInt 4, .ref z.c])]) ++ [(D, LCg.lst ys), (ra, W.listOf rvs.toArray rn), (nu, W.listOf nvs.toArray nn), (L + 1 + 1 + 1 + 1 + 1, o5), (L + 1 + 1 + 1 + 1, p4), (L + 1 + 1 + 1, p3), (L + 1 + 1, o2), (L + 1, o1)]) (fun i ys c => StrsAre ys ((List.range i).map fun k => txt (nameL x0 x1 ns k)) ∧ LnOk (c.lx z) ∧ ∃ pre : List Nat, (pre = [] ∨ ∃ c, pre = [c] ∧ Ws c) ∧ z.text.drop c.gs.length = pre ++ textL x0 x1 ns TT i (n - i)) (⟨z.gs, z.gn, z.ln, z.tl, [], 0⟩ : Gt) ?h0N ?turnN ?doneN
      case h0N =>
        refine ⟨.nil, ⟨by show z.gs.length ≤ _; rw [hgs]; exact Nat.zero_le _, ?_⟩, [], .inl rfl, ?_⟩
        · show z.ln = 1 + (((z.text.take z.gs.length).count 10 : Nat) : Int)
          rw [hgs, hln]; rfl
        · show z.text.drop z.gs.length = [] ++ textL x0 x1 ns TT 0 (n - 0)
          rw [hgs, htx]; rfl
      case turnN =>
        intro i ys2 c v I oI C oC D3 m₂ h tk E' hi p9x18 hP hN9 hx9 F9 N9 off ne
        obtain ⟨hy, hLn, pre, hpre, hdr⟩ := p9x18
        rw [List.size_toArray, hRl] at hi
        have hi12 : i < 12 := by omega
        (try dsimp only at N9)
        dsimp only [List.cons_append, List.nil_append] at N9
        k_steps
        refine Stop.out ?_
        (with_reducible rename News _ _ _ _ => N10)
        obtain ⟨pre', hpre', hTk⟩ := tk_piece hMk (ns := ns) (T := TT) hi12 pre hpre (textL x0 x1 ns TT (i + 1) (n - (i + 1)))
        rw [← textL_step hi, ← hdr] at hTk
        have hoN := offN off
        refine c_get2 (z := c.lx z) (rest := (I, oI) :: (C, oC) :: (D3, LCg.lst ys2) :: (169, tabObj #[rawInt 249, rawInt 4, .ref z.c]) :: [(D, LCg.lst ys), (ra, W.listOf rvs.toArray rn), (nu, W.listOf nvs.toArray nn), (L + 1 + 1 + 1 + 1 + 1, o5), (L + 1 + 1 + 1 + 1, p4), (L + 1 + 1 + 1, p3), (L + 1 + 1, o2), (L + 1, o1)]) (by k_asm) (by k_asm) (by k_asm) (by kn_code) (nsub N10 (by k_dflt (repeat (first | exact sub_nil | (refine sub_cons ?_ ?_; (focus k_mem)) | (refine sub_app ?_ ?_) | (focus (intro p9 hp9; (repeat (first | exact hp9 | apply List.Mem.tail)); done)))))) ?offN ⟨LZ.spec, LZ.og, LZ.ot, LZ.lt⟩ (.inr hzc) (by k_asm) rfl (by ktr_room) (by ktr_units) ?tlen rfl (by show 4 ≤ 1000; decide) hLn hTk (fun h9 tk9 t9 gs9 gn9 ln9 tl9 F10 hLn9 hdr9 N11 => ?_)
        case offN => exact List.forall_mem_cons.mpr ⟨hoN.1, List.forall_mem_cons.mpr ⟨hoN.2.1, List.forall_mem_cons.mpr ⟨hoN.2.2, List.forall_mem_cons.mpr ⟨lex_off0 (z := c.lx z) Zl hzc (.inr h169z), List.forall_mem_cons.mpr ⟨lex_off0 (z := c.lx z) Zl hzc (.inr lt1), List.forall_mem_cons.mpr ⟨lex_off0 (z := c.lx z) Zl hzc (.inr lt2), List.forall_mem_cons.mpr ⟨lex_off0 (z := c.lx z) Zl hzc (.inr lt3), List.forall_mem_cons.mpr ⟨lex_off0 (z := c.lx z) Zl hzc (.inr lt4), List.forall_mem_cons.mpr ⟨lex_off0 (z := c.lx z) Zl hzc (.inr lt5), List.forall_mem_cons.mpr ⟨lex_off0 (z := c.lx z) Zl hzc (.inr lt6), List.forall_mem_cons.mpr ⟨lex_off0 (z := c.lx z) Zl hzc (.inr lt7), List.forall_mem_cons.mpr ⟨lex_off0 (z := c.lx z) Zl hzc (.inr lt8), List.forall_mem_nil _⟩⟩⟩⟩⟩⟩⟩⟩⟩⟩⟩⟩
        case tlen =>
          show z.text.length ≤ 1000
          rw [htx]
          exact Nat.le_trans (textL_len x0 x1 ns TT n 0) (Nat.le_trans (Nat.mul_le_mul_left _ (by assumption)) (by decide))
        (try dsimp only)
        exact ⟨⟨gs9, gn9, ln9, tl9, [], 0⟩, _, _, _, rfl, F10, N11, (by k_dflt (repeat (first | exact sub_nil | (refine sub_cons ?_ ?_; (focus k_mem)) | (refine sub_app ?_ ?_) | (focus (intro p9 hp9; (repeat (first | exact hp9 | apply List.Mem.tail)); done))))), off, .inr ⟨_, (by k_mem), rfl, _, rfl⟩, by rw [List.range_succ, List.map_append]; exact hy.append' (.cons _ _ .nil), hLn9, pre', hpre', hdr9⟩
      case doneN =>
        intro ys2 c p9x19 D3 h tk F13 N13 off3
        obtain ⟨hNm, hLn, pre, hpre, hdr⟩ := p9x19
        have off3c := off3
        have hFlS : FlagS 9 := ⟨trivial⟩
        rw [List.size_toArray, hRl] at hNm hdr
        (try dsimp only at off3)
        simp only [List.cons_append, List.nil_append, LCg.Off1, and_true] at off3
        (try dsimp only at N13)
        dsimp only [List.cons_append, List.nil_append] at N13
        k_steps
        refine Stop.out ?_
        (with_reducible rename Fr _ _ _ _ => F14)
        (with_reducible rename News _ _ _ _ => N14)
        (with_reducible rename Obj => p5)
        (with_reducible rename p5.data = Data.cell (some (Value.ref D3)) => d5)
        (try dsimp only)
        refine law_c K X T C h169 hQ F14 (nsub N14 (by k_dflt (repeat (first | exact sub_nil | (refine sub_cons ?_ ?_; (focus k_mem)) | (refine sub_app ?_ ?_) | (focus (intro p9 hp9; (repeat (first | exact hp9 | apply List.Mem.tail)); done)))))) c1 c2 d3 d4 d5 hMk hTT hnl hn4 hn12 hns0 hNum hRows hW hNm hnu hra hRl LZ hoc hzc htx h169z ⟨lt1, lt2, lt3⟩ hLn hpre hdr off3c ⟨off.1, off.2.1, off.2.2.2.2.2.2.2⟩ zT
end
end
section
open PySem PySem.SeqAt PySem.W PyProof.Rows
set_option Elab.async false
set_option linter.unusedVariables false
set_option linter.unusedSimpArgs false
set_option linter.unusedSectionVars false
set_option pp.deepTerms false
set_option pp.deepTerms.threshold 6
set_option pp.proofs false
set_option maxRecDepth 100000
set_option compiler.extract_closed false
set_option rowWalk.seconds 0
set_option maxHeartbeats 4000000 in
theorem law_all : PySem.Challenge.rw_qh0051_01.Holds := hd (by
  k_go0
  (all_goals try k_fold)
  (with_reducible rename Fr _ _ _ _ => F0)
  (with_reducible rename News _ _ _ _ => N0)
  rename_i wA s0A sA mgA mbA GA YA faA oA pmA cdA docA hoA hcdA hgA XA VA TA BA TEA TWA scr hsA hlA hL1A hr1A hl2A w9A w8A laA lvA w5A hLA raA w1A r0A hIA hrA hc1A hc2A hDA h1A tk1A u4 u3 u2 u1 u0 le3 le2 le1 le0 ri0 X0A XpA TpA KpA l0A
  k_steps
  refine Stop.out ?_
  (with_reducible rename News _ _ _ _ => N1)
  (with_reducible rename Fr _ _ _ _ => F1)
  (with_reducible rename IntsAre _ (_ ++ _) => hNum)
  (with_reducible rename Obj => oT)
  (with_reducible rename oT.data = Data.cell _ => dT)
  refine marks_item (News.isList N1 (.head _)) (fmod6 _).1 (fmod6 _).2 (fun x0 x1 t1 hMk => ?_)
  have hxa := mk_ascii hMk
  have hFlag : FlagC := ⟨trivial⟩
  have hxz : (txt [x0, x1]).length ≤ sizeLine := by rw [txt_len, sizeLine_eq]; simp
  k_steps
  refine Stop.out ?_
  k_dflt (refine Assign_ListComp_E (F₀ := by k_asm) (by rfl) (by with_unfolding_all rfl) (by rfl) (by decide) (by rfl) (by decide) (by rfl) (by rfl) (by decide) (by rfl) (by rfl) ?_)
  k_steps
  refine Stop.out ?_
  (with_reducible rename News _ _ _ _ => N2)
  (with_reducible rename Fr _ _ _ _ => F2)
  (with_reducible rename Obj => oM)
  (with_reducible rename oM.data = Data.cell _ => dM)
  have hns := ns_facts hNum
  have hnl := ns_len hNum
  generalize ([20, 63, 9, 102] : List Int) ++ List.map _ _ = ns at hNum hns hnl
  refine enum_src (fun i ys => BsAre ys ((List.range i).map (rowB ns))) rfl F2 N2 (by k_mem) (by rw [hNum.length, sizeLine_eq]; omega) .nil ?turn1 ?done1
  case turn1 =>
    intro g i ys v t En oE I oI C oC D m₂ h tk E' hv hOk hC hma hmb F3 N3
    (try k_fold)
    obtain ⟨v, tv, rfl, hvn⟩ := ints_get hNum hv
    have hv0 := hns.2.2 v (List.mem_of_getElem? hvn)
    have hi : i < ns.length := (List.getElem?_eq_some_iff.mp hvn).1
    k_steps
    have hm8 := Int.emod_lt_of_pos v (show (0 : Int) < 8 by decide)
    have hm8' := Int.emod_nonneg v (show (8 : Int) ≠ 0 by decide)
    have hm16 := Int.emod_lt_of_pos (v / 8) (show (0 : Int) < 16 by decide)
    have hm16' := Int.emod_nonneg (v / 8) (show (16 : Int) ≠ 0 by decide)
    refine call_bytes_ints (News.isList (by k_asm) (.head _)) (.cons _ _ (.cons _ _ .nil)) (List.forall_mem_cons.mpr ⟨by rw [fmod8]; omega, List.forall_mem_cons.mpr ⟨by rw [fdiv8, fmod16]; omega, List.forall_mem_nil _⟩⟩) (by rw [sizeLine_eq]; simp) rfl (fun h7 t7 k7 keep7 => ⟨_, _, _, rfl, Fr.keeps (by k_asm) keep7, News.grown (by k_asm) keep7, (fun p hp => .tail _ hp), ?_⟩)
    rw [List.range_succ, List.map_append]
    refine hOk.append ?_
    have e9 : rowB ns i = byteArr [248 + v.fmod 8, 16 * (i : Int) + (v.fdiv 8).fmod 16] := by unfold rowB rowI; rw [getD_of hvn, fmod8, fdiv8, fmod16]
    rw [List.map_cons, List.map_nil, e9]
    exact .cons _ _ .nil
  case done1 =>
    intro D h tk ys hOk F3 N3 offD
    (try dsimp only)
    have e9 := hNum.length
    rw [e9, hnl] at hOk
    refine law_b (nn := 0) (rn := ys.length) (o1 := oT) (o2 := oM) (o3 := u2) (o4 := u3) (o5 := u4) KpA XpA TpA codeHd l0A ?hQ F3 (nsub N3 (by k_dflt (repeat (first | exact sub_nil | (refine sub_cons ?_ ?_; (focus k_mem)) | (refine sub_app ?_ ?_) | (focus (intro p9 hp9; (repeat (first | exact hp9 | apply List.Mem.tail)); done)))))) dT dM (by rw [le1]; rfl) (by rw [le2]; rfl) (by rw [le3]; rfl) hMk (cells_sum _) hnl (by omega) (by omega) hns.2.2 hNum hOk ?hnu ?hra
    case hQ =>
      intro h' tk' m' F' g'
      refine And.intro ?_ ⟨g', True.intro⟩
      refine goodW_bool F' hgA (raisesW_false ?_) ?_
      · wrow_none_raised
      · kc_post
    case hnu => omega
    case hra => (k_lt offD; omega)
)
end
end
end
end
end
end Mine
theorem PySem.Challenge.cw_qh0051_01_holds : PySem.Challenge.rw_qh0051_01.Holds :=
  Mine.law_all
