import PyProof.Rows.All
import Wide.All
import OpenK.AllK
import Wide.FinOn
import PySem.Challenge.RW_qh0011_01
open PySem PySem.W PyProof.Rows
set_option Elab.async false
set_option maxRecDepth 100000
set_option maxHeartbeats 0
set_option linter.all false
set_option linter.unusedVariables false
set_option linter.unusedSectionVars false
set_option linter.unnecessarySimpa false
namespace Mine
open_top hd for PySem.Challenge.rw_qh0011_01
theorem walk_off : True := by
  w_top off
  trivial
/-- a goal that the walk leaves alone -/
structure Held (P : Prop) : Prop where
  out : P
theorem hold {P : Prop} (h : Held P) : P := h.out
def AllAt (m : Str → Option Value) : List (Str × Value) → Prop
  | [] => True
  | (n, v) :: r => m n = some v ∧ AllAt m r
def ovl : List (Str × Value) → (Str → Option Value) → Str → Option Value
  | [], m => m
  | (n, v) :: r, m => fun y => if y = n then some v else ovl r m y
theorem ovl_eq {m : Str → Option Value} : ∀ {bs : List (Str × Value)}, AllAt m bs → ovl bs m = m
  | [], _ => rfl
  | (n, v) :: r, h => by
    funext y
    show (if y = n then some v else ovl r m y) = m y
    split
    · rename_i e; rw [e]; exact h.1.symm
    · rw [ovl_eq h.2]
theorem ovl_fr {h₀ h : Heap} {L : Addr} {m : Str → Option Value} {bs : List (Str × Value)} (F : Fr h₀ L h m) (e : AllAt m bs) : Fr h₀ L h (ovl bs m) := by rw [ovl_eq e]; exact F
theorem ia_snoc {n : Int} {t : Tok} : ∀ {vs : List Value} {ns : List Int}, IntsAre vs ns → IntsAre (vs ++ [.int n t]) (ns ++ [n])
  | _, _, .nil => .cons n t .nil
  | _, _, .cons a b h => .cons a b (ia_snoc h)
theorem news_push {lo : Addr} {vs : List Value} {v : Value} {ep : Nat} {news : List (Addr × Obj)} : (lo, W.listOf (vs.toArray.push v) ep) :: news = (lo, W.listOf (vs ++ [v]).toArray ep) :: news := by rw [List.push_toArray]
theorem take_snoc {α : Type} {d : α} (b : List α) (j : Nat) (h : j < b.length) : b.take (j + 1) = b.take j ++ [b.getD j d] := by
  rw [List.take_succ, List.getD_eq_getElem?_getD]
  congr 1
  rw [List.getElem?_eq_getElem h]; rfl
theorem back_u8 (b : List UInt8) : ((b.map fun c => (c.toNat : Int)).map fun n => n.toNat.toUInt8) = b := by
  rw [List.map_map]
  conv => rhs; rw [← List.map_id b]
  refine List.map_congr_left fun c _ => ?_
  show ((c.toNat : Int).toNat).toUInt8 = c
  rw [Int.toNat_natCast]
  exact UInt8.ofNat_toNat
theorem in_u8 (b : List UInt8) : ∀ n ∈ (b.map fun c => (c.toNat : Int)), 0 ≤ n ∧ n < 256 := by
  intro n hn
  obtain ⟨c, _, rfl⟩ := List.mem_map.mp hn
  have := c.toNat_lt
  omega
theorem ca_bytes {prog : Program} {w : World} {A : Around} {E : Value → Shared → Prop} {s : Shared} {h₀ : Heap} {L : Addr} {m : Str → Option Value} {news : List (Addr × Obj)} {l : Addr} {vs : List Value} {b : List UInt8} {Q : Value → Shared → Prop} (F : Fr h₀ L s.heap m) (N : News h₀ L s.heap news) (hl : s.heap.IsList l vs.toArray) (hi : IntsAre vs (b.map fun c => (c.toNat : Int))) (hz : vs.length ≤ sizeLine) (hh : A.handled = none)
    (h : ∀ h' t k, Fr h₀ L h' m → News h₀ L h' news → Q (.bytes b.toArray t) { s with heap := h', toks := k }) : wpAny (model prog w) A (call (.type "bytes") [.ref l]) Q E s :=
  bytes_K F N hl hi (in_u8 b) hz hh fun h' t k F' N' _ => by rw [back_u8]; exact h h' t k F' N'
theorem news_drop {h₀ h : Heap} {L : Addr} {p : Addr × Obj} {news : List (Addr × Obj)} (N : News h₀ L h (p :: news)) : News h₀ L h news := fun q hq => N q (List.mem_cons_of_mem _ hq)
theorem ne_all {l : List (Addr × Obj)} {a : Addr} (h : ∀ p ∈ l, p.1 < a) : ∀ p ∈ l, p.1 ≠ a := fun p hp => Nat.ne_of_lt (h p hp)
theorem is_int_ref {M : Model} {A : Around} {E : Value → Shared → Prop} {s : Shared} {Q : Value → Shared → Prop} {n : Int} {t : Tok} {a : Addr} (h : Q (.bool false) s) : wpAny M A (compareOp .Is (.int n t) (.ref a)) Q E s := wpAny_is_other (by rfl) (by intro x; cases x) h
theorem ty_bytes {prog : Program} {w : World} {A : Around} {E : Value → Shared → Prop} {s : Shared} {Q : Value → Shared → Prop} {b : Array UInt8} {t : Tok} (h : Q (.type "bytes") s) : wpAny (model prog w) A (call (.type "type") [.bytes b t]) Q E s := call_type_of (Tx := "bytes") rfl (by decide) h
local macro_rules | `(tactic| ktr_enter) => `(tactic| (refine wpAny_call ?_; k_dflt (refine code_def (by k_asm) (by k_asm) (by k_asm) (by k_asm) (by k_asm) (by assumption) (by assumption) (by assumption) (by k_is) (by k_is) (by omega) (by first | exact BindsTo.of_eq rfl | exact binds_K (by k_in) rfl (by k_is) rfl rfl rfl) (by exact locs rfl) ?_ (by exact rfl) (by exact rfl) (by exact rfl) (by decide); intro _ _ _ _ _ _ _ _ _; (try dsimp only); (try k_fold))))
local macro_rules | `(tactic| walk_at "call type:type") => `(tactic| (with_reducible refine ty_bytes ?_))
local macro_rules | `(tactic| walk_at "exec While Compare cons nil") => `(tactic| (refine hold ?_))
local macro_rules | `(tactic| walk_at "exec While BoolOp cons nil") => `(tactic| (refine hold ?_))
local macro_rules | `(tactic| walk_at "subscriptTail") => `(tactic| (k_here; with_reducible refine KBy.item_N ?_ ?_ ?_ ?_; omega; omega; omega))
local macro_rules | `(tactic| k_all) => `(tactic| (refine ne_all ?_; assumption))
local macro_rules | `(tactic| walk_at "call type:bytes") => `(tactic| (k_here; k_dflt (refine ca_bytes (by k_asm) (by k_asm) (by is_list) (by assumption) (by rw [sizeLine_eq]; omega) (by assumption) ?_; k_whole); intro _ _ _ _ _; (try dsimp only)))
local macro_rules | `(tactic| walk_at "exec For Name Name cons nil") => `(tactic| (refine hold ?_))
local macro_rules | `(tactic| walk_at "compareOp Is") => `(tactic| (k_here; with_reducible refine is_int_ref ?_))
local macro_rules | `(tactic| walk_at "callWith ref") => `(tactic| (k_here; k_dflt (refine callWith_F (FnAt.of (by k_asm) (by k_mem)) ?_; k_whole)))
local macro_rules | `(tactic| k_mem) => `(tactic| with_reducible_and_instances assumption)
local macro_rules | `(tactic| k_steps) => `(tactic| repeat' (first | (k_unfold; (try dsimp only)) | (k_end; wrow_close) | (dsimp only; walk1) | walk1 | (leave1; (try dsimp only))))
-- needs: base
abbrev prg := PySem.Challenge.rw_qh0011_01.row.prog
section
variable {w : World} {p : Program} {loose : List Str} {mean : ExcName → Option Value} {mg mb : Str → Option Value} {A : Around} {env : Env} {outer : List Env} {A₀ : Around} {base h₀ : Heap} {L : Addr} {m : Str → Option Value} {news : List (Addr × Obj)} {s : Shared} {Q E : Value → Shared → Prop}
  (B : Below A₀ base outer h₀) (F : Fr h₀ L s.heap m) (X : (hd.heap_39 w.params).In h₀) (N : News h₀ L s.heap news) (T : Top p loose mean mg mb h₀)
  (hA : A.frames = some (env :: outer)) (hf : env.frame = some L) (hke : env.scope.kind = .function) (hh : A.handled = none)
include B F X N T hA hf hke hh
theorem c_hexv {c v : Int} {tc : Tok} (hdp : A.depth + 10 < recursionLimit) (hun : A.units + 80 < cLine) (hc : (48 ≤ c ∧ c ≤ 57 ∧ v = c - 48) ∨ (65 ≤ c ∧ c ≤ 70 ∧ v = c - 55))
    (ret : ∀ t h' tk', Fr h₀ L h' m → News h₀ L h' news → Q (.int v t) { s with heap := h', toks := tk' }) :
    wpAny (model prg w) A (call (.ref 131) [.int c tc]) Q E s := by
  rcases hc with ⟨h1, h2, rfl⟩ | ⟨h1, h2, rfl⟩
  all_goals
    ktr_enter
    k_steps
    exact ret _ _ _ (by assumption) (by assumption)
theorem c_b64v {c v : Int} {tc : Tok} (hdp : A.depth + 10 < recursionLimit) (hun : A.units + 80 < cLine) (hc : (65 ≤ c ∧ c ≤ 90 ∧ v = c - 65) ∨ (97 ≤ c ∧ c ≤ 122 ∧ v = c - 71) ∨ (48 ≤ c ∧ c ≤ 57 ∧ v = c + 4) ∨ (c = 43 ∧ v = 62) ∨ (c = 47 ∧ v = 63))
    (ret : ∀ t h' tk', Fr h₀ L h' m → News h₀ L h' news → Q (.int v t) { s with heap := h', toks := tk' }) :
    wpAny (model prg w) A (call (.ref 99) [.int c tc]) Q E s := by
  rcases hc with ⟨h1, h2, rfl⟩ | ⟨h1, h2, rfl⟩ | ⟨h1, h2, rfl⟩ | ⟨rfl, rfl⟩ | ⟨rfl, rfl⟩
  all_goals
    ktr_enter
    k_steps
    exact ret _ _ _ (by assumption) (by assumption)
theorem c_buffer {b : List UInt8} {tb : Tok} (hdp : A.depth + 10 < recursionLimit) (hun : A.units + 80 < cLine)
    (ret : ∀ h' tk', Fr h₀ L h' m → News h₀ L h' news → Q (.bytes b.toArray tb) { s with heap := h', toks := tk' }) :
    wpAny (model prg w) A (call (.ref 85) [.bytes b.toArray tb]) Q E s := by
  ktr_enter
  k_steps
  exact ret _ _ (by assumption) (by assumption)
theorem c_abuffer {b : List UInt8} {tb : Tok} (hdp : A.depth + 10 < recursionLimit) (hun : A.units + 80 < cLine)
    (ret : ∀ h' tk', Fr h₀ L h' m → News h₀ L h' news → Q (.bytes b.toArray tb) { s with heap := h', toks := tk' }) :
    wpAny (model prg w) A (call (.ref 78) [.bytes b.toArray tb]) Q E s := by
  ktr_enter
  k_steps
  exact ret _ _ (by assumption) (by assumption)
theorem c_truth (hdp : A.depth + 10 < recursionLimit) (hun : A.units + 80 < cLine)
    (ret : ∀ h' tk', Fr h₀ L h' m → News h₀ L h' news → Q (.bool false) { s with heap := h', toks := tk' }) :
    wpAny (model prg w) A (call (.ref 92) [.bool false]) Q E s := by
  ktr_enter
  k_steps
  exact ret _ _ (by assumption) (by assumption)
theorem c_bfdd {b : List UInt8} {tb : Tok} (hdp : A.depth + 10 < recursionLimit) (hun : A.units + 80 < cLine)
    (ret : ∀ h' tk', Fr h₀ L h' m → News h₀ L h' news → Q (.bytes b.toArray tb) { s with heap := h', toks := tk' }) :
    wpAny (model prg w) A (call (.ref 58) [.bytes b.toArray tb]) Q E s := by
  ktr_enter
  k_steps
  exact ret _ _ (by assumption) (by assumption)
end
local macro_rules | `(tactic| walk_at "call ref") => `(tactic| (k_here; k_dflt (first | refine c_buffer (by k_asm) (by k_asm) (by k_asm) (by k_asm) (by k_asm) (Around.frames_deeper (by assumption)) rfl rfl (by assumption) (by rw [depth_deeper]; omega) (by rw [units_deeper]; omega) ?_ | refine c_abuffer (by k_asm) (by k_asm) (by k_asm) (by k_asm) (by k_asm) (Around.frames_deeper (by assumption)) rfl rfl (by assumption) (by rw [depth_deeper]; omega) (by rw [units_deeper]; omega) ?_ | refine c_truth (by k_asm) (by k_asm) (by k_asm) (by k_asm) (by k_asm) (Around.frames_deeper (by assumption)) rfl rfl (by assumption) (by rw [depth_deeper]; omega) (by rw [units_deeper]; omega) ?_ | refine c_bfdd (by k_asm) (by k_asm) (by k_asm) (by k_asm) (by k_asm) (Around.frames_deeper (by assumption)) rfl rfl (by assumption) (by rw [depth_deeper]; omega) (by rw [units_deeper]; omega) ?_ | (refine c_hexv (by k_asm) (by k_asm) (by k_asm) (by k_asm) (by k_asm) (Around.frames_deeper (by assumption)) rfl rfl (by assumption) (by rw [depth_deeper]; omega) (by rw [units_deeper]; omega) (by first | assumption | omega) ?_; intro _) | (refine c_b64v (by k_asm) (by k_asm) (by k_asm) (by k_asm) (by k_asm) (Around.frames_deeper (by assumption)) rfl rfl (by assumption) (by rw [depth_deeper]; omega) (by rw [units_deeper]; omega) (by first | assumption | omega) ?_; intro _)); intro _ _ _ _; (try dsimp only); (try k_sweep)))
section bi
open PySem.Builtin
theorem slot_b_upper : Slot "bytes" "upper" "bytes.upper" :=
  .of (owner := "bytes") (n := "upper") (by rw [typeLookup_type, builtinLookup_eq_fast]; kernel_rfl) (by decide +kernel) (by decide +kernel) (by decide +kernel) (by first | exact .inl (by decide +kernel) | exact .inr (by decide +kernel)) (by rw [isSubtype_type]; kernel_rfl)
theorem type_b_upper : typeOf (.builtin "bytes.upper") = pure (.type "method_descriptor") := by show builtinType _ = _; rw [builtinType_eq_fast]; kernel_rfl
theorem entry_b_upper : entryFor table "bytes.upper" = some Builtin.«bytes.upper» := entryFor_of_tree (by kernel_rfl)
theorem args_b_upper (a : Value) : argsOk "bytes.upper" ⟨[a], []⟩ := by
  unfold argsOk; rw [signature?_of (id := "bytes.upper") (n := ['r', 'e', 'p', 'p', 'u']) (o := ['s', 'e', 't', 'y', 'b']) (by kernel_rfl) FB.owner_bytes]; kernel_rfl
theorem slot_s_encode : Slot "str" "encode" "str.encode" :=
  .of (owner := "str") (n := "encode") (by rw [typeLookup_type, builtinLookup_eq_fast]; kernel_rfl) (by decide +kernel) (by decide +kernel) (by decide +kernel) (by first | exact .inl (by decide +kernel) | exact .inr (by decide +kernel)) (by rw [isSubtype_type]; kernel_rfl)
theorem type_s_encode : typeOf (.builtin "str.encode") = pure (.type "method_descriptor") := by show builtinType _ = _; rw [builtinType_eq_fast]; kernel_rfl
theorem entry_s_encode : entryFor table "str.encode" = some Builtin.«str.encode» := entryFor_of_tree (by kernel_rfl)
theorem args_s_encode (a b : Value) : argsOk "str.encode" ⟨[a, b], []⟩ := by
  unfold argsOk; rw [signature?_of (id := "str.encode") (n := ['e', 'd', 'o', 'c', 'n', 'e']) (o := ['r', 't', 's']) (by kernel_rfl) F.owner_str]; kernel_rfl
/-- the hex text of octets -/
def hexCps (l : List UInt8) : List Nat := l.flatMap fun c => [Bytes.hexDigit (c.toNat / 16), Bytes.hexDigit (c.toNat % 16)]
theorem hexFold (l : List UInt8) : ∀ (k : Nat) (out : Array Nat), (l.zipIdx k).foldl (fun (out : Array Nat) (c : UInt8 × Nat) => (out.push (Bytes.hexDigit (c.1.toNat / 16))).push (Bytes.hexDigit (c.1.toNat % 16))) out = out ++ (hexCps l).toArray := by
  induction l with
  | nil => intro k out; simp [hexCps]
  | cons c r ih =>
    intro k out
    rw [List.zipIdx_cons, List.foldl_cons, ih]
    simp [hexCps, ← Array.toList_inj]
theorem gives_hex (l : List UInt8) (t : Tok) : Gives («bytes.hex» ⟨[.bytes l.toArray t], []⟩) (.str ⟨(hexCps l).toArray⟩) := by
  have h : «bytes.hex» ⟨[.bytes l.toArray t], []⟩ = retStr ⟨l.zipIdx.foldl (fun (out : Array Nat) (c : UInt8 × Nat) => (out.push (Bytes.hexDigit (c.1.toNat / 16))).push (Bytes.hexDigit (c.1.toNat % 16))) #[]⟩ := rfl
  rw [h, hexFold]
  rw [Array.empty_append]
  exact .of_eq rfl
theorem gives_upper (l : List UInt8) (t : Tok) : Gives («bytes.upper» ⟨[.bytes l.toArray t], []⟩) (.bytes (l.map Bytes.toUpper).toArray) := .of_eq rfl
open Builtin._codecs in
theorem encode_ascii (x : PySem.Str) (t u : Tok) : «str.encode» ⟨[.str x t, .str (PySem.Str.ofString "ascii") u], []⟩ = (do ret (← (do mkBytes (← encodeNarrow "str.encode" asciiCodec none (.str x t) x)))) := by kernel_rfl
end bi
theorem forIn_two {β : Type} {f : Nat → β → Sem (ForInStep β)} {b0 b1 : β} (h0 : f 0 b0 = pure (.yield b1)) (h1 : ∀ i, f i b1 = pure (.done b1)) (n : Nat) : forIn (List.range' 0 (n + 1)) b0 f = pure b1 := by
  rw [List.range'_succ, List.forIn_cons, h0]
  show (forIn (List.range' (0 + 1) n) b1 f) = pure b1
  cases n with
  | zero => rfl
  | succ k =>
    rw [List.range'_succ, List.forIn_cons, h1]
    rfl
open PySem.Builtin Builtin._codecs in
theorem encodeNarrow_ok (id : String) (self : Value) (x : PySem.Str) (h : ∀ c ∈ x.cps.toList, c < 128) (hz : x.length ≤ sizeLine) : encodeNarrow id asciiCodec none self x = pure (x.cps.map Nat.toUInt8) := by
  have hb : ∀ (a : Array Nat), (∀ c ∈ a.toList, c < 128) → a.findIdx? asciiCodec.bad = none := by
    intro a ha
    rw [Array.findIdx?_eq_none_iff]
    intro c hc
    have := ha c (by simpa using hc)
    show decide (c ≥ 128) = false
    exact decide_eq_false (by omega)
  have hf : ∀ (l : List Nat) (acc : Array UInt8), l.foldl (fun acc y => acc ++ (asciiCodec.bytesOf y).toArray) acc = acc ++ (l.map Nat.toUInt8).toArray := by
    intro l
    induction l with
    | nil => intro acc; simp
    | cons c r ih => intro acc; rw [List.foldl_cons, ih]; simp [asciiCodec, ← Array.toList_inj]
  unfold encodeNarrow
  obtain ⟨⟨l⟩⟩ := x
  cases l with
  | nil => simp [PySem.Str.length]
  | cons a r =>
    have e1 : (PySem.Str.mk ⟨a :: r⟩).length = r.length + 1 := by simp [PySem.Str.length]
    have hz' : r.length + 1 ≤ sizeLine := by rw [← e1]; exact hz
    rw [e1]
    simp only [Std.Legacy.Range.forIn_eq_forIn_range', Std.Legacy.Range.size]
    simp only [Nat.sub_zero, Nat.add_one_sub_one, Nat.div_one]
    rw [forIn_two (b1 := (r.length + 1, ((a :: r).map Nat.toUInt8).toArray, {}))]
    · simp only [pure_bind]
      simp
    · have ha : asciiCodec.bad a = false := decide_eq_false (by have := h a (by simp); omega)
      have hx : (({ toList := a :: r } : Array Nat).findIdx? asciiCodec.bad) = none := hb _ h
      simp [ha, hx]
      have := hf r #[a.toUInt8]
      simpa [asciiCodec] using this
    · intro i
      have : ¬ (((a :: r).map Nat.toUInt8).toArray.size > sizeLine) := by simp; omega
      simp [this]
      intro hc
      omega
open PySem.Builtin in
theorem gives_encode (x : PySem.Str) (t u : Tok) (h : ∀ c ∈ x.cps.toList, c < 128) (hz : x.length ≤ sizeLine) : Gives («str.encode» ⟨[.str x t, .str (PySem.Str.ofString "ascii") u], []⟩) (.bytes (x.cps.map Nat.toUInt8)) := by
  rw [encode_ascii, encodeNarrow_ok _ _ _ h hz]
  exact .of_eq rfl
section
variable {M : Model} {prog : Program} {w : World} {A : Around} {E : Value → Shared → Prop} {s : Shared}
theorem me_hex {b : Array UInt8} {t : Tok} {pl : Sem Bool} {Q : Value × List Value → Shared → Prop} (h : Q (.builtin "bytes.hex", [.bytes b t]) s) : wpAny M A (getMethod (.bytes b t) "hex" pl) Q E s := by
  with_reducible exact KBd.method_of (.bytes b t) (typeIs_bytes _ _ _) FB.slot_bytes_hex FB.type_bytes_hex KBd.noRef h
theorem me_upper {b : Array UInt8} {t : Tok} {pl : Sem Bool} {Q : Value × List Value → Shared → Prop} (h : Q (.builtin "bytes.upper", [.bytes b t]) s) : wpAny M A (getMethod (.bytes b t) "upper" pl) Q E s := by
  with_reducible exact KBd.method_of (.bytes b t) (typeIs_bytes _ _ _) slot_b_upper type_b_upper KBd.noRef h
theorem me_encode {x : PySem.Str} {t : Tok} {pl : Sem Bool} {Q : Value × List Value → Shared → Prop} (h : Q (.builtin "str.encode", [.str x t]) s) : wpAny M A (getMethod (.str x t) "encode" pl) Q E s := by
  with_reducible exact getMethod_builtin (typeIs_str _ _ _) F.plainAttrs_str slot_s_encode type_s_encode (fun _ e => nomatch e) h
theorem ca_hex {l : List UInt8} {t : Tok} {Q : Value → Shared → Prop} (hz : 2 * l.length ≤ sizeLine) (h : ∀ t' k, Q (.str ⟨(hexCps l).toArray⟩ t') { s with toks := k }) : wpAny (model prog w) A (call (.builtin "bytes.hex") [.bytes l.toArray t]) Q E s :=
  call_gives FB.slot_bytes_hex (typeIs_bytes _ _ _) FB.entry_bytes_hex (FB.args_bytes_hex_1 _) (gives_hex l t) ⟨by rw [show PySem.Str.length ⟨(hexCps l).toArray⟩ = 2 * l.length from by simp [PySem.Str.length, hexCps, List.length_flatMap, List.map_const', List.sum_replicate_nat, Nat.mul_comm]]; exact hz, h _ _⟩
theorem ca_upper {l : List UInt8} {t : Tok} {Q : Value → Shared → Prop} (hz : l.length ≤ sizeLine) (h : ∀ t' k, Q (.bytes (l.map PySem.Builtin.Bytes.toUpper).toArray t') { s with toks := k }) : wpAny (model prog w) A (call (.builtin "bytes.upper") [.bytes l.toArray t]) Q E s :=
  call_gives slot_b_upper (typeIs_bytes _ _ _) entry_b_upper (args_b_upper _) (gives_upper l t) ⟨by simpa using hz, h _ _⟩
theorem ca_encode {l : List Nat} {t u : Tok} {Q : Value → Shared → Prop} (hl : ∀ c ∈ l, c < 128) (hz : l.length ≤ sizeLine) (h : ∀ t' k, Q (.bytes (l.map Nat.toUInt8).toArray t') { s with toks := k }) : wpAny (model prog w) A (call (.builtin "str.encode") [.str ⟨l.toArray⟩ t, .str (PySem.Str.ofString "ascii") u]) Q E s :=
  call_gives slot_s_encode (typeIs_str _ _ _) entry_s_encode (args_s_encode _ _) (gives_encode ⟨l.toArray⟩ t u (by simpa using hl) (by simpa [PySem.Str.length] using hz)) ⟨by simpa using hz, by simpa using h _ _⟩
end
theorem hexDigit_lt {n : Nat} (h : n < 16) : PySem.Builtin.Bytes.hexDigit n < 128 := by unfold PySem.Builtin.Bytes.hexDigit; split <;> omega
theorem hexCps_lt (l : List UInt8) : ∀ c ∈ hexCps l, c < 128 := by
  intro c hc
  simp only [hexCps, List.mem_flatMap, List.mem_cons, List.not_mem_nil, or_false] at hc
  obtain ⟨a, _, rfl | rfl⟩ := hc
  · exact hexDigit_lt (by have := a.toNat_lt; omega)
  · exact hexDigit_lt (by omega)
theorem hexCps_len (l : List UInt8) : (hexCps l).length = 2 * l.length := by simp [hexCps, List.length_flatMap, List.map_const', List.sum_replicate_nat, Nat.mul_comm]
/-- the upper hex signs of octets -/
def hexU (l : List UInt8) : List UInt8 := ((hexCps l).map Nat.toUInt8).map PySem.Builtin.Bytes.toUpper
theorem hexU_len (l : List UInt8) : (hexU l).length = 2 * l.length := by simp [hexU, hexCps_len]
-- needs: base leaf bi
section
variable {w : World} {p : Program} {loose : List Str} {mean : ExcName → Option Value} {mg mb : Str → Option Value} {A : Around} {env : Env} {outer : List Env} {A₀ : Around} {base h₀ : Heap} {L : Addr} {m : Str → Option Value} {news : List (Addr × Obj)} {s : Shared} {Q E : Value → Shared → Prop}
  (B : Below A₀ base outer h₀) (F : Fr h₀ L s.heap m) (X : (hd.heap_39 w.params).In h₀) (N : News h₀ L s.heap news) (T : Top p loose mean mg mb h₀)
  (hA : A.frames = some (env :: outer)) (hf : env.frame = some L) (hke : env.scope.kind = .function) (hh : A.handled = none)
include B F X N T hA hf hke hh
theorem c_hex {b : List UInt8} {tb : Tok} (hdp : A.depth + 20 < recursionLimit) (hun : A.units + 160 < cLine) (hlen : b.length ≤ 100)
    (ret : ∀ t h' tk', Fr h₀ L h' m → News h₀ L h' news → Q (.bytes ((hexCps b).map Nat.toUInt8).toArray t) { s with heap := h', toks := tk' }) :
    wpAny (model prg w) A (call (.ref 124) [.bytes b.toArray tb]) Q E s := by
  ktr_enter
  k_steps
  with_reducible refine me_hex ?_
  k_steps
  refine ca_hex (by rw [sizeLine_eq]; omega) ?_
  intro t9 k9
  dsimp only
  k_steps
  with_reducible refine me_encode ?_
  k_steps
  refine ca_encode (hexCps_lt _) (by rw [hexCps_len, sizeLine_eq]; omega) ?_
  intro t8 k8
  dsimp only
  k_steps
  exact ret _ _ _ (by assumption) (by assumption)
end
-- needs: base leaf bi hexenc
section
variable {w : World} {p : Program} {loose : List Str} {mean : ExcName → Option Value} {mg mb : Str → Option Value} {A : Around} {env : Env} {outer : List Env} {A₀ : Around} {base h₀ : Heap} {L : Addr} {m : Str → Option Value} {news : List (Addr × Obj)} {s : Shared} {Q E : Value → Shared → Prop}
  (B : Below A₀ base outer h₀) (F : Fr h₀ L s.heap m) (X : (hd.heap_39 w.params).In h₀) (N : News h₀ L s.heap news) (T : Top p loose mean mg mb h₀)
  (hA : A.frames = some (env :: outer)) (hf : env.frame = some L) (hke : env.scope.kind = .function) (hh : A.handled = none)
include B F X N T hA hf hke hh
theorem c_b16e {b : List UInt8} {tb : Tok} (hdp : A.depth + 30 < recursionLimit) (hun : A.units + 240 < cLine) (hlen : b.length ≤ 100)
    (ret : ∀ t h' tk', Fr h₀ L h' m → News h₀ L h' news → Q (.bytes (hexU b).toArray t) { s with heap := h', toks := tk' }) :
    wpAny (model prg w) A (call (.ref 161) [.bytes b.toArray tb]) Q E s := by
  ktr_enter
  k_steps
  refine c_hex (by assumption) (by assumption) (by assumption) (by assumption) (by assumption) (Around.frames_deeper (by assumption)) rfl rfl (by assumption) (by rw [depth_deeper]; omega) (by rw [units_deeper]; omega) hlen ?_
  intro t9 h9 tk9 F9 N9
  k_sweep
  k_steps
  with_reducible refine me_upper ?_
  k_steps
  refine ca_upper (by simp only [List.length_map, hexCps_len]; rw [sizeLine_eq]; omega) ?_
  intro t8 k8
  dsimp only
  k_steps
  exact ret _ _ _ (by assumption) (by assumption)
end
-- needs: base leaf bi
/-- x holds the upper hex signs of b -/
def HexOf (x b : List UInt8) : Prop := x.length = 2 * b.length ∧ ∀ j, j < b.length → ∀ k, k < 2 → ∃ v : Nat, v = (if k = 0 then (b.getD j 0).toNat / 16 else (b.getD j 0).toNat % 16) ∧
  ((48 ≤ ((x.getD (2 * j + k) 0).toNat : Int) ∧ ((x.getD (2 * j + k) 0).toNat : Int) ≤ 57 ∧ (v : Int) = ((x.getD (2 * j + k) 0).toNat : Int) - 48) ∨ (65 ≤ ((x.getD (2 * j + k) 0).toNat : Int) ∧ ((x.getD (2 * j + k) 0).toNat : Int) ≤ 70 ∧ (v : Int) = ((x.getD (2 * j + k) 0).toNat : Int) - 55))
section
variable {w : World} {p : Program} {loose : List Str} {mean : ExcName → Option Value} {mg mb : Str → Option Value} {A : Around} {env : Env} {outer : List Env} {A₀ : Around} {base h₀ : Heap} {L : Addr} {m : Str → Option Value} {news : List (Addr × Obj)} {s : Shared} {Q E : Value → Shared → Prop}
  (B : Below A₀ base outer h₀) (F : Fr h₀ L s.heap m) (X : (hd.heap_39 w.params).In h₀) (N : News h₀ L s.heap news) (T : Top p loose mean mg mb h₀)
  (hA : A.frames = some (env :: outer)) (hf : env.frame = some L) (hke : env.scope.kind = .function) (hh : A.handled = none)
include B F X N T hA hf hke hh
theorem c_a2bh {b x : List UInt8} {tb : Tok} (hdp : A.depth + 20 < recursionLimit) (hun : A.units + 160 < cLine) (hlen : b.length ≤ 100) (hx : HexOf x b)
    (ret : ∀ t h' tk', Fr h₀ L h' m → News h₀ L h' news → Q (.bytes b.toArray t) { s with heap := h', toks := tk' }) :
    wpAny (model prg w) A (call (.ref 138) [.bytes x.toArray tb]) Q E s := by
  obtain ⟨hxl, hxs⟩ := hx
  have hsz : x.toArray.size = 2 * b.length := by simpa using hxl
  have hev : (x.toArray.size : Int).fmod 2 = 0 := by rw [Int.fmod_eq_emod_of_nonneg _ (by decide)]; omega
  ktr_enter
  k_steps
  all_goals try (exfalso; contradiction)
  refine ⟨While_inv (n₀ := b.length) (fun n m₁ news₁ => ∃ (j : Nat) (i : Int) (ta ti : Tok) (vs : List Value) (ep : Nat) (lo : Addr), AllAt m₁ [(Str.ofString "argbuf", .bytes x.toArray tb), (Str.ofString "arglen", .int x.toArray.size ta), (Str.ofString "out", .ref lo), (Str.ofString "i", .int i ti)] ∧ news₁ = (lo, W.listOf vs.toArray ep) :: news ∧ (∀ p ∈ news, p.1 < lo) ∧ IntsAre vs ((b.take j).map fun c => (c.toNat : Int)) ∧ n = b.length - j ∧ j ≤ b.length ∧ i = 2 * (j : Int)) (by assumption) (by assumption) ⟨0, 0, _, _, [], 0, _, ⟨rfl, rfl, rfl, rfl, trivial⟩, rfl, by assumption, .nil, rfl, Nat.zero_le _, rfl⟩ ?_⟩
  rintro n m₁ news₁ h₁ tk₁ F₁ N₁ ⟨j, i, ta, ti, vs, ep, lo, hm, rfl, hlo, hi, hn, hj, rfl⟩
  have F₂ := ovl_fr F₁ hm
  clear F₁ hm
  have hvl : vs.length = j := by have := hi.length; simp at this; omega
  by_cases hjb : j < b.length
  · have e0 : (2 * (j : Int)).toNat = 2 * j := rfl
    have e1 : (2 * (j : Int) + 1).toNat = 2 * j + 1 := rfl
    obtain ⟨v0, hv0, ht⟩ := hxs j hjb 0 (by decide)
    obtain ⟨v1, hv1, hb⟩ := hxs j hjb 1 (by decide)
    have hbl : (b.getD j 0).toNat < 256 := (b.getD j 0).toNat_lt
    simp only [if_true, Nat.add_zero, Nat.one_ne_zero, if_false] at hv0 hv1 ht
    rw [← e0] at ht
    rw [← e1] at hb
    have hl0 : v0 < 16 := by omega
    have hl1 : v1 < 16 := by omega
    k_steps
    refine WhileStep.intro (by assumption) (by assumption) (n' := b.length - (j + 1)) (by omega) ⟨j + 1, _, _, _, vs ++ [_], _, lo, ⟨rfl, rfl, rfl, rfl, trivial⟩, news_push, hlo, ?_, rfl, hjb, by omega⟩
    rw [take_snoc (d := 0) b j hjb, List.map_append]
    have ev : (v0 : Int) * 2 ^ Int.toNat 4 + (v1 : Int) = ((b.getD j 0).toNat : Int) := by
      rw [show (2 : Int) ^ Int.toNat 4 = 16 from rfl]; omega
    rw [ev]
    exact ia_snoc hi
  · have hje : j = b.length := by omega
    subst hje
    rw [List.take_length] at hi
    k_steps
    exact ret _ _ _ (by assumption) (news_drop (by assumption))
end
theorem hexU_cons (c : UInt8) (b : List UInt8) : hexU (c :: b) = PySem.Builtin.Bytes.toUpper (PySem.Builtin.Bytes.hexDigit (c.toNat / 16)).toUInt8 :: PySem.Builtin.Bytes.toUpper (PySem.Builtin.Bytes.hexDigit (c.toNat % 16)).toUInt8 :: hexU b := by simp [hexU, hexCps]
theorem hexU_get : ∀ (b : List UInt8) (j : Nat), j < b.length → ∀ k, k < 2 → (hexU b).getD (2 * j + k) 0 = PySem.Builtin.Bytes.toUpper (PySem.Builtin.Bytes.hexDigit (if k = 0 then (b.getD j 0).toNat / 16 else (b.getD j 0).toNat % 16)).toUInt8
  | c :: b, 0, _, k, hk => by
    rw [hexU_cons]
    match k, hk with
    | 0, _ => rfl
    | 1, _ => rfl
  | c :: b, j + 1, h, k, hk => by
    rw [hexU_cons, show 2 * (j + 1) + k = (2 * j + k) + 1 + 1 from Nat.add_right_comm (2 * j) 2 k, List.getD_cons_succ, List.getD_cons_succ, List.getD_cons_succ]
    exact hexU_get b j (by simpa using h) k hk
theorem hex_fin : ∀ v : Fin 16, (48 ≤ ((PySem.Builtin.Bytes.toUpper (PySem.Builtin.Bytes.hexDigit v.1).toUInt8).toNat : Int) ∧ ((PySem.Builtin.Bytes.toUpper (PySem.Builtin.Bytes.hexDigit v.1).toUInt8).toNat : Int) ≤ 57 ∧ (v.1 : Int) = ((PySem.Builtin.Bytes.toUpper (PySem.Builtin.Bytes.hexDigit v.1).toUInt8).toNat : Int) - 48) ∨
  (65 ≤ ((PySem.Builtin.Bytes.toUpper (PySem.Builtin.Bytes.hexDigit v.1).toUInt8).toNat : Int) ∧ ((PySem.Builtin.Bytes.toUpper (PySem.Builtin.Bytes.hexDigit v.1).toUInt8).toNat : Int) ≤ 70 ∧ (v.1 : Int) = ((PySem.Builtin.Bytes.toUpper (PySem.Builtin.Bytes.hexDigit v.1).toUInt8).toNat : Int) - 55) := by decide +kernel
theorem hexU_of (b : List UInt8) : HexOf (hexU b) b := by
  refine ⟨hexU_len b, fun j hj k hk => ⟨_, rfl, ?_⟩⟩
  have hl := (b.getD j 0).toNat_lt
  have hlt : (if k = 0 then (b.getD j 0).toNat / 16 else (b.getD j 0).toNat % 16) < 16 := by split <;> omega
  rw [hexU_get b j hj k hk]
  exact hex_fin ⟨_, hlt⟩
section re
open PySem.Builtin PySem.Builtin.Re
def recode : Array Nat := #[14, 12, 4, 1, 1, 21, 22, 48, 57, 22, 65, 70, 0, 13, 9, 21, 22, 48, 57, 22, 65, 70, 0, 1]
def HexSign (c : Nat) : Prop := (48 ≤ c ∧ c ≤ 57) ∨ (65 ≤ c ∧ c ≤ 70)
theorem inSet_hex {c : Nat} (h : HexSign c) (seen : Sre.Seen) : ∃ seen', Sre.inSet recode c recode.size 5 true seen = .ok (false, seen') := by
  have e : Sre.inSet recode c recode.size 5 true seen = if (decide (48 ≤ c) && decide (c ≤ 57)) = true then .ok (false, (seen.add 21).add 22) else if (decide (65 ≤ c) && decide (c ≤ 70)) = true then .ok (false, ((seen.add 21).add 22).add 22) else .ok (!false, (((seen.add 21).add 22).add 22).add 0) := rfl
  rw [e]
  rcases h with ⟨a, b⟩ | ⟨a, b⟩
  · rw [if_pos (by simp [a, b])]; exact ⟨_, rfl⟩
  · rw [if_neg (by simp; omega), if_pos (by simp [a, b])]; exact ⟨_, rfl⟩
theorem admitted_none (m : Sre.M) (hc : m.code = recode) (ht : ∀ i, i < m.lim → HexSign (m.text.getD i 0)) : ∀ (fuel s : Nat) (seen : Sre.Seen), ∃ seen', Sre.M.admitted m fuel s seen = .ok (none, seen')
  | 0, s, seen => ⟨seen, rfl⟩
  | fuel + 1, s, seen => by
    unfold Sre.M.admitted
    by_cases hs : s ≥ m.lim
    · rw [if_pos hs]; exact ⟨_, rfl⟩
    · rw [if_neg hs, hc]
      obtain ⟨seen', e⟩ := inSet_hex (ht s (by omega)) seen
      rw [e]
      exact admitted_none m hc ht fuel (s + 1) seen'
theorem attempt_none (m : Sre.M) (hc : m.code = recode) (ht : ∀ i, i < m.lim → HexSign (m.text.getD i 0)) (s : Nat) (f : Bool) : (m.attemptFrom s f).answer = some false ∧ (m.attemptFrom s f).frames = m.frames ∧ (m.attemptFrom s f).outcome = m.outcome := by
  unfold Sre.M.attemptFrom
  have e : m.hasFirstSet = true := by unfold Sre.M.hasFirstSet; rw [hc]; rfl
  rw [e]
  obtain ⟨seen', h⟩ := admitted_none m hc ht (m.lim + 1 - s) s m.seen
  rw [h]
  exact ⟨rfl, rfl, rfl⟩
theorem search_none (text : Array Nat) (ht : ∀ i, i < text.size → HexSign (text.getD i 0)) : (Sre.forSearch recode text 0 0 text.size false).answer = some false ∧ (Sre.forSearch recode text 0 0 text.size false).frames = [] ∧ (Sre.forSearch recode text 0 0 text.size false).outcome = none := by
  unfold Sre.forSearch
  dsimp only
  split
  · exact ⟨rfl, rfl, rfl⟩
  · exact attempt_none _ rfl ht 0 true
theorem drive_none {m : Sre.M} (h1 : m.answer = some false) (h2 : m.frames = []) (h3 : m.outcome = none) : reDrive (2 ^ 64) m = pure { m with outcome := some .failed } := by
  rw [show (2 : Nat) ^ 64 = 18446744073709551615 + 1 from rfl]
  unfold reDrive
  have hs : m.step = { m with outcome := some .failed } := by
    unfold Sre.M.step
    rw [h1, h2, h3]
    rfl
  have hr : m.runFor reTurnSteps = { m with outcome := some .failed } := by
    show Sre.M.runFor (3 + 1) m = _
    unfold Sre.M.runFor
    rw [h3, hs]
    rfl
  dsimp only
  rw [hr]
  rfl
theorem wp_forIn_unit {M : Model} {A : Around} {E : Value → Shared → Prop} {f : Nat → PUnit → Sem (ForInStep PUnit)} (hf : ∀ i u s' (Q : ForInStep PUnit → Shared → Prop), Q (.yield ⟨⟩) s' → wpAny M A (f i u) Q E s') : ∀ (l : List Nat) {s : Shared} {Q : PUnit → Shared → Prop}, Q ⟨⟩ s → wpAny M A (forIn l PUnit.unit f) Q E s
  | [], s, Q, h => wpAny_pure h
  | i :: r, s, Q, h => by
    rw [List.forIn_cons]
    exact wpAny_bind (hf i _ s _ (wp_forIn_unit hf r h))
theorem run_none {M : Model} {A : Around} {E : Value → Shared → Prop} {s : Shared} {m : Sre.M} {Q : Option Sre.M → Shared → Prop} (h1 : m.answer = some false) (h2 : m.frames = []) (h3 : m.outcome = none) (h : Q none s) : wpAny M A (reRunToEnd m) Q E s := by
  unfold reRunToEnd
  rw [drive_none h1 h2 h3]
  refine wpAny_bind (wpAny_pure ?_)
  refine wpAny_bind (wp_forIn_unit (fun i u s' Q hQ => ?_) _ ?_)
  · dsimp only
    split
    · exact wpAny_bind (wpAny_rule (wpAny_pure hQ))
    · first | exact wpAny_pure hQ | exact wpAny_bind (wpAny_pure (wpAny_pure hQ))
  · exact wpAny_pure h
end re
-- needs: re
section re2
open PySem.Builtin PySem.Builtin.Re
set_option maxRecDepth 100000
theorem plainAttrs_pat : PlainAttrs "re.Pattern" :=
  ⟨⟨"object.__getattribute__", by rw [typeLookup_type, builtinLookup_eq_fast]; kernel_rfl, by decide +kernel⟩, by rw [typeLookup_type, builtinLookup_eq_fast]; kernel_rfl⟩
theorem slot_pat_search : Slot "re.Pattern" "search" "re.Pattern.search" :=
  .of (owner := "re.Pattern") (n := "search") (by rw [typeLookup_type, builtinLookup_eq_fast]; kernel_rfl) (by decide +kernel) (by decide +kernel) (by decide +kernel) (by first | exact .inl (by decide +kernel) | exact .inr (by decide +kernel)) (by rw [isSubtype_type]; kernel_rfl)
theorem type_pat_search : typeOf (.builtin "re.Pattern.search") = pure (.type "method_descriptor") := by show builtinType _ = _; rw [builtinType_eq_fast]; kernel_rfl
theorem entry_pat_search : entryFor table "re.Pattern.search" = some Builtin.«re.Pattern.search» := entryFor_of_tree (by kernel_rfl)
theorem owner_pat : Manifest.owners.lookup (String.ofList ['n', 'r', 'e', 't', 't', 'a', 'P', '.', 'e', 'r'].reverse) = some Manifest.sig_re_Pattern := by kernel_rfl
theorem args_pat_search (a b : Value) : argsOk "re.Pattern.search" ⟨[a, b], []⟩ := by
  unfold argsOk; rw [signature?_of (id := "re.Pattern.search") (n := ['h', 'c', 'r', 'a', 'e', 's']) (o := ['n', 'r', 'e', 't', 't', 'a', 'P', '.', 'e', 'r']) (by kernel_rfl) owner_pat]; kernel_rfl
def patCode : List Value := recode.toList.map fun (n : Nat) => Value.int (n : Int) 0
theorem target_eq {prog : Program} {w : World} {A : Around} {E : Value → Shared → Prop} {s : Shared} {l : List UInt8} {t : Tok} {Q : ReTarget → Shared → Prop} {po co : Obj} {pv : Array Value} {ce : Nat}
    (hp : s.heap.get? 50 = some po) (hpd : po.data = .fields pv) (hc : s.heap.get? 49 = some co) (hcd : co.data = .seq patCode.toArray ce)
    (h2 : pv.getD 2 .none = .int 0 0) (h5 : pv.getD 5 .none = .ref 49) (h6 : pv.getD 6 .none = .int 1 0) (hl : l.length < 1000000)
    (h : Q { pattern := .ref 50, string := .bytes l.toArray t, code := recode, text := (l.map (·.toNat)).toArray, kind := 1, groups := 0, pos := 0, lim := l.length } s) :
    wpAny (model prog w) A (reTarget "re.Pattern.search" "search" ⟨[.ref 50, .bytes l.toArray t], []⟩) Q E s := by
  unfold reTarget
  refine wpAny_bind (m := reNamed _ _ _ _ _ _) (wpAny_of_eq (a := [some (.bytes l.toArray t), none, none]) (by rfl) ?_)
  refine wpAny_bind (wpAny_pure ?_)
  refine wpAny_bind (wpAny_pure ?_)
  refine wpAny_bind (m := fieldsOf _) ?_
  unfold fieldsOf
  refine wpAny_bind (wpAny_load hp ?_)
  rw [hpd]
  refine wpAny_pure ?_
  refine wpAny_bind (m := reTextOf _) (wpAny_of_eq (a := (l.toArray.map (·.toNat), 1)) ?_ ?_)
  · unfold reTextOf
    rw [KBy.quiet_eq]
    rfl
  dsimp only
  rw [h6, h5, h2]
  refine wpAny_bind (m := reNoCollectionInside _ _) ?_
  unfold reNoCollectionInside
  refine wpAny_bind (wpAny_isInstance (typeIs_bytes s _ t) F.sub_bytes_bytes ?_)
  refine wpAny_pure ?_
  refine wpAny_bind (m := reRawItems _) ?_
  unfold reRawItems seqItems?
  refine wpAny_bind (wpAny_bind (wpAny_load hc ?_))
  rw [hcd]
  refine wpAny_pure (wpAny_pure (wpAny_pure ?_))
  have e : ({ pattern := .ref 50, string := .bytes l.toArray t, code := ((some patCode.toArray : Option (Array Value)).getD #[]).map reRawOf |>.map (·.toNat), text := l.toArray.map (·.toNat), kind := 1, groups := reRawNat (.int 0 0), pos := min (0 : Int).toNat (l.toArray.map (·.toNat)).size, lim := min ((2 : Int) ^ 63 - 1).toNat (l.toArray.map (·.toNat)).size } : ReTarget) = { pattern := .ref 50, string := .bytes l.toArray t, code := recode, text := (l.map (·.toNat)).toArray, kind := 1, groups := 0, pos := 0, lim := l.length } := by
    have e1 : (((some patCode.toArray : Option (Array Value)).getD #[]).map reRawOf |>.map (·.toNat)) = recode := by decide +kernel
    have e2 : min ((2 : Int) ^ 63 - 1).toNat (l.toArray.map (·.toNat)).size = l.length := by
      have e3 : ((2 : Int) ^ 63 - 1).toNat = 9223372036854775807 := by decide
      rw [e3]
      simp; omega
    rw [e1, e2]
    simp [reRawNat]
  first | exact e ▸ h | (show Q _ s; rw [e]; exact h)
theorem ca_search {prog : Program} {w : World} {A : Around} {E : Value → Shared → Prop} {s : Shared} {l : List UInt8} {t : Tok} {Q : Value → Shared → Prop} {po co : Obj} {pv : Array Value} {ce : Nat}
    (hp : s.heap.get? 50 = some po) (hpc : po.cls = .type "re.Pattern") (hpd : po.data = .fields pv) (hc : s.heap.get? 49 = some co) (hcd : co.data = .seq patCode.toArray ce)
    (h2 : pv.getD 2 .none = .int 0 0) (h5 : pv.getD 5 .none = .ref 49) (h6 : pv.getD 6 .none = .int 1 0) (hl : l.length < 1000000)
    (hx : ∀ i, i < l.length → HexSign (l.getD i 0).toNat) (h : Q .none s) :
    wpAny (model prog w) A (call (.builtin "re.Pattern.search") [.ref 50, .bytes l.toArray t]) Q E s := by
  refine wpAny_call_entry slot_pat_search ⟨po, hp, hpc⟩ entry_pat_search ?_ (args_pat_search _ _)
  show wpAny _ _ (reTarget "re.Pattern.search" "search" ⟨[.ref 50, .bytes l.toArray t], []⟩ >>= fun t => reAnswer t (Sre.forSearch t.code t.text t.groups t.pos t.lim false)) _ _ s
  refine wpAny_bind (target_eq hp hpd hc hcd h2 h5 h6 hl ?_)
  dsimp only
  have hn := search_none (l.map (·.toNat)).toArray (by
    intro i hi
    have hi' : i < l.length := by simpa using hi
    have := hx i hi'
    simpa [Array.getD_eq_getD_getElem?, List.getD_eq_getElem?_getD, List.getElem?_map, List.getElem?_eq_getElem hi'] using this)
  rw [show (l.map (·.toNat)).toArray.size = l.length from by simp] at hn
  unfold reAnswer
  exact wpAny_bind (run_none hn.1 hn.2.1 hn.2.2 (wpAny_pure ⟨_, rfl, h⟩))
theorem me_search {M : Model} {A : Around} {E : Value → Shared → Prop} {s : Shared} {pl : Sem Bool} {Q : Value × List Value → Shared → Prop} {po : Obj} (hp : s.heap.get? 50 = some po) (hpc : po.cls = .type "re.Pattern") (hpd : po.dict = none) (h : Q (.builtin "re.Pattern.search", [.ref 50]) s) : wpAny M A (getMethod (.ref 50) "search" pl) Q E s :=
  getMethod_builtin ⟨po, hp, hpc⟩ plainAttrs_pat slot_pat_search type_pat_search (fun a e => by cases e; exact ⟨po, hp, hpd⟩) h
end re2
-- needs: base leaf bi a2bh re re2
theorem HexOf.sign {x b : List UInt8} (h : HexOf x b) : ∀ i, i < x.length → HexSign (x.getD i 0).toNat := by
  intro i hi
  obtain ⟨v, _, hv⟩ := h.2 (i / 2) (by have := h.1; omega) (i % 2) (by omega)
  rw [show 2 * (i / 2) + i % 2 = i from by omega] at hv
  unfold HexSign
  omega
section
variable {w : World} {p : Program} {loose : List Str} {mean : ExcName → Option Value} {mg mb : Str → Option Value} {A : Around} {env : Env} {outer : List Env} {A₀ : Around} {base h₀ : Heap} {L : Addr} {m : Str → Option Value} {news : List (Addr × Obj)} {s : Shared} {Q E : Value → Shared → Prop}
  (B : Below A₀ base outer h₀) (F : Fr h₀ L s.heap m) (X : (hd.heap_39 w.params).In h₀) (N : News h₀ L s.heap news) (T : Top p loose mean mg mb h₀)
  (hA : A.frames = some (env :: outer)) (hf : env.frame = some L) (hke : env.scope.kind = .function) (hh : A.handled = none)
include B F X N T hA hf hke hh
theorem c_b16d {b x : List UInt8} {tb : Tok} (hdp : A.depth + 30 < recursionLimit) (hun : A.units + 240 < cLine) (hlen : b.length ≤ 100) (hx : HexOf x b)
    (ret : ∀ t h' tk', Fr h₀ L h' m → News h₀ L h' news → Q (.bytes b.toArray t) { s with heap := h', toks := tk' }) :
    wpAny (model prg w) A (call (.ref 169) [.bytes x.toArray tb]) Q E s := by
  have hxs := hx.sign
  have hxl := hx.1
  ktr_enter
  k_steps
  k_here
  refine me_search (kto_K (by k_in) (by k_is)) rfl rfl ?_
  k_steps
  k_here
  refine ca_search (kto_K (by k_in) (by k_is)) rfl rfl (kto_K (by k_in) (by k_is)) rfl rfl rfl rfl (by omega) (by assumption) ?_
  k_steps
  refine c_a2bh (by assumption) (by assumption) (by assumption) (by assumption) (by assumption) (Around.frames_deeper (by assumption)) rfl rfl (by assumption) (by rw [depth_deeper]; omega) (by rw [units_deeper]; omega) hlen hx ?_
  intro t9 h9 tk9 F9 N9
  k_sweep
  k_steps
  exact ret _ _ _ (by assumption) (by assumption)
end
-- needs: base
section loops
variable {prog : Program} {w : World} {A : Around} {E : Value → Shared → Prop} {Q : Flow → Shared → Prop} {s : Shared} {env : Env} {h₀ : Heap} {L : Addr}
/-- what a turn of a for ends in -/
def ForEnd (h₀ : Heap) (L : Addr) (s : Shared) (J : Nat → (Str → Option Value) → List (Addr × Obj) → Prop) (Q : Flow → Shared → Prop) (n : Nat) (f : Flow) (s₃ : Shared) : Prop :=
  match f with
  | .next | .cont => ∃ h' tk m₂ news₂ n', s₃ = { s with heap := h', toks := tk } ∧ Fr h₀ L h' m₂ ∧ News h₀ L h' news₂ ∧ n' < n ∧ J n' m₂ news₂
  | .brk => Q .next s₃
  | .ret v => Q (.ret v) s₃
theorem ForEnd.on {h' : Heap} {J : Nat → (Str → Option Value) → List (Addr × Obj) → Prop} {n n' tk : Nat} {m₂ : Str → Option Value} {news₂ : List (Addr × Obj)}
    (F : Fr h₀ L h' m₂) (N : News h₀ L h' news₂) (hn : n' < n) (hJ : J n' m₂ news₂) : ForEnd h₀ L s J Q n .next { s with heap := h', toks := tk } := ⟨h', tk, m₂, news₂, n', rfl, F, N, hn, hJ⟩
theorem For_inv {x : Str} {px : Pos} {body : List Stmt} {it : Value} {m : Str → Option Value} {news : List (Addr × Obj)} (J : Nat → (Str → Option Value) → List (Addr × Obj) → Prop) {n₀ : Nat}
    (F : Fr h₀ L s.heap m) (N : News h₀ L s.heap news) (hJ : J n₀ m news)
    (turn : ∀ n m₁ news₁ h₁ tk₁, Fr h₀ L h₁ m₁ → News h₀ L h₁ news₁ → J n m₁ news₁ →
      wpAny (model prog w) A (pyNext it) (fun r s₂ => match r with
        | none => Q .next s₂
        | some v => wpAny (model prog w) A (storeName env x v) (fun _ s₃ => wpAny (model prog w) A (execs body env) (ForEnd h₀ L s J Q n) E s₃) E s₂) E { s with heap := h₁, toks := tk₁ })
    (hE : PassesOwn (model prog w) A env E := by passes_own) :
    codeAny (model prog w) A (.forLoop (.Name x px) it body [] env) (fun r s' => match r with | .ok f => Q f s' | .error e => cameBackBy (model prog w) A env E e s') s := by
  refine codeAny_forLoop (fun n s' => ∃ h₁ tk₁ m₁ news₁, s' = { s with heap := h₁, toks := tk₁ } ∧ Fr h₀ L h₁ m₁ ∧ News h₀ L h₁ news₁ ∧ J n m₁ news₁) ?_ n₀ ⟨s.heap, s.toks, m, news, rfl, F, N, hJ⟩
  rintro n s' ⟨h₁, tk₁, m₁, news₁, rfl, F₁, N₁, J₁⟩
  refine wpAny_mono (turn n m₁ news₁ h₁ tk₁ F₁ N₁ J₁) (fun r s₂ h₂ => ?_) hE
  cases r with
  | none => exact wpAny_execs_nil h₂
  | some v =>
    refine wpAny_assign_Name (wpAny_mono h₂ (fun _ s₃ h₃ => ?_) hE)
    refine wpAny_mono h₃ (fun f s₄ h₄ => ?_) hE
    cases f with
    | next => obtain ⟨h', tk, m₂, news₂, n', rfl, F₂, N₂, hn, J₂⟩ := h₄; exact ⟨n', hn, h', tk, m₂, news₂, rfl, F₂, N₂, J₂⟩
    | cont => obtain ⟨h', tk, m₂, news₂, n', rfl, F₂, N₂, hn, J₂⟩ := h₄; exact ⟨n', hn, h', tk, m₂, news₂, rfl, F₂, N₂, J₂⟩
    | brk => exact h₄
    | ret v => exact h₄
end loops
section its
variable {prog : Program} {w : World} {A : Around} {E : Value → Shared → Prop} {s : Shared} {h₀ : Heap} {L : Addr} {m : Str → Option Value} {news : List (Addr × Obj)} {it : Addr} {io : Obj}
theorem led_same {h h' : Heap} {io' : Obj} (F : Fr h₀ L h m) (N : News h₀ L h ((it, io) :: news)) (hlt : ∀ p ∈ news, p.1 < it) (hs : Heap.SameBut it h h') (ho : h'.get? it = some io') : Fr h₀ L h' m ∧ News h₀ L h' ((it, io') :: news) := by
  have hm := N (it, io) (.head _)
  exact ⟨F.change hs hm.2.1 hm.2.2, News.setIn (own := []) N (fun _ h => nomatch h) (fun p hp => Nat.ne_of_lt (hlt p hp)) hs ho⟩
theorem led_ext {h h' : Heap} (F : Fr h₀ L h m) (N : News h₀ L h ((it, io) :: news)) (hlt : ∀ p ∈ news, p.1 < it) (hx : Heap.ExtBut it h h') : Fr h₀ L h' m ∧ News h₀ L h' news := by
  have hm := N (it, io) (.head _)
  refine ⟨⟨F.ns.extBut hx (Ne.symm hm.2.1), fun b o e => hx b o (fun q => by rw [q, hm.2.2] at e; cases e) (F.keep b o e), F.above⟩, fun p hp => ?_⟩
  have n := N p (.tail _ hp)
  exact ⟨hx _ _ (Nat.ne_of_lt (hlt p hp)) n.1, n.2⟩
theorem next_b {b : List UInt8} {t : Tok} {i : Nat} {c : UInt8} {Q : Option Value → Shared → Prop} (F : Fr h₀ L s.heap m) (N : News h₀ L s.heap ((it, io) :: news)) (hlt : ∀ p ∈ news, p.1 < it) (hc : io.cls = .type "bytes_iterator") (hd : io.data = .fields #[.bytes b.toArray t, .int i 0]) (hx : b[i]? = some c)
    (h : ∀ h' io', Fr h₀ L h' m → News h₀ L h' ((it, io') :: news) → io'.cls = .type "bytes_iterator" → io'.data = .fields #[.bytes b.toArray t, .int (i + 1 : Nat) 0] → Q (some (.int (c.toNat : Int) s.toks)) { s with heap := h', toks := s.toks + 1 }) :
    wpAny (model prog w) A (pyNext (.ref it)) Q E s := by
  refine KBw.next_item ⟨io, (N _ (.head _)).1, hc, hd⟩ (by simpa using hx) fun h' hi hs => ?_
  obtain ⟨o', ho', hc', hd'⟩ := hi
  obtain ⟨F', N'⟩ := led_same F N hlt hs ho'
  exact h h' o' F' N' hc' hd'
theorem end_b {b : List UInt8} {t : Tok} {i : Nat} {Q : Option Value → Shared → Prop} (hh : A.handled = none) (F : Fr h₀ L s.heap m) (N : News h₀ L s.heap ((it, io) :: news)) (hlt : ∀ p ∈ news, p.1 < it) (hc : io.cls = .type "bytes_iterator") (hd : io.data = .fields #[.bytes b.toArray t, .int i 0]) (hx : b[i]? = none)
    (h : ∀ h', Fr h₀ L h' m → News h₀ L h' news → Q none { s with heap := h' }) : wpAny (model prog w) A (pyNext (.ref it)) Q E s := by
  refine KBw.next_end hh ⟨io, (N _ (.head _)).1, hc, hd⟩ (by simpa using hx) fun h' hx => ?_
  obtain ⟨F', N'⟩ := led_ext F N hlt hx
  exact h h' F' N'
theorem next_l {l : Addr} {vs : List Value} {ep : Nat} {i : Nat} {v : Value} {Q : Option Value → Shared → Prop} (F : Fr h₀ L s.heap m) (N : News h₀ L s.heap ((it, io) :: news)) (hlt : ∀ p ∈ news, p.1 < it) (hl : (l, W.listOf vs.toArray ep) ∈ news) (hc : io.cls = .type "list_iterator") (hd : io.data = .fields #[.ref l, .int i 0]) (hx : vs[i]? = some v)
    (h : ∀ h' io', Fr h₀ L h' m → News h₀ L h' ((it, io') :: news) → io'.cls = .type "list_iterator" → io'.data = .fields #[.ref l, .int (i + 1 : Nat) 0] → Q (some v) { s with heap := h' }) :
    wpAny (model prog w) A (pyNext (.ref it)) Q E s := by
  refine wpAny_pyNext_list_item ⟨io, (N _ (.head _)).1, hc, hd⟩ ⟨_, (N _ (.tail _ hl)).1, rfl, ep, rfl⟩ (by simpa using hx) fun h' hi hs => ?_
  obtain ⟨o', ho', hc', hd'⟩ := hi
  obtain ⟨F', N'⟩ := led_same F N hlt hs ho'
  exact h h' o' F' N' hc' hd'
theorem end_l {l : Addr} {vs : List Value} {ep : Nat} {i : Nat} {Q : Option Value → Shared → Prop} (hh : A.handled = none) (F : Fr h₀ L s.heap m) (N : News h₀ L s.heap ((it, io) :: news)) (hlt : ∀ p ∈ news, p.1 < it) (hl : (l, W.listOf vs.toArray ep) ∈ news) (hc : io.cls = .type "list_iterator") (hd : io.data = .fields #[.ref l, .int i 0]) (hx : vs[i]? = none)
    (h : ∀ h', Fr h₀ L h' m → News h₀ L h' news → Q none { s with heap := h' }) : wpAny (model prog w) A (pyNext (.ref it)) Q E s := by
  refine wpAny_pyNext_list_end hh ⟨io, (N _ (.head _)).1, hc, hd⟩ ⟨_, (N _ (.tail _ hl)).1, rfl, ep, rfl⟩ (by simpa using hx) fun h' hx => ?_
  obtain ⟨F', N'⟩ := led_ext F N hlt hx
  exact h h' F' N'
theorem kind_iter : builtinKind "iter" = none := by decide +kernel
theorem plain_iter : plainId "iter" = true := by decide +kernel
theorem entry_iter : entryFor table "iter" = some Builtin.«iter» := entryFor_of_tree (by kernel_rfl)
theorem args_iter1 (a : Value) : argsOk "iter" ⟨[a], []⟩ := by unfold argsOk; kernel_rfl
theorem ca_iter {x : Value} {Q : Value → Shared → Prop} (h : wpAny (model prog w) A.in1 (pyIter x) Q E s) : wpAny (model prog w) A (call (.builtin "iter") [x]) Q E s := by
  refine Calls.call_function_entry kind_iter plain_iter entry_iter (args_iter1 _) ?_
  unfold Builtin.«iter»
  refine wpAny_bind (m := someArgs "iter" 1 2 _) (wpAny_of_eq (a := [x]) (by first | rfl | kernel_rfl) ?_)
  dsimp only
  exact wpAny_bind (wpAny_mono h (fun v s' hv => wpAny_pure ⟨_, rfl, hv⟩) fun _ _ e => e)
/-- a thing that a for may go through: n items -/
structure GoesOn (news : List (Addr × Obj)) (x : Value) (n : Nat) (val : Nat → Value → Prop) (P : Nat → Obj → Prop) : Prop where
  make : ∀ {prog : Program} {w : World} {A : Around} {E : Value → Shared → Prop} {s : Shared} {h₀ : Heap} {L : Addr} {m : Str → Option Value} {Q : Value → Shared → Prop}, Fr h₀ L s.heap m → News h₀ L s.heap news →
    (∀ it io h', Fr h₀ L h' m → News h₀ L h' ((it, io) :: news) → (∀ p ∈ news, p.1 < it) → P 0 io → Q (.ref it) { s with heap := h' }) → wpAny (model prog w) A (pyIter x) Q E s
  self : ∀ {prog : Program} {w : World} {A : Around} {E : Value → Shared → Prop} {s : Shared} {it : Addr} {io : Obj} {i : Nat} {Q : Value → Shared → Prop}, s.heap.get? it = some io → P i io → Q (.ref it) s → wpAny (model prog w) A (pyIter (.ref it)) Q E s
  item : ∀ {prog : Program} {w : World} {A : Around} {E : Value → Shared → Prop} {s : Shared} {h₀ : Heap} {L : Addr} {m : Str → Option Value} {it : Addr} {io : Obj} {i : Nat} {Q : Option Value → Shared → Prop}, Fr h₀ L s.heap m → News h₀ L s.heap ((it, io) :: news) → (∀ p ∈ news, p.1 < it) → P i io → i < n →
    (∀ v h' io' tk, Fr h₀ L h' m → News h₀ L h' ((it, io') :: news) → P (i + 1) io' → val i v → Q (some v) { s with heap := h', toks := tk }) → wpAny (model prog w) A (pyNext (.ref it)) Q E s
  done : ∀ {prog : Program} {w : World} {A : Around} {E : Value → Shared → Prop} {s : Shared} {h₀ : Heap} {L : Addr} {m : Str → Option Value} {it : Addr} {io : Obj} {i : Nat} {Q : Option Value → Shared → Prop}, A.handled = none → Fr h₀ L s.heap m → News h₀ L s.heap ((it, io) :: news) → (∀ p ∈ news, p.1 < it) → P i io → n ≤ i →
    (∀ h', Fr h₀ L h' m → News h₀ L h' news → Q none { s with heap := h' }) → wpAny (model prog w) A (pyNext (.ref it)) Q E s
theorem goes_bytes (b : List UInt8) (t : Tok) : GoesOn news (.bytes b.toArray t) b.length (fun i v => ∃ u, v = .int ((b.getD i 0).toNat : Int) u) (fun i io => io.cls = .type "bytes_iterator" ∧ io.data = .fields #[.bytes b.toArray t, .int i 0]) where
  make := fun F N h => KBw.pyIter_bytes (h _ _ _ (F.push _) (News.push F N _ rfl) (fun p hp => Heap.lt_size (N p hp).1) ⟨rfl, rfl⟩)
  self := fun ho hP h => KBw.pyIter_self (b := b.toArray) (t := t) ⟨_, ho, hP.1, hP.2⟩ h
  item := fun F N hlt hP hi h => next_b F N hlt hP.1 hP.2 (List.getElem?_eq_getElem hi) fun h' io' F' N' hc hd => h _ h' io' _ F' N' ⟨hc, hd⟩ ⟨_, by rw [List.getD_eq_getElem?_getD, List.getElem?_eq_getElem hi]; rfl⟩
  done := fun hh F N hlt hP hi h => end_b hh F N hlt hP.1 hP.2 (List.getElem?_eq_none hi) h
theorem goes_list {l : Addr} {vs : List Value} {ep : Nat} (hl : (l, W.listOf vs.toArray ep) ∈ news) : GoesOn news (.ref l) vs.length (fun i v => vs[i]? = some v) (fun i io => io.cls = .type "list_iterator" ∧ io.data = .fields #[.ref l, .int i 0]) where
  make := fun F N h => wpAny_pyIter_list ⟨_, (N _ hl).1, rfl, ep, rfl⟩ (h _ _ _ (F.push _) (News.push F N _ rfl) (fun p hp => Heap.lt_size (N p hp).1) ⟨rfl, rfl⟩)
  self := fun ho hP h => wpAny_pyIter_listiter (l := l) ⟨_, ho, hP.1, hP.2⟩ h
  item := fun F N hlt hP hi h => next_l F N hlt hl hP.1 hP.2 (List.getElem?_eq_getElem hi) fun h' io' F' N' hc hd => h _ h' io' _ F' N' ⟨hc, hd⟩ (List.getElem?_eq_getElem hi)
  done := fun hh F N hlt hP hi h => end_l hh F N hlt hl hP.1 hP.2 (List.getElem?_eq_none hi) h
end its
-- needs: base leaf bi loops
/-- f called with as gives back res, whatever the frame -/
def CallsTo (w : World) (p : Program) (loose : List Str) (mean : ExcName → Option Value) (mg mb : Str → Option Value) (base : Heap) (news : List (Addr × Obj)) (k ku : Nat) (f : Value) (as : List Value) (res : Tok → Value) : Prop :=
  ∀ {A : Around} {env : Env} {outer : List Env} {A₀ : Around} {h₀ : Heap} {L : Addr} {m : Str → Option Value} {news₁ : List (Addr × Obj)} {s : Shared} {Q E : Value → Shared → Prop}, Below A₀ base outer h₀ → Fr h₀ L s.heap m → (hd.heap_39 w.params).In h₀ → News h₀ L s.heap news₁ → Top p loose mean mg mb h₀ →
    A.frames = some (env :: outer) → env.frame = some L → env.scope.kind = .function → A.handled = none → A.depth + k < recursionLimit → A.units + ku < cLine → (∀ q ∈ news, q ∈ news₁) →
    (∀ t h' tk', Fr h₀ L h' m → News h₀ L h' news₁ → Q (res t) { s with heap := h', toks := tk' }) → wpAny (model prg w) A (call f as) Q E s
section
variable {w : World} {p : Program} {loose : List Str} {mean : ExcName → Option Value} {mg mb : Str → Option Value} {A : Around} {env : Env} {outer : List Env} {A₀ : Around} {base h₀ : Heap} {L : Addr} {m : Str → Option Value} {news : List (Addr × Obj)} {s : Shared} {Q E : Value → Shared → Prop}
  (B : Below A₀ base outer h₀) (F : Fr h₀ L s.heap m) (X : (hd.heap_39 w.params).In h₀) (N : News h₀ L s.heap news) (T : Top p loose mean mg mb h₀)
  (hA : A.frames = some (env :: outer)) (hf : env.frame = some L) (hke : env.scope.kind = .function) (hh : A.handled = none)
include B F X N T hA hf hke hh
theorem c_reduce {x : Value} {n : Nat} {val : Nat → Value → Prop} {P : Nat → Obj → Prop} {acc : Nat → Int} {t0 : Tok} {f : Addr} {k ku : Nat} {v0 : Int} {fn fq : Str} {fp : Arguments} {fb : Expr} {fs : Scope} {fcl : List (Str × Addr)} {fpm fct : Value} {fc : Addr} (hdp : A.depth + (k + 10) < recursionLimit) (hun : A.units + (ku + 80) < cLine)
    (hsrc : GoesOn news x n val P) (hfn : (f, kla_obj fn fq fp fb fs fcl fpm fc fct) ∈ news) (h0 : acc 0 = v0)
    (hcall : ∀ i, i < n → ∀ v ta, val i v → CallsTo w p loose mean mg mb base news k ku (.ref f) [.int (acc i) ta, v] (fun t => .int (acc (i + 1)) t))
    (ret : ∀ t h' tk', Fr h₀ L h' m → News h₀ L h' news → Q (.int (acc n) t) { s with heap := h', toks := tk' }) :
    wpAny (model prg w) A (call (.ref 178) [.ref f, x, .int v0 t0]) Q E s := by
  subst h0
  ktr_enter
  k_steps
  k_here
  refine ca_iter ?_
  refine GoesOn.make (by assumption) (by k_asm) (by k_asm) ?_
  intro it9 io9 h9 F9' N9' l9 P9
  k_steps
  rename Fr _ _ _ _ => F9
  rename News _ _ _ _ => N9
  refine ⟨wpAny_For (ld F9 rfl (hsrc.self (N9.get (.head _)) P9 (For_inv (n₀ := n) (fun r m₁ news₁ => ∃ (j : Nat) (io : Obj) (tv : Tok), AllAt m₁ [(Str.ofString "function", .ref f), (Str.ofString "value", .int (acc j) tv)] ∧ news₁ = (it9, io) :: news ∧ P j io ∧ r = n - j ∧ j ≤ n) F9 N9 ⟨0, _, _, ⟨rfl, rfl, trivial⟩, rfl, P9, rfl, Nat.zero_le _⟩ ?_)))⟩
  rintro r m₁ news₁ h₁ tk₁ F₁ N₁ ⟨j, io, tv, hm, rfl, hP, hr, hj⟩
  have F₂ := ovl_fr F₁ hm
  clear F₁ hm
  by_cases hjn : j < n
  · refine hsrc.item F₂ N₁ l9 hP hjn ?_
    intro v h2 io2 tk2 F2 N2 hP2 hv
    clear F₂ N₁
    dsimp only
    k_steps
    refine hcall j hjn v tv hv (by assumption) (by assumption) (by assumption) (by assumption) (by assumption) (Around.frames_deeper hA) rfl rfl hh (by rw [depth_deeper]; omega) (by rw [units_deeper]; omega) (fun q hq => .tail _ hq) ?_
    intro t3 h3 tk3 F3 N3
    k_steps
    exact ForEnd.on (by assumption) (by assumption) (n' := n - (j + 1)) (by omega) ⟨j + 1, _, _, ⟨rfl, rfl, trivial⟩, rfl, hP2, rfl, hjn⟩
  · refine hsrc.done hh F₂ N₁ l9 hP (by omega) ?_
    intro h2 F2 N2
    dsimp only
    have hje : j = n := by omega
    subst hje
    k_steps
    exact ret _ _ _ (by assumption) (by assumption)
end
-- needs: base leaf bi loops reduce
abbrev lamq1 : Str := (Str.ofString "_law_value" ++ Str.ofString ".<locals>.") ++ Str.ofString "<lambda>"
/-- the lambda of _law_value has been made once -/
def Lam1 (news : List (Addr × Obj)) : Prop := ∃ (c1 : Addr) (oc1 : Obj) (vs1 : Array Value) (t1 : Tok), (180, tabObj #[rawInt 230, rawInt 18, .ref c1]) ∈ news ∧ (c1, oc1) ∈ news ∧ oc1.data = .fields vs1 ∧ vs1[1]? = some (.str lamq1 t1)
/-- the number of octets -/
def val256 (ns : List Int) : Int := ns.foldl (fun a c => a * 256 + c) 0
theorem val256_snoc (ns : List Int) (i : Nat) (h : i < ns.length) : val256 (ns.take (i + 1)) = val256 (ns.take i) * 256 + ns.getD i 0 := by
  rw [take_snoc (d := 0) ns i h]
  simp [val256, List.foldl_append]
section
variable {w : World} {p : Program} {loose : List Str} {mean : ExcName → Option Value} {mg mb : Str → Option Value} {A : Around} {env : Env} {outer : List Env} {A₀ : Around} {base h₀ : Heap} {L : Addr} {m : Str → Option Value} {news : List (Addr × Obj)} {s : Shared} {Q E : Value → Shared → Prop}
  (B : Below A₀ base outer h₀) (F : Fr h₀ L s.heap m) (X : (hd.heap_39 w.params).In h₀) (N : News h₀ L s.heap news) (T : Top p loose mean mg mb h₀)
  (hA : A.frames = some (env :: outer)) (hf : env.frame = some L) (hke : env.scope.kind = .function) (hh : A.handled = none)
include B F X N T hA hf hke hh
theorem c_value {x : Value} {ns : List Int} {val : Nat → Value → Prop} {P : Nat → Obj → Prop} (hdp : A.depth + 30 < recursionLimit) (hun : A.units + 240 < cLine) (C1 : CodeHd base 184 180) (hl1 : Lam1 news)
    (hsrc : ∀ p, GoesOn (p :: news) x ns.length val P) (hval : ∀ i v, val i v → ∃ u, v = .int (ns.getD i 0) u)
    (ret : ∀ t h' tk', Fr h₀ L h' m → News h₀ L h' news → Q (.int (val256 ns) t) { s with heap := h', toks := tk' }) :
    wpAny (model prg w) A (call (.ref 185) [x]) Q E s := by
  obtain ⟨c1, oc1, vs1, t1, hm1, hm2, hoc, hv1⟩ := hl1
  ktr_enter
  k_steps
  refine c_reduce (k := 10) (ku := 80) (n := ns.length) (val := val) (P := P) (acc := fun i => val256 (ns.take i)) (by assumption) (by assumption) (by assumption) (by assumption) (by assumption) (Around.frames_deeper hA) rfl rfl hh (by rw [depth_deeper]; omega) (by rw [units_deeper]; omega) (hsrc _) (.head _) rfl ?_ ?_
  · intro i hi v ta hv
    obtain ⟨u, rfl⟩ := hval i v hv
    intro A2 env2 outer2 A₀2 h₀2 L2 m2 news2 s2 Q2 E2 B2 F2 X2 N2 T2 hA2 hf2 hk2 hh2 hd2 hu2 hsub ret2
    refine wpAny_call (kla_code B2 F2 X2 N2 T2 hA2 hf2 hk2 (hsub _ (.head _)) (codeRec_news N2 (hsub _ (.tail _ hm2)) hoc hv1) (by omega) rfl (locs rfl) ?_ rfl rfl rfl (by decide))
    intro g L' h' FG F' N' B' X' T'
    dsimp only
    k_fold
    k_steps
    have e := val256_snoc ns i hi
    dsimp only at ret2
    rw [e] at ret2
    exact ret2 _ _ _ (by assumption) (by assumption)
  · intro t3 h3 tk3 F3 N3
    dsimp only at *
    rw [List.take_length]
    k_steps
    exact ret _ _ _ (by assumption) (news_drop (by assumption))
end
-- needs: base leaf bi value
theorem foldl256 (ns : List Int) : ∀ a : Int, ns.foldl (fun a c => a * 256 + c) a = a * 256 ^ ns.length + val256 ns := by
  induction ns with
  | nil => intro a; simp [val256]
  | cons c r ih =>
    intro a
    have e : val256 (c :: r) = c * 256 ^ r.length + val256 r := by
      show r.foldl (fun a c => a * 256 + c) (0 * 256 + c) = _
      rw [ih]; simp
    rw [List.foldl_cons, ih, e, List.length_cons, Int.pow_succ]
    rw [Int.add_mul, Int.mul_assoc, Int.mul_comm 256, Int.add_assoc]
theorem val256_cons (c : Int) (r : List Int) : val256 (c :: r) = c * 256 ^ r.length + val256 r := by
  show r.foldl (fun a c => a * 256 + c) (0 * 256 + c) = _
  rw [foldl256]; simp
theorem val256_append (a b : List Int) : val256 (a ++ b) = val256 a * 256 ^ b.length + val256 b := by
  show (a ++ b).foldl _ 0 = _
  rw [List.foldl_append, foldl256]; rfl
abbrev octs (os : List UInt8) : List Int := os.map fun c => (c.toNat : Int)
theorem pow256_pos (n : Nat) : (0 : Int) < 256 ^ n := Int.pow_pos (by decide)
theorem val256_bounds : ∀ os : List UInt8, 0 ≤ val256 (octs os) ∧ val256 (octs os) < 256 ^ os.length
  | [] => by simp [val256]
  | c :: r => by
    have ih := val256_bounds r
    have hc := c.toNat_lt
    have hp := pow256_pos r.length
    show 0 ≤ val256 ((c.toNat : Int) :: octs r) ∧ val256 ((c.toNat : Int) :: octs r) < 256 ^ (r.length + 1)
    rw [val256_cons, List.length_map, Int.pow_succ]
    generalize (256 : Int) ^ r.length = q at *
    have h0 : 0 ≤ (c.toNat : Int) * q := Int.mul_nonneg (by omega) (by omega)
    have h1 : (c.toNat : Int) * q ≤ 255 * q := Int.mul_le_mul_of_nonneg_right (by omega) (by omega)
    omega
theorem row_math {n0 nm : Int} {os : List UInt8} (hnm : 0 ≤ nm) (hval : n0 = nm * 256 ^ os.length + val256 (octs os)) (hn6 : n0 < 281474976710656) (hl : os.length ≤ 6) :
    ∃ c : UInt8, (c.toNat : Int) = nm.fmod 256 ∧ 0 ≤ nm.fdiv 256 ∧ n0 = nm.fdiv 256 * 256 ^ (c :: os).length + val256 (octs (c :: os)) ∧ (0 < nm → os.length ≤ 5 ∧ nm.fdiv 256 ≤ nm - 1) := by
  have e1 : nm.fmod 256 = nm % 256 := Int.fmod_eq_emod_of_nonneg _ (by decide)
  have e2 : nm.fdiv 256 = nm / 256 := Int.fdiv_eq_ediv_of_nonneg _ (by decide)
  refine ⟨(nm.fmod 256).toNat.toUInt8, byte_back (by omega) (by omega), by omega, ?_, fun hp => ⟨?_, by omega⟩⟩
  · show n0 = nm.fdiv 256 * 256 ^ (os.length + 1) + val256 ((((nm.fmod 256).toNat.toUInt8).toNat : Int) :: octs os)
    rw [val256_cons, byte_back (by omega) (by omega), List.length_map, Int.pow_succ, hval]
    have : nm = nm.fdiv 256 * 256 + nm.fmod 256 := by omega
    have h3 : nm * 256 ^ os.length = (nm.fdiv 256 * 256 + nm.fmod 256) * 256 ^ os.length := by rw [← this]
    rw [h3, Int.add_mul, Int.mul_assoc, Int.mul_comm 256, Int.add_assoc]
  · have hb := (val256_bounds os).1
    have h1 : 1 * 256 ^ os.length ≤ nm * (256 : Int) ^ os.length := Int.mul_le_mul_of_nonneg_right (by omega) (Int.le_of_lt (pow256_pos _))
    apply Nat.le_of_not_lt
    intro h6
    have : os.length = 6 := by omega
    rw [this] at hval h1
    have : (256 : Int) ^ 6 = 281474976710656 := by decide
    omega
theorem row_nat {a b v p q : Nat} (h1 : p < v) (hv : v < 4) (h2 : a < b) : 3 * a + p < 3 * b + q := by omega
theorem pad_fin : ∀ v r : Fin 4, 0 < r.1 → r.1 < v.1 → (v.1 - (r.1 + 1) % v.1) % v.1 < (v.1 - r.1 % v.1) % v.1 := by decide
theorem row_meas {nm u : Int} {l : Nat} (hu : u = 1 ∨ u = 2 ∨ u = 3) (hnm : 0 ≤ nm) (hp : 0 < nm → nm.fdiv 256 ≤ nm - 1) (h : 0 < nm ∨ 0 < (l : Int) % u) : 3 * (nm.fdiv 256).toNat + (u.toNat - (l + 1) % u.toNat) % u.toNat < 3 * nm.toNat + (u.toNat - l % u.toNat) % u.toNat := by
  have hd0 : nm.fdiv 256 = nm / 256 := Int.fdiv_eq_ediv_of_nonneg _ (by decide)
  rw [hd0] at hp ⊢
  have hu3 : 0 < u.toNat ∧ u.toNat < 4 ∧ (u.toNat : Int) = u := by rcases hu with rfl | rfl | rfl <;> decide
  generalize u.toNat = v at hu3 ⊢
  obtain ⟨hv0, hv4, rfl⟩ := hu3
  by_cases hn : 0 < nm
  · have h1 := Nat.mod_lt (v - (l + 1) % v) hv0
    have h2 : (nm / 256).toNat < nm.toNat := (Int.toNat_lt_toNat hn).mpr (Int.lt_of_le_sub_one (hp hn))
    generalize (v - (l + 1) % v) % v = p at h1 ⊢
    exact row_nat h1 hv4 h2
  · have hz : nm = 0 := Int.le_antisymm (Int.not_lt.mp hn) hnm
    subst hz
    have hl : 0 < l % v := by exact_mod_cast h.resolve_left hn
    have := pad_fin ⟨v, hv4⟩ ⟨l % v, Nat.lt_trans (Nat.mod_lt l hv0) hv4⟩ hl (Nat.mod_lt l hv0)
    dsimp only at this
    rw [Nat.mod_add_mod, Nat.mod_mod] at this
    exact Nat.add_lt_add_left this _
theorem row_done {u : Int} {l : Nat} (hu : u = 1 ∨ u = 2 ∨ u = 3) (h : ¬ 0 < (l : Int) % u) : l % u.toNat = 0 := by
  rcases hu with rfl | rfl | rfl <;> simp only [Int.reduceToNat] <;> omega
theorem row_len {nm u : Int} {l : Nat} (hu : u = 1 ∨ u = 2 ∨ u = 3) (_ : 0 ≤ nm) (h6 : l ≤ 6) (hp : 0 < nm → l ≤ 5) (h : 0 < nm ∨ 0 < (l : Int) % u) : l + 1 ≤ 6 := by
  rcases h with h | h
  · exact Nat.succ_le_succ (hp h)
  · rcases hu with rfl | rfl | rfl <;> omega
theorem skip2 {α : Type} {a b c q : α} {l : List α} (h : q ∈ a :: l) : q ∈ a :: b :: c :: l := by
  rcases List.mem_cons.mp h with rfl | h
  · exact .head _
  · exact .tail _ (.tail _ (.tail _ h))
theorem modU {prog : Program} {w : World} {A : Around} {E : Value → Shared → Prop} {s : Shared} {Q : Value → Shared → Prop} {a b : Int} {t u : Tok} (hb : 0 < b) (h : Q (.int (a % b) s.toks) { s with toks := s.toks + 1 }) : wpAny (model prog w) A (binaryOp .Mod (.int a t) (.int b u)) Q E s :=
  mod_int' (Int.ne_of_gt hb) (by rw [Int.fmod_eq_emod_of_nonneg _ (Int.le_of_lt hb)]; exact h)
section
local macro_rules | `(tactic| walk_at "binaryOp Mod int int") => `(tactic| (k_here; refine modU (by assumption) ?_))
variable {w : World} {p : Program} {loose : List Str} {mean : ExcName → Option Value} {mg mb : Str → Option Value} {A : Around} {env : Env} {outer : List Env} {A₀ : Around} {base h₀ : Heap} {L : Addr} {m : Str → Option Value} {news : List (Addr × Obj)} {s : Shared} {Q E : Value → Shared → Prop}
  (B : Below A₀ base outer h₀) (F : Fr h₀ L s.heap m) (X : (hd.heap_39 w.params).In h₀) (N : News h₀ L s.heap news) (T : Top p loose mean mg mb h₀)
  (hA : A.frames = some (env :: outer)) (hf : env.frame = some L) (hke : env.scope.kind = .function) (hh : A.handled = none)
include B F X N T hA hf hke hh
theorem c_row {n0 u : Int} {tn tu : Tok} (hdp : A.depth + 20 < recursionLimit) (hun : A.units + 160 < cLine) (hu : u = 1 ∨ u = 2 ∨ u = 3) (hn : 0 ≤ n0) (hn6 : n0 < 281474976710656)
    (ret : ∀ (os : List UInt8) t h' tk', os.length ≤ 6 → os.length % u.toNat = 0 → val256 (octs os) = n0 → Fr h₀ L h' m → News h₀ L h' news → Q (.bytes os.toArray t) { s with heap := h', toks := tk' }) :
    wpAny (model prg w) A (call (.ref 192) [.int n0 tn, .int u tu]) Q E s := by
  ktr_enter
  k_steps
  refine ⟨While_inv (n₀ := 3 * n0.toNat + (u.toNat - 0 % u.toNat) % u.toNat) (fun r m₁ news₁ => ∃ (nm : Int) (t1 t2 : Tok) (vs : List Value) (ep : Nat) (lo : Addr) (os : List UInt8), AllAt m₁ [(Str.ofString "number", .int nm t1), (Str.ofString "unit", .int u t2), (Str.ofString "octets", .ref lo)] ∧ news₁ = (lo, W.listOf vs.toArray ep) :: news ∧ (∀ p ∈ news, p.1 < lo) ∧ IntsAre vs (octs os) ∧ 0 ≤ nm ∧ os.length ≤ 6 ∧ n0 = nm * 256 ^ os.length + val256 (octs os) ∧ r = 3 * nm.toNat + (u.toNat - os.length % u.toNat) % u.toNat) (by assumption) (by assumption) ⟨_, _, _, [], 0, _, [], ⟨rfl, rfl, rfl, trivial⟩, rfl, by assumption, .nil, hn, by decide, by simp [val256], rfl⟩ ?_⟩
  rintro r m₁ news₁ h₁ tk₁ F₁ N₁ ⟨nm, t1, t2, vs, ep, lo, os, hm, rfl, hlo, hi, hnm, hl6, hval, hr⟩
  have F₂ := ovl_fr F₁ hm
  clear F₁ hm
  have hvl : vs.length = os.length := by have := hi.length; simpa using this
  obtain ⟨c, hc, hdv, hval2, hpos⟩ := row_math hnm hval hn6 hl6
  have hu0 : 0 < u := by rcases hu with rfl | rfl | rfl <;> decide
  k_steps
  all_goals try
    (rename ¬ 0 < _ % _ => hf9
     rw [List.length_map] at hf9
     have hz : nm = 0 := by omega
     rw [hz] at hval
     exact ret os _ _ _ hl6 (row_done hu hf9) (by rw [hval]; simp) (by assumption) (news_drop (by assumption)))
  all_goals
    have hor : 0 < nm ∨ 0 < (os.length : Int) % u := by
      first
      | exact .inl (by assumption)
      | (rename 0 < _ % _ => hf9; rw [List.length_map] at hf9; exact .inr hf9)
    have hmeas := row_meas (l := os.length) hu hnm (fun h => (hpos h).2) hor
    have hl5 : os.length + 1 ≤ 6 := row_len hu hnm hl6 (fun h => (hpos h).1) hor
    clear hor
    rename IntsAre _ ([_] ++ _) => hI9
    rename _ < _ ∧ _ < _ ∧ AllLt _ _ => hlt9
    rw [← hc] at hI9
    exact WhileStep.intro (by assumption) (fun q hq => (by assumption : News _ _ _ (_ :: _ :: _ :: news)) q (skip2 hq)) (by rw [hr]; exact hmeas) ⟨nm.fdiv 256, _, _, _, 0, _, c :: os, ⟨rfl, rfl, rfl, trivial⟩, rfl, fun p hp => Nat.lt_trans (hlo p hp) hlt9.2.1, hI9, hdv, hl5, hval2, rfl⟩
end
section seg
variable {prog : Program} {w : World} {A : Around} {R : GenEnd} {Y : Protocol} {n : Nat} {s₀ : Shared} {c : Code} {fs : List PySem.Frame} {s : Shared} {env : Env}
  {K : Flow → Sem Fin} {H : Value → Sem Fin} {gd : Bool → Bool} {lv : List Value → List Value}
theorem no_raise {α : Type} {M : Model} {A : Around} {t : Sem α} {Q : α → Shared → Prop} {E : Value → Shared → Prop} {s : Shared} (h : wpAny M A t Q (fun _ _ => False) s) : wpAny M A t Q E s := wpAny_mono h (fun _ _ x => x) fun _ _ x => x.elim
theorem seg_stmt {M : Model} {st : Stmt} (h : wpAny M (A.over c fs) (exec st env) (fun f s' => Seg M A R Y n s₀ c (K f) fs s') (fun _ _ => False) s) : Seg M A R Y n s₀ c ((exec st env).wrap K H gd lv) fs s := seg_wrap (no_raise h)
theorem seg_If {M : Model} {test : Expr} {body orelse : List Stmt} {pos : Pos} (h : wpAny M (A.over c fs) (isTrue test env (eval test env)) (fun b s' => if b = true then Seg M A R Y n s₀ c ((execs body env).wrap K H gd lv) fs s' else Seg M A R Y n s₀ c ((execs orelse env).wrap K H gd lv) fs s') (fun _ _ => False) s) :
    Seg M A R Y n s₀ c ((exec (.If test body orelse pos) env).wrap K H gd lv) fs s := by
  rw [arm_exec_If, Sem.bind_eq_wrap', Sem.wrap_wrap]
  refine seg_wrap (wpAny_standAt ?_)
  rw [Sem.bind_eq_wrap', Sem.wrap_wrap]
  refine seg_wrap (no_raise (wpAny_mono h (fun b s' hb => ?_) fun _ _ x => x))
  cases b with
  | true => rw [if_pos rfl] at hb; exact hb
  | false => rw [if_neg Bool.false_ne_true] at hb; exact hb
theorem seg_For {M : Model} {target iter : Expr} {body orelse : List Stmt} {pos : Pos}
    (h : wpAny M (A.over c fs) (eval iter env) (fun x s₁ => wpAny M (A.over c fs) (pyIter x) (fun it s₂ =>
      ∀ p, Seg M A R Y n s₀ (.forLoop target it body orelse env) (M.den (.forLoop target it body orelse env))
        (.ret (fun r => ((match r with | .ok f => (.pure f : Sem Flow) | .error e => .raise e).onRaise fun (x : Value) => do
          if (← field x 1) == Value.none then unsupported "frame.own-activation:exception-without-traceback"
          setFlight x env.frame).wrap K H gd lv) none (gd false) (lv []) c p [] :: fs) s₂) (fun _ _ => False) s₁) (fun _ _ => False) s)
    (hs : ∀ x, foldedSetIterable iter env x = pure x) :
    Seg M A R Y n s₀ c ((exec (.For target iter body orelse pos) env).wrap K H gd lv) fs s := by
  rw [arm_exec_For, Sem.bind_eq_wrap', Sem.wrap_wrap]
  refine seg_wrap (wpAny_standAt ?_)
  rw [Sem.bind_eq_wrap', Sem.wrap_wrap]
  refine seg_wrap (no_raise (wpAny_mono h (fun x s₁ h₁ => ?_) fun _ _ x => x))
  rw [hs x]
  show Seg M A R Y n s₀ c (Sem.wrap _ _ _ _ (standAt iter.pos >>= fun _ => (holding [x] (pyIter x) >>= fun it => runOwn (.forLoop target it body orelse env) env))) fs s₁
  rw [Sem.bind_eq_wrap', Sem.wrap_wrap]
  refine seg_wrap (wpAny_standAt ?_)
  rw [Sem.bind_eq_wrap', Sem.wrap_wrap]
  refine seg_wrap (no_raise (wpAny_holding (wpAny_mono h₁ (fun it s₂ h₂ => ?_) fun _ _ x => x)))
  exact seg_call h₂
theorem seg_forLoop {x : Str} {px : Pos} {it : Value} {body : List Stmt}
    (h : wpAny (model prog w) (A.over (.forLoop (.Name x px) it body [] env) fs) (pyNext it) (fun r s' => match r with
      | none => Seg (model prog w) A R Y n s₀ (.forLoop (.Name x px) it body [] env) (.pure (.again (.block [] env))) fs s'
      | some v => wpAny (model prog w) (A.over (.forLoop (.Name x px) it body [] env) fs) (storeName env x v) (fun _ s'' =>
          Seg (model prog w) A R Y n s₀ (.forLoop (.Name x px) it body [] env) ((execs body env).wrap (fun f => match f with
            | .next | .cont => .pure (.again (.forLoop (.Name x px) it body [] env))
            | .brk => .pure (.done .next)
            | .ret v => .pure (.done (.ret v))) (fun e => (do noteFrame e env; theTreesLotGoes e : Sem Unit).wrap (fun _ => .raise e) .raise id id) id id) fs s'') (fun _ _ => False) s') (fun _ _ => False) s) :
    Seg (model prog w) A R Y n s₀ (.forLoop (.Name x px) it body [] env) ((model prog w).den (.forLoop (.Name x px) it body [] env)) fs s := by
  show Seg _ A R Y n s₀ _ ((forTurn (.Name x px) it body [] env).onRaise (fun x => do noteFrame x env; theTreesLotGoes x)) fs s
  unfold forTurn
  rw [Sem.onRaise_eq_wrap, Sem.bind_eq_wrap', Sem.wrap_wrap]
  refine seg_wrap (wpAny_standAt ?_)
  rw [Sem.bind_eq_wrap', Sem.onRaise_eq_wrap, Sem.wrap_wrap, Sem.wrap_wrap]
  refine seg_wrap (no_raise (wpAny_mono h (fun r s' hr => ?_) fun _ _ x => x))
  cases r with
  | none => exact hr
  | some v =>
    show Seg _ A R Y n s₀ _ (Sem.wrap _ _ _ _ (assign (.Name x px) env v >>= fun _ => (execs body env >>= fun f => _))) fs s'
    rw [Sem.bind_eq_wrap', Sem.wrap_wrap]
    refine seg_wrap (no_raise (wpAny_assign_Name (wpAny_mono hr (fun _ s'' h'' => ?_) fun _ _ x => x)))
    rw [Sem.bind_eq_wrap', Sem.wrap_wrap]
    rw [Sem.wrap_congr (execs body env) _ _ (K' := fun f => match f with
            | .next | .cont => .pure (.again (.forLoop (.Name x px) it body [] env))
            | .brk => .pure (.done .next)
            | .ret v => .pure (.done (.ret v))) (H' := (fun e => (do noteFrame e env; theTreesLotGoes e : Sem Unit).wrap (fun _ => .raise e) .raise id id))
        (fun f => by cases f <;> rfl)
        (fun e => by first | exact Sem.bind_eq_wrap _ _ | (show (do noteFrame e env; theTreesLotGoes e : Sem Unit).bind (fun _ => .raise e) = _; rw [Sem.bind_eq_wrap]))]
    exact h''
theorem seg_block {cc : Code} (h : Seg (model prog w) A R Y n s₀ (.block [] env) (.pure (.done .next)) fs s) : Seg (model prog w) A R Y n s₀ cc (.pure (.again (.block [] env))) fs s :=
  seg_again rfl h
end seg
-- needs: base leaf bi loops seg
def KeepBut (a b : Addr) (h h' : Heap) : Prop := ∀ c o, c ≠ a → c ≠ b → h.get? c = some o → h'.get? c = some o
/-- what a suspended generator must find again -/
structure Finds (gb : Heap) (Lg itg ls : Addr) (oL oi lo : Obj) (h : Heap) : Prop where
  keep : ∀ b o, gb.get? b = some o → h.get? b = some o
  fr : h.get? Lg = some oL
  it : h.get? itg = some oi
  list : h.get? ls = some lo
def GY (gb : Heap) (Lg itg ls : Addr) (lo : Obj) (N : Nat) (ys : Nat → Option Int) : Protocol := fun n s₀ v s' kap =>
  ∃ h' tk oL oi k t, s' = { s₀ with heap := h', toks := tk } ∧ KeepBut Lg itg s₀.heap h' ∧ h'.get? Lg = some oL ∧ h'.get? itg = some oi ∧ v = .int k t ∧ ys (N - 1 - n) = some k ∧ (0 < n → ∀ s'', Finds gb Lg itg ls oL oi lo s''.heap → kap (.send .none) s'')
def GP (Lg itg : Addr) (N : Nat) (ys : Nat → Option Int) (n : Nat) (s₀ s₁ : Shared) : Prop := ys (N - n) = none ∧ ∃ h' tk, s₁ = { s₀ with heap := h', toks := tk } ∧ KeepBut Lg itg s₀.heap h'
abbrev GR (Lg itg : Addr) (N : Nat) (ys : Nat → Option Int) : GenEnd := fun n s₀ r s₁ => r = .ok (.ret .none) ∧ GP Lg itg N ys n s₀ s₁
/-- the stream of _grouping_intervals -/
def gstream : List Int → Option Int → Nat → Option Int
  | [], _, _ => none
  | k :: r, last, i => if k = 127 then none else if k = 0 then last else match i with | 0 => some k | i + 1 => gstream r (some k) i
theorem seg_loop_ind {M : Model} {A : Around} {R : GenEnd} {Y : Protocol} {C : Code} {D : Sem Fin} {fs : List PySem.Frame} (P : Nat → Shared → Shared → Prop)
    (step : ∀ n s₀ s, P n s₀ s → (∀ m < n, ∀ s₁ s', P m s₁ s' → Seg M A R Y m s₁ C D fs s') → Seg M A R Y n s₀ C D fs s) {n : Nat} {s₀ s : Shared} (h : P n s₀ s) : Seg M A R Y n s₀ C D fs s := by
  induction n using Nat.strongRecOn generalizing s₀ s with
  | _ n ih => exact step n s₀ s h fun m hm s₁ s' hp => ih m hm hp
/-- the state of a woken generator -/
structure GSt (gb : Heap) (Lg itg ls : Addr) (lo : Obj) (s₀ : Shared) (h : Heap) (mg : Str → Option Value) (io : Obj) (nw : List (Addr × Obj)) : Prop where
  F : Fr gb Lg h mg
  N : News gb Lg h ((itg, io) :: nw)
  ne : ∀ p ∈ nw, p.1 ≠ itg
  l : (ls, lo) ∈ nw
  cov : ∀ b o, b ≠ Lg → b ≠ itg → s₀.heap.get? b = some o → gb.get? b = some o ∨ (b, o) ∈ nw
theorem GSt.keepBut {gb : Heap} {Lg itg ls : Addr} {lo : Obj} {s₀ : Shared} {h : Heap} {mg : Str → Option Value} {io : Obj} {nw : List (Addr × Obj)} (G : GSt gb Lg itg ls lo s₀ h mg io nw) : KeepBut Lg itg s₀.heap h := fun c o h1 h2 e => by
  rcases G.cov c o h1 h2 e with k | k
  · exact G.F.keep _ _ k
  · exact (G.N _ (.tail _ k)).1
def restOf (gb h : Heap) (Lg itg : Addr) : List (Addr × Obj) := (List.range h.objs.size).filterMap fun b => if b = Lg ∨ b = itg ∨ (gb.get? b).isSome = true then none else (h.get? b).map fun o => (b, o)
theorem mem_restOf {gb h : Heap} {Lg itg b : Addr} {o : Obj} : (b, o) ∈ restOf gb h Lg itg ↔ b ≠ Lg ∧ b ≠ itg ∧ gb.get? b = none ∧ h.get? b = some o := by
  unfold restOf
  rw [List.mem_filterMap]
  constructor
  · rintro ⟨c, hc, e⟩
    split at e
    · cases e
    · rename_i hn
      cases q : h.get? c with
      | none => rw [q] at e; cases e
      | some o' =>
        rw [q] at e
        cases e
        refine ⟨fun x => hn (.inl x), fun x => hn (.inr (.inl x)), ?_, q⟩
        cases q2 : gb.get? b with
        | none => rfl
        | some _ => exact absurd (.inr (.inr (by rw [q2]; rfl))) hn
  · rintro ⟨h1, h2, h3, h4⟩
    refine ⟨b, List.mem_range.mpr (Heap.lt_size h4), ?_⟩
    rw [if_neg (by rw [h3]; simp [h1, h2]), h4]; rfl
theorem Finds.gst {gb : Heap} {Lg itg ls : Addr} {oL oi lo : Obj} {h : Heap} {mg : Str → Option Value} {s : Shared} (X : Finds gb Lg itg ls oL oi lo s.heap) (F : Fr gb Lg h mg) (hL : h.get? Lg = some oL) (h1 : ls ≠ Lg) (h2 : ls ≠ itg) (h3 : gb.get? ls = none) (h4 : itg ≠ Lg) (h5 : gb.get? itg = none) :
    GSt gb Lg itg ls lo s s.heap mg oi (restOf gb s.heap Lg itg) where
  F := ⟨F.ns.at' fun o e => by rw [hL] at e; cases e; exact X.fr, X.keep, F.above⟩
  N := fun p hp => by
    rcases List.mem_cons.mp hp with rfl | hp
    · exact ⟨X.it, h4, h5⟩
    · obtain ⟨a, o⟩ := p
      have := mem_restOf.mp hp
      exact ⟨this.2.2.2, this.1, this.2.2.1⟩
  ne := fun p hp => by obtain ⟨a, o⟩ := p; exact (mem_restOf.mp hp).2.1
  l := mem_restOf.mpr ⟨h1, h2, h3, X.list⟩
  cov := fun b o e1 e2 e => by
    cases q : gb.get? b with
    | some o' => have := X.keep b o' q; rw [e] at this; exact .inl this.symm
    | none => exact .inr (mem_restOf.mpr ⟨e1, e2, q, e⟩)
section
variable {prog : Program} {w : World} {A : Around} {K : Frag} {h₀ : Heap} {L : Addr} {m : Str → Option Value} {news : List (Addr × Obj)} {s : Shared} {R : Result → Shared → Prop} {p : Program} {loose : List Str} {mean : ExcName → Option Value} {mg mb : Str → Option Value}
  {name qual : Str} {params : Arguments} {body : List Stmt} {scope : Scope} {dV kV doc pm cdv ct oc : Value} {an od : Option Addr} {osl : Array (Option Value)} {f : Addr} {args : Args} {binds : List (Str × Value)}
theorem code_gen (F : Fr h₀ L s.heap m) (X₀ : K.In h₀) (N : News h₀ L s.heap news) (T : Top p loose mean mg mb h₀)
    (ho : K.lookup f = some ⟨oc, od, .func (fnOf name qual params body scope dV kV doc pm an cdv ct), osl⟩) (hcd : codeIn K cdv qual = true) (hroom : A.depth < recursionLimit)
    (hbind : BindsTo s (fnOf name qual params body scope dV kV doc pm an cdv ct) args binds) (hloc : ∀ y ∈ binds, scope.names.lookup y.1 = some .local)
    (h : ∀ h' oL go tk, Fr h₀ L h' m → News h₀ L h' ((s.heap.objs.size + 1, go) :: (s.heap.objs.size, oL) :: news) → Fr h₀ s.heap.objs.size h' (fun y => binds.reverse.lookup y) → h'.IsGen (s.heap.objs.size + 1) s.gens.size → h'.objs.size = s.heap.objs.size + 2 → (∀ q ∈ news, q.1 < s.heap.objs.size) →
      R (.ok (.ret (.ref (s.heap.objs.size + 1)))) { s with heap := h', toks := tk, gens := s.gens.push (.fresh (.func body (envOf qual scope s.heap.objs.size f cdv))) })
    (hco : scope.isCoroutine = false) (hgen : scope.isGenerator = true) (hk : scope.kind = .function)
    (hcell : ∀ x ∈ scope.names, x.2 ≠ .cell) : codeAny (model prog w) A (.call (.ref f) args) R s := by
  refine codeAny_call_generator hroom ((X₀.keeps F.keep) _ _ ho) rfl hco hgen rfl (codeRec_of (X₀.keeps F.keep) hcd) (hbind _ _ _ _ ?_)
  refine wpAny_newFunctionEnv hcell hloc (fun h₁ hns hsb => ?_) hk
  refine ⟨(T.nolimit.keeps F.keep).fresh _ hsb, ?_⟩
  have hsz : h₁.objs.size = s.heap.objs.size + 1 := by rw [hsb.1, Heap.size_push]
  have keep : ∀ b o, s.heap.get? b = some o → h₁.get? b = some o := fun b o e => hsb.extBut b o (Nat.ne_of_lt (Heap.lt_size e)) (Heap.get?_push_of_some _ e)
  have hlt : s.heap.objs.size < h₁.objs.size := by omega
  have hL : L < s.heap.objs.size := F.ns.lt
  have hle : h₀.objs.size ≤ s.heap.objs.size := Nat.le_trans F.above (Nat.le_of_lt hL)
  have hno : ∀ a, s.heap.objs.size ≤ a → h₀.get? a = none := fun a ha => by
    cases q : h₀.get? a with
    | none => rfl
    | some o => exact absurd (Heap.lt_size q) (Nat.not_lt.mpr (Nat.le_trans hle ha))
  obtain ⟨oL, hoL⟩ : ∃ oL, h₁.get? s.heap.objs.size = some oL := by obtain ⟨o, _, _, e, _⟩ := hns; exact ⟨o, e⟩
  dsimp only
  rw [hsz]
  have keep2 : ∀ o', ∀ b o, s.heap.get? b = some o → (h₁.push o').get? b = some o := fun o' b o e => Heap.get?_push_of_some _ (keep b o e)
  refine h _ oL { cls := .type "generator", data := .fields #[.int s.gens.size 0, .str name (s.toks + binds.length), .str qual (s.toks + binds.length + 1)] } _ ⟨(F.ns.at' fun o e => keep2 _ _ _ e), fun b o e => keep2 _ _ _ (F.keep b o e), F.above⟩ ?_ ⟨hns.push _, fun b o e => keep2 _ _ _ (F.keep b o e), hle⟩ ⟨_, _, _, hsz ▸ Heap.get?_push_size _ rfl, rfl, rfl, rfl⟩ (by rw [Heap.size_push, hsz]) (fun q hq => Heap.lt_size (N q hq).1)
  intro q hq
  rcases List.mem_cons.mp hq with rfl | hq
  · exact ⟨hsz ▸ Heap.get?_push_size _ rfl, Nat.ne_of_gt (Nat.lt_succ_of_lt hL), hno _ (Nat.le_succ _)⟩
  · rcases List.mem_cons.mp hq with rfl | hq
    · exact ⟨Heap.get?_push_of_some _ hoL, Nat.ne_of_gt hL, hno _ (Nat.le_refl _)⟩
    · exact ⟨keep2 _ _ _ (N q hq).1, (N q hq).2⟩
end
-- needs: base leaf bi loops seg gen
def LastIs (mg : Str → Option Value) (last : Option Int) : Prop := ∃ lv, AllAt mg [(Str.ofString "last_interval", lv)] ∧ match last with | none => lv = .none | some k => ∃ t, lv = .int k t
theorem mk_G {gb : Heap} {Lg itg ls : Addr} {oL lo : Obj} {h1 : Heap} {mg : Str → Option Value} {s : Shared} (hk : ∀ b o, gb.get? b = some o → s.heap.get? b = some o) (hL : s.heap.get? Lg = some oL) (hl : s.heap.get? ls = some lo) (e1 : ls ≠ Lg) (e2 : ls ≠ itg) (e3 : gb.get? ls = none) (e4 : itg ≠ Lg) (e5 : gb.get? itg = none)
    (F : Fr gb Lg h1 mg) (hs : Heap.SameBut Lg s.heap h1) (hz : h1.objs.size = itg) : GSt gb Lg itg ls lo s (h1.push { cls := .type "list_iterator", data := .fields #[.ref ls, .int 0 0] }) mg { cls := .type "list_iterator", data := .fields #[.ref ls, .int 0 0] } (restOf gb s.heap Lg itg) where
  F := F.push _
  N := fun p hp => by
    rcases List.mem_cons.mp hp with rfl | hp
    · exact ⟨hz ▸ Heap.get?_push_size _ rfl, e4, e5⟩
    · obtain ⟨a, o⟩ := p
      have := mem_restOf.mp hp
      exact ⟨Heap.get?_push_of_some _ ((hs.2 _ this.1).trans this.2.2.2), this.1, this.2.2.1⟩
  ne := fun p hp => by obtain ⟨a, o⟩ := p; exact (mem_restOf.mp hp).2.1
  l := mem_restOf.mpr ⟨e1, e2, e3, hl⟩
  cov := fun b o e1 e2 e => by
    cases q : gb.get? b with
    | some o' => have := hk b o' q; rw [e] at this; exact .inl this.symm
    | none => exact .inr (mem_restOf.mpr ⟨e1, e2, q, e⟩)
theorem news_st {h₀ h h' : Heap} {L : Addr} {news : List (Addr × Obj)} (N : News h₀ L h news) (hs : Heap.SameBut L h h') : News h₀ L h' news := fun p hp => ⟨(hs.2 _ (N p hp).2.1).trans (N p hp).1, (N p hp).2⟩
theorem stN {M : Model} {A : Around} {E : Value → Shared → Prop} {s : Shared} {name : Str} {scope : Scope} {L a : Addr} {cd : Value} {h₀ : Heap} {m : Str → Option Value} {news : List (Addr × Obj)} {x : Str} {v : Value} {Q : Unit → Shared → Prop} (F : Fr h₀ L s.heap m) (N : News h₀ L s.heap news)
    (h : ∀ h', Fr h₀ L h' (fun y => if y = x then some v else m y) → News h₀ L h' news → Q () { s with heap := h', toks := s.toks + 1 })
    (hk : scope.kind = .function := by rfl) (hl : (envOf name scope L a cd).kindOf x = some .local := by rfl) :
    wpAny M A (storeName (envOf name scope L a cd) x v) Q E s :=
  wpAny_storeName_local hl F.ns (fun h' hn hs => h h' (F.set hn hs) (news_st N hs)) (by show (scope.kind == .class || (scope.kind == .module && L != mainGlobals)) = false; rw [hk]; rfl)
theorem ns_some {h : Heap} {L : Addr} {m : Str → Option Value} (x : h.Ns L m) : ∃ o, h.get? L = some o := by obtain ⟨o, _, _, e, _⟩ := x; exact ⟨o, e⟩
theorem GSt.of {gb : Heap} {Lg itg ls : Addr} {lo : Obj} {s₀ : Shared} {h h' : Heap} {mg mg' : Str → Option Value} {io io' : Obj} {nw : List (Addr × Obj)} (G : GSt gb Lg itg ls lo s₀ h mg io nw) (F : Fr gb Lg h' mg') (N : News gb Lg h' ((itg, io') :: nw)) : GSt gb Lg itg ls lo s₀ h' mg' io' nw := ⟨F, N, G.ne, G.l, G.cov⟩
theorem ia_get {ks : List Int} {vs : List Value} (h : IntsAre vs ks) : ∀ {i : Nat} {v : Value}, vs[i]? = some v → ∃ k t, v = .int k t ∧ ks[i]? = some k := by
  induction h with
  | nil => intro i v e; cases e
  | cons n t _ ih =>
    intro i v e
    cases i with
    | zero => cases e; exact ⟨n, t, rfl, rfl⟩
    | succ i => exact ih e
theorem drop_get {ks : List Int} {i : Nat} {k : Int} (h : ks[i]? = some k) : ks.drop i = k :: ks.drop (i + 1) := by
  obtain ⟨hi, e⟩ := List.getElem?_eq_some_iff.mp h
  rw [List.drop_eq_getElem_cons hi, e]
section
variable {w : World} {p : Program} {loose : List Str} {mean : ExcName → Option Value} {mg mb : Str → Option Value} {A : Around} {env : Env} {outer : List Env} {A₀ : Around} {base h₀ : Heap} {L : Addr} {m : Str → Option Value} {news : List (Addr × Obj)} {s : Shared} {Q E : Value → Shared → Prop}
  (B : Below A₀ base outer h₀) (F : Fr h₀ L s.heap m) (X : (hd.heap_39 w.params).In h₀) (N : News h₀ L s.heap news) (T : Top p loose mean mg mb h₀)
  (hA : A.frames = some (env :: outer)) (hf : env.frame = some L) (hke : env.scope.kind = .function) (hh : A.handled = none)
include B F X N T hA hf hke hh
theorem c_gen {ls : Addr} {vs : List Value} {ks : List Int} {ep : Nat} (hdp : A.depth + 10 < recursionLimit) (hls : (ls, W.listOf vs.toArray ep) ∈ news) (hi : IntsAre vs ks) (hne : ks.head? ≠ some 0)
    (ret : ∀ Lg gs h' oL go tk', Fr h₀ L h' m → News h₀ L h' ((Lg + 1, go) :: (Lg, oL) :: news) → h'.IsGen (Lg + 1) s.gens.size → h'.objs.size = Lg + 2 → (∀ q ∈ news, q.1 < Lg) → L < Lg → gs.bare = true →
      (∀ A' N s'', A'.handled = none → 0 < N → (∀ b o, h₀.get? b = some o → s''.heap.get? b = some o) → s''.heap.get? Lg = some oL → s''.heap.get? ls = some (W.listOf vs.toArray ep) → s''.heap.objs.size = Lg + 2 →
        gs.Goes (model prg w) A' (GR Lg (Lg + 2) N (gstream ks none)) (GY h₀ Lg (Lg + 2) ls (W.listOf vs.toArray ep) N (gstream ks none)) N (.send .none) s'') →
      Q (.ref (Lg + 1)) { s with heap := h', toks := tk', gens := s.gens.push gs }) :
    wpAny (model prg w) A (call (.ref 45) [.ref ls]) Q E s := by
  refine wpAny_call ?_
  k_dflt (refine' code_gen ?k2 ?k3 ?k4 ?k5 ?k6 ?k7 ?k8 ?k9 ?kB ?_ ?c2 ?c3 ?c4 ?c5; (case k2 => k_asm); (case k3 => k_asm); (case k4 => k_asm); (case k5 => k_asm); (case k6 => k_is); (case k7 => k_is); (case k8 => omega); (case k9 => first | exact BindsTo.of_eq rfl | exact binds_K (by k_in) rfl (by k_is) rfl rfl rfl); (case c5 => decide); (case kB => exact locs rfl); (case c2 => exact rfl); (case c3 => exact rfl); (case c4 => exact rfl); k_whole)
  intro h' oL go tk F' N' FL IG hsz hlt
  try dsimp only
  try k_fold
  refine ret _ _ h' oL go tk F' N' IG hsz hlt F.ns.lt rfl ?_
  intro A' N s'' hA' hN hk hL hl hz
  have hLh := (N' _ (.tail _ (.head _))).1
  have hLn := (N' _ (.tail _ (.head _))).2.2
  have hl0 := N' _ (.tail _ (.tail _ hls))
  have F₁ : Fr h₀ s.heap.objs.size s''.heap _ := ⟨FL.ns.at' fun o e => by rw [hLh] at e; cases e; exact hL, hk, FL.above⟩
  refine ⟨rfl, seg_func (seg_execs_cons (seg_stmt (wpAny_Assign_Name (wpAny_Constant_none (wpAny_storeName_local rfl F₁.ns fun h1 hn1 hs1 => ?_)))))⟩
  have F₂ := F₁.set hn1 hs1
  have hls1 : h1.get? ls = some (W.listOf vs.toArray ep) := by rw [hs1.2 ls (Nat.ne_of_lt (hlt _ hls))]; exact hl
  have hz1 : h1.objs.size = s.heap.objs.size + 2 := by rw [hs1.1]; exact hz
  refine seg_execs_cons (seg_For (ld F₂ rfl (wpAny_pyIter_list ⟨_, hls1, rfl, ep, rfl⟩ ?_)) (fun _ => rfl))
  intro pp
  dsimp only
  rw [hz1]
  have hLlt : L < s.heap.objs.size := F.ns.lt
  have h2n : h₀.get? (s.heap.objs.size + 2) = none := by
    cases q : h₀.get? (s.heap.objs.size + 2) with
    | none => rfl
    | some o => exact absurd (Nat.lt_of_lt_of_le (Heap.lt_size q) FL.above) (by omega)
  have hneL : ls ≠ s.heap.objs.size := Nat.ne_of_lt (hlt _ hls)
  have hne2 : ls ≠ s.heap.objs.size + 2 := Nat.ne_of_lt (Nat.lt_trans (hlt _ hls) (by omega))
  have G₁ := mk_G hk hL hl hneL hne2 hl0.2.2 (Nat.ne_of_gt (by omega)) h2n F₂ hs1 hz1
  refine seg_loop_ind (P := fun n s₀ s₁ => ∃ i h tk mg io nw last, i + n = N ∧ 0 < n ∧ s₁ = { s₀ with heap := h, toks := tk } ∧ GSt h₀ s.heap.objs.size (s.heap.objs.size + 2) ls (W.listOf vs.toArray ep) s₀ h mg io nw ∧ LastIs mg last ∧ io.cls = .type "list_iterator" ∧ io.data = .fields #[.ref ls, .int (i : Nat) 0] ∧ (∀ d, gstream ks none (i + d) = gstream (ks.drop i) last d) ∧ (last = none → (ks.drop i).head? ≠ some 0)) ?_ ⟨0, _, _, _, _, _, none, Nat.zero_add _, hN, rfl, G₁, ⟨_, ⟨rfl, trivial⟩, rfl⟩, rfl, rfl, fun d => by rw [Nat.zero_add]; rfl, fun _ => hne⟩
  · rintro n s₀ s₁ ⟨i, h, tk, mg, io, nw, last, hin, hn, rfl, G, ⟨lv, hm, hlv⟩, hc, hd, hys, h0⟩ IH
    have F₃ := ovl_fr G.F hm
    have N₃ := G.N
    refine seg_forLoop ?_
    obtain ⟨n', rfl⟩ : ∃ n', n = n' + 1 := ⟨n - 1, by omega⟩
    cases hx : vs[i]? with
    | none =>
      refine wpAny_pyNext_list_end (by show (marksOver _ (A'.handled, A'.handled)).1 = none; rw [hA']; rfl) ⟨io, (N₃ _ (.head _)).1, hc, hd⟩ ⟨_, (N₃ _ (.tail _ G.l)).1, rfl, ep, rfl⟩ (by simpa using hx) fun h4 hx4 => ?_
      refine seg_block (seg_leaf (.ok .next) (seg_end (.ok (.ret .none)) ⟨rfl, ?_, _, _, rfl, fun c o e1 e2 e => hx4 c o e2 (G.keepBut c o e1 e2 e)⟩))
      have hlen := hi.length
      have hle : vs.length ≤ i := List.getElem?_eq_none_iff.mp hx
      have e1 : N - (n' + 1) = i + 0 := by omega
      rw [e1, hys, List.drop_of_length_le (by omega)]; rfl
    | some v =>
      obtain ⟨k, t, rfl, hk'⟩ := ia_get hi hx
      have hdr := drop_get hk'
      refine wpAny_pyNext_list_item ⟨io, (N₃ _ (.head _)).1, hc, hd⟩ ⟨_, (N₃ _ (.tail _ G.l)).1, rfl, ep, rfl⟩ (by simpa using hx) fun h4 hi4 hs4 => ?_
      obtain ⟨io4, ho4, hc4, hd4⟩ := hi4
      have F₄ := F₃.change hs4 (N₃ _ (.head _)).2.1 (N₃ _ (.head _)).2.2
      have N₄ : News h₀ s.heap.objs.size h4 ((s.heap.objs.size + 2, io4) :: nw) := News.setIn (own := []) N₃ (fun _ h => nomatch h) G.ne hs4 ho4
      clear F₃ N₃
      dsimp only
      refine stN F₄ N₄ fun h5 F₅ N₅ => ?_
      clear F₄ N₄ hs4 ho4
      refine seg_execs_cons (seg_If ?_)
      have e1 : N - (n' + 1) = i + 0 := by omega
      have e2 : N - 1 - n' = i + 0 := by omega
      by_cases h127 : k = 127
      · subst h127
        k_steps
        refine seg_execs_cons (seg_stmt ?_)
        k_steps
        refine seg_leaf (.ok (.ret .none)) (seg_end (.ok (.ret .none)) ⟨rfl, ?_, _, _, rfl, (G.of F₅ N₅).keepBut⟩)
        rw [e1, hys, hdr]; rfl
      · k_steps
        all_goals try (exfalso; contradiction)
        refine seg_execs_nil ?_
        refine seg_execs_cons (seg_If ?_)
        by_cases hk0 : k = 0
        · subst hk0
          obtain ⟨kl, tl, rfl, rfl⟩ : ∃ kl tl, last = some kl ∧ lv = .int kl tl := by
            cases last with
            | none => exact absurd (by rw [hdr]; rfl) (h0 rfl)
            | some kl => obtain ⟨tl, e⟩ := hlv; exact ⟨kl, tl, rfl, e⟩
          k_steps
          refine seg_execs_cons (seg_If ?_)
          k_steps
          refine seg_execs_nil ?_
          refine seg_execs_cons (seg_While ?_)
          intro pp2
          have hyl : ∀ j, i ≤ j → gstream ks none j = some kl := fun j hj => by
            obtain ⟨d, rfl⟩ := Nat.exists_eq_add_of_le hj
            rw [hys, hdr]; rfl
          refine seg_loop_ind (P := fun n s₀ s₁ => ∃ h tk mg io nw, n ≤ n' + 1 ∧ 0 < n ∧ s₁ = { s₀ with heap := h, toks := tk } ∧ GSt h₀ s.heap.objs.size (s.heap.objs.size + 2) ls (W.listOf vs.toArray ep) s₀ h mg io nw ∧ AllAt mg [(Str.ofString "last_interval", .int kl tl)]) ?_ ⟨_, _, _, _, _, Nat.le_refl _, hn, rfl, G.of F₅ N₅, rfl, trivial⟩
          clear IH
          rintro n₂ s₂ s₃ ⟨h7, tk7, mg7, io7, nw7, hn2, hp2, rfl, G7, hm7⟩ IH
          obtain ⟨n₃, rfl⟩ : ∃ n₃, n₂ = n₃ + 1 := ⟨n₂ - 1, by omega⟩
          have F7 := ovl_fr G7.F hm7
          have N7 := G7.N
          clear F₅ N₅
          refine seg_whileLoop ?_
          k_steps
          refine seg_execs_cons (seg_Expr_Yield rfl rfl rfl (ld F7 rfl ?_))
          intro kap hkap
          obtain ⟨oL7, hL7⟩ := ns_some F7.ns
          refine ⟨h7, _, oL7, io7, kl, tl, rfl, G7.keepBut, hL7, (N7 _ (.head _)).1, rfl, hyl _ (by omega), fun hn' s6 Fd => hkap .none s6 ?_⟩
          have G6 := Fd.gst F7 hL7 hneL hne2 hl0.2.2 (Nat.ne_of_gt (by omega)) h2n
          show Seg _ _ _ _ _ _ _ _ _ _
          refine seg_execs_nil ?_
          exact seg_again rfl (IH n₃ (Nat.lt_succ_self _) s6 _ ⟨_, _, _, _, _, by omega, hn', rfl, G6, rfl, trivial⟩)
        · k_steps
          all_goals try (exfalso; contradiction)
          refine seg_execs_nil ?_
          refine seg_execs_cons (seg_Expr_Yield rfl rfl rfl (ld F₅ rfl ?_))
          intro kap hkap
          obtain ⟨oL5, hL5⟩ := ns_some F₅.ns
          refine ⟨h5, _, oL5, io4, k, t, rfl, (G.of F₅ N₅).keepBut, hL5, (N₅ _ (.head _)).1, rfl, ?_, fun hn' s6 Fd => hkap .none s6 ?_⟩
          · rw [e2, hys, hdr]
            show (if k = 127 then none else if k = 0 then last else some k) = some k
            rw [if_neg h127, if_neg hk0]
          · have G6 := Fd.gst F₅ hL5 hneL hne2 hl0.2.2 (Nat.ne_of_gt (by omega)) h2n
            show Seg _ _ _ _ _ _ _ _ _ _
            have F6 := G6.F
            have N6 := G6.N
            refine seg_execs_cons (seg_stmt ?_)
            k_steps
            refine seg_execs_nil ?_
            rename Fr h₀ s.heap.objs.size _ (fun _ => _) => F7
            rename News h₀ s.heap.objs.size _ _ => N7
            refine seg_again rfl (IH n' (Nat.lt_succ_self _) s6 _ ⟨i + 1, _, _, _, io4, _, some k, by omega, hn', rfl, G6.of F7 N7, ⟨_, ⟨rfl, trivial⟩, t, rfl⟩, hc4, hd4, fun d => ?_, fun h => nomatch h⟩)
            rw [show i + 1 + d = i + (d + 1) by omega, hys, hdr]
            show (if k = 127 then none else if k = 0 then last else gstream (ks.drop (i + 1)) (some k) d) = _
            rw [if_neg h127, if_neg hk0]
end
-- needs: base leaf bi loops seg gen gen2
def AllBare (G : Array GenState) : Prop := ∀ y ∈ G, y.bare = true
theorem AllBare.push {G : Array GenState} {x : GenState} (h : AllBare G) (hx : x.bare = true) : AllBare (G.push x) := by
  intro y hy
  rcases Array.mem_push.mp hy with hy | rfl
  · exact h y hy
  · exact hx
theorem AllBare.set1 {G : Array GenState} {y : GenState} {g : Nat} (h : AllBare G) (hy : y.bare = true) : AllBare (G.setIfInBounds g y) := by
  intro z hz
  obtain ⟨i, hi, rfl⟩ := Array.mem_iff_getElem.mp hz
  by_cases e : g = i
  · subst e; rw [Array.getElem_setIfInBounds_self]; exact hy
  · rw [Array.getElem_setIfInBounds_ne (hj := by simpa using hi) (h := e)]
    exact h _ (Array.getElem_mem _)
theorem AllBare.set {G : Array GenState} {y : GenState} {g : Nat} (h : AllBare G) (hy : y.bare = true) : AllBare ((G.setIfInBounds g .running).setIfInBounds g y) := (h.set1 (y := .running) rfl).set1 hy
section
variable {prog : Program} {w : World} {A : Around} {E : Value → Shared → Prop} {s : Shared}
theorem next_g {ga g n N : Nat} {gs : GenState} {gb : Heap} {Lg itg ls : Addr} {lo : Obj} {ys : Nat → Option Int} {Q : Option Value → Shared → Prop} (hh : A.handled = none)
    (hl : s.heap.NoLimit) (hroom : A.depth < recursionLimit) (hg : s.heap.IsGen ga g) (hgs : s.gens[g]? = some gs) (hb : AllBare s.gens)
    (hgo : gs.Goes (model prog w) A.in1 (GR Lg itg N ys) (GY gb Lg itg ls lo N ys) (n + 1) (.send .none) (s.setGen g .running))
    (hsome : ∀ k t h' tk oL oi gs' G', ys (N - 1 - n) = some k → KeepBut Lg itg s.heap h' → h'.get? Lg = some oL → h'.get? itg = some oi → G'[g]? = some gs' → AllBare G' →
      (0 < n → ∀ s'', Finds gb Lg itg ls oL oi lo s''.heap → gs'.Goes (model prog w) A.in1 (GR Lg itg N ys) (GY gb Lg itg ls lo N ys) n (.send .none) s'') → Q (some (.int k t)) { s with heap := h', toks := tk, gens := G' })
    (hnone : ys (N - (n + 1)) = none → ∀ h' tk G', KeepBut Lg itg s.heap h' → AllBare G' → Q none { s with heap := h', toks := tk, gens := G' }) :
    wpAny (model prog w) A (pyNext (.ref ga)) Q E s := by
  have hgl : g < s.gens.size := (Array.getElem?_eq_some_iff.mp hgs).1
  unfold pyNext
  refine wpAny_bind (wpAny_attempt (wpAny_callSpecial?_slot (name := Str.ofString "__next__") hg.typeIs slot_gen_next
    (wpAny_call_entry slot_gen_next hg.typeIs entry_gen_next ?_ (args_gen_next _))))
  show wpAny _ _ (Builtin.Generator.genWake (.ref ga) (.send .none)) _ _ s
  unfold Builtin.Generator.genWake
  refine wpAny_bind (wpAny_holding (wpAny_genNumber hg (wpAny_bind (wpAny_genState hgs ?_))))
  cases gs with
  | running => exact hgo.elim
  | finished => exact hgo.elim
  | _ =>
    refine wpAny_bind (wpAny_roomToWake hl hroom ?_)
    show wpAny _ _ (.resume g (.send .none) [] _) _ _ s
    refine wpAny_resumeQ hgs hgo (fun x s₁ hx => ?_) (fun v s₁ gs' hbr hv => ?_)
    · obtain ⟨rfl, hy, h', tk, rfl, hk⟩ := hx
      show wpAny _ _ (newExc (.type "StopIteration") [] >>= _) _ _ _
      refine wpAny_bind ?_
      simp only [newExc, newTuple]
      refine wpAny_bind (wpAny_newObj_type ?_ (by size_fits))
      refine wpAny_bind (m := firstArgMember _ _) (wpAny_of_eq (a := Value.none) (by first | rfl | (simp only [firstArgMember]; rfl)) ?_)
      refine wpAny_newObj_type ?_ (by size_fits)
      simp only [raiseNew]
      refine wpAny_bind (wpAny_bind (wpAny_handled ?_))
      rw [show A.in1.handled = none from hh]
      refine wpAny_throw ?_
      refine wpAny_bind (wpAny_isInstance (T := "StopIteration") (b := true) ⟨_, Heap.get?_push_size _ rfl, rfl⟩ isSubtype_stop ?_)
      exact wpAny_pure (hnone hy _ _ _ (fun c o e1 e2 e => Heap.get?_push_of_some _ (Heap.get?_push_of_some _ (hk c o e1 e2 e))) (hb.set rfl))
    · obtain ⟨h', tk, oL, oi, k, t, rfl, hk, hL, hi, rfl, hy, hkap⟩ := hv
      refine wpAny_pure ⟨_, rfl, wpAny_pure ?_⟩
      refine hsome k t h' tk oL oi gs' _ hy hk hL hi ?_ (hb.set hbr) hkap
      show ((s.gens.setIfInBounds g .running).setIfInBounds g gs')[g]? = some gs'
      simp [hgl]
end
section loopsG
variable {prog : Program} {w : World} {A : Around} {E : Value → Shared → Prop} {Q : Flow → Shared → Prop} {s : Shared} {env : Env} {h₀ : Heap} {L : Addr}
/-- what a turn of a for ends in, generators and all -/
def ForEndG (h₀ : Heap) (L : Addr) (s : Shared) (J : Nat → (Str → Option Value) → List (Addr × Obj) → Array GenState → Heap → Prop) (Q : Flow → Shared → Prop) (n : Nat) (f : Flow) (s₃ : Shared) : Prop :=
  match f with
  | .next | .cont => ∃ h' tk G' m₂ news₂ n', s₃ = { s with heap := h', toks := tk, gens := G' } ∧ Fr h₀ L h' m₂ ∧ News h₀ L h' news₂ ∧ n' < n ∧ J n' m₂ news₂ G' h'
  | .brk => Q .next s₃
  | .ret v => Q (.ret v) s₃
theorem ForEndG.on {h' : Heap} {J : Nat → (Str → Option Value) → List (Addr × Obj) → Array GenState → Heap → Prop} {n n' tk : Nat} {G' : Array GenState} {m₂ : Str → Option Value} {news₂ : List (Addr × Obj)}
    (F : Fr h₀ L h' m₂) (N : News h₀ L h' news₂) (hn : n' < n) (hJ : J n' m₂ news₂ G' h') : ForEndG h₀ L s J Q n .next { s with heap := h', toks := tk, gens := G' } := ⟨h', tk, G', m₂, news₂, n', rfl, F, N, hn, hJ⟩
theorem For_invG {x : Str} {px : Pos} {body : List Stmt} {it : Value} {m : Str → Option Value} {news : List (Addr × Obj)} (J : Around → Nat → (Str → Option Value) → List (Addr × Obj) → Array GenState → Heap → Prop) {n₀ : Nat}
    (F : Fr h₀ L s.heap m) (N : News h₀ L s.heap news) (hJ : J A n₀ m news s.gens s.heap)
    (turn : ∀ n m₁ news₁ h₁ tk₁ G₁, Fr h₀ L h₁ m₁ → News h₀ L h₁ news₁ → J A n m₁ news₁ G₁ h₁ →
      wpAny (model prog w) A (pyNext it) (fun r s₂ => match r with
        | none => Q .next s₂
        | some v => wpAny (model prog w) A (storeName env x v) (fun _ s₃ => wpAny (model prog w) A (execs body env) (ForEndG h₀ L s (J A) Q n) E s₃) E s₂) E { s with heap := h₁, toks := tk₁, gens := G₁ })
    (hE : PassesOwn (model prog w) A env E := by passes_own) :
    codeAny (model prog w) A (.forLoop (.Name x px) it body [] env) (fun r s' => match r with | .ok f => Q f s' | .error e => cameBackBy (model prog w) A env E e s') s := by
  refine codeAny_forLoop (fun n s' => ∃ h₁ tk₁ G₁ m₁ news₁, s' = { s with heap := h₁, toks := tk₁, gens := G₁ } ∧ Fr h₀ L h₁ m₁ ∧ News h₀ L h₁ news₁ ∧ J A n m₁ news₁ G₁ h₁) ?_ n₀ ⟨s.heap, s.toks, s.gens, m, news, rfl, F, N, hJ⟩
  rintro n s' ⟨h₁, tk₁, G₁, m₁, news₁, rfl, F₁, N₁, J₁⟩
  refine wpAny_mono (turn n m₁ news₁ h₁ tk₁ G₁ F₁ N₁ J₁) (fun r s₂ h₂ => ?_) hE
  cases r with
  | none => exact wpAny_execs_nil h₂
  | some v =>
    refine wpAny_assign_Name (wpAny_mono h₂ (fun _ s₃ h₃ => ?_) hE)
    refine wpAny_mono h₃ (fun f s₄ h₄ => ?_) hE
    cases f with
    | next => obtain ⟨h', tk, G', m₂, news₂, n', rfl, F₂, N₂, hn, J₂⟩ := h₄; exact ⟨n', hn, h', tk, G', m₂, news₂, rfl, F₂, N₂, J₂⟩
    | cont => obtain ⟨h', tk, G', m₂, news₂, n', rfl, F₂, N₂, hn, J₂⟩ := h₄; exact ⟨n', hn, h', tk, G', m₂, news₂, rfl, F₂, N₂, J₂⟩
    | brk => exact h₄
    | ret v => exact h₄
end loopsG
section
variable {prog : Program} {w : World} {A : Around} {E : Value → Shared → Prop} {s : Shared} {h₀ : Heap} {L : Addr} {m : Str → Option Value} {news : List (Addr × Obj)} {x : List UInt8} {t : Tok} {value slice : PySem.Expr} {Q : Value → Shared → Prop}
theorem add_any {a b : Addr} {vs ws : List Value} (F : Fr h₀ L s.heap m) (N : News h₀ L s.heap news) (ha : s.heap.IsList a vs.toArray) (hb : s.heap.IsList b ws.toArray) (hz : vs.length + ws.length ≤ sizeLine)
    (h : ∀ D h', Fr h₀ L h' m → News h₀ L h' ((D, W.listOf (vs ++ ws).toArray 0) :: news) → (∀ p ∈ news, p.1 < D) → Q (.ref D) { s with heap := h' }) : wpAny (model prog w) A (binaryOp .Add (.ref a) (.ref b)) Q E s :=
  add_lists F N ha hb (fun h' F' N' => h _ h' F' N' fun p hp => Heap.lt_size (N p hp).1) hz
theorem slice_from {k : Int} {tk : Tok} (hF : Fr h₀ L s.heap m) (hN : News h₀ L s.heap news) (hz : x.length ≤ 16777216) (hk : 0 < k)
    (h : ∀ h' t' k', Fr h₀ L h' m → News h₀ L h' news → Q (.bytes (x.drop (x.length - k.toNat)).toArray t') { s with heap := h', toks := k' })
    (hs : subscripted slice false (.bytes x.toArray t) (.ref s.heap.objs.size) = operate [.ref s.heap.objs.size, .bytes x.toArray t] (getItem (.bytes x.toArray t) (.ref s.heap.objs.size)) := by with_unfolding_all rfl)
    (ht : ∀ r, letTemporaryGo value (.bytes x.toArray t) r = pure () := by intro _; with_unfolding_all rfl) :
    wpAny (model prog w) A (subscriptTail value slice (.bytes x.toArray t) (.ref s.heap.objs.size)) Q E { s with heap := s.heap.push { cls := .type "slice", data := .fields #[.int (-k) tk, .none, .none] } } := by
  refine KBc.slice_K hF hN rfl (.int (-k) tk) .none (by rw [KBw.ints_length]; simpa using hz) (fun h' t' k' F' N' _ => ?_) hs ht
  have e : KBy.picked x.toArray (some (-k)) none = (x.drop (x.length - k.toNat)).toArray := by
    rw [KBc.picked_eq]
    have e1 : (-k) = -((k.toNat : Nat) : Int) := by omega
    simp only [Option.elim, List.size_toArray]
    rw [e1, clipAt_neg _ _ (by omega)]
    congr 1
    rw [List.take_of_length_le (by simp)]
  rw [e]
  exact h h' t' k' F' N'
theorem slice_to {k : Int} {tk : Tok} (hF : Fr h₀ L s.heap m) (hN : News h₀ L s.heap news) (hz : x.length ≤ 16777216) (hk : 0 < k)
    (h : ∀ h' t' k', Fr h₀ L h' m → News h₀ L h' news → Q (.bytes (x.take (x.length - k.toNat)).toArray t') { s with heap := h', toks := k' })
    (hs : subscripted slice false (.bytes x.toArray t) (.ref s.heap.objs.size) = operate [.ref s.heap.objs.size, .bytes x.toArray t] (getItem (.bytes x.toArray t) (.ref s.heap.objs.size)) := by with_unfolding_all rfl)
    (ht : ∀ r, letTemporaryGo value (.bytes x.toArray t) r = pure () := by intro _; with_unfolding_all rfl) :
    wpAny (model prog w) A (subscriptTail value slice (.bytes x.toArray t) (.ref s.heap.objs.size)) Q E { s with heap := s.heap.push { cls := .type "slice", data := .fields #[.none, .int (-k) tk, .none] } } := by
  refine KBc.slice_K hF hN rfl .none (.int (-k) tk) (by rw [KBw.ints_length]; simpa using hz) (fun h' t' k' F' N' _ => ?_) hs ht
  have e : KBy.picked x.toArray none (some (-k)) = (x.take (x.length - k.toNat)).toArray := by
    rw [KBc.picked_eq]
    have e1 : (-k) = -((k.toNat : Nat) : Int) := by omega
    simp only [Option.elim, List.size_toArray]
    rw [e1, clipAt_neg _ _ (by omega)]
    simp
  rw [e]
  exact h h' t' k' F' N'
end
section
variable {prog : Program} {w : World} {A : Around} {E : Value → Shared → Prop} {Q : Flow → Shared → Prop} {s : Shared} {env : Env} {h₀ : Heap} {L : Addr}
def WhileStepG (h₀ : Heap) (L : Addr) (s : Shared) (J : Nat → (Str → Option Value) → List (Addr × Obj) → Array GenState → Prop) (n : Nat) (f : Flow) (s₃ : Shared) : Prop :=
  f = .next ∧ ∃ h' tk G' m₂ news₂ n', s₃ = { s with heap := h', toks := tk, gens := G' } ∧ Fr h₀ L h' m₂ ∧ News h₀ L h' news₂ ∧ n' < n ∧ J n' m₂ news₂ G'
theorem WhileStepG.intro {h' : Heap} {J : Nat → (Str → Option Value) → List (Addr × Obj) → Array GenState → Prop} {n n' tk : Nat} {G' : Array GenState} {m₂ : Str → Option Value} {news₂ : List (Addr × Obj)}
    (F : Fr h₀ L h' m₂) (N : News h₀ L h' news₂) (hn : n' < n) (hJ : J n' m₂ news₂ G') : WhileStepG h₀ L s J n .next { s with heap := h', toks := tk, gens := G' } := ⟨rfl, h', tk, G', m₂, news₂, n', rfl, F, N, hn, hJ⟩
theorem While_invG {test : Expr} {body : List Stmt} {pos : Pos} {m : Str → Option Value} {news : List (Addr × Obj)} (J : Nat → (Str → Option Value) → List (Addr × Obj) → Array GenState → Prop) {n₀ : Nat}
    (F : Fr h₀ L s.heap m) (N : News h₀ L s.heap news) (hJ : J n₀ m news s.gens)
    (turn : ∀ n m₁ news₁ h₁ tk₁ G₁, Fr h₀ L h₁ m₁ → News h₀ L h₁ news₁ → J n m₁ news₁ G₁ →
      wpAny (model prog w) A (isTrue test env (eval test env)) (fun b s₂ =>
        if b = true then wpAny (model prog w) A (execs body env) (WhileStepG h₀ L s J n) E s₂ else Q .next s₂) E { s with heap := h₁, toks := tk₁, gens := G₁ })
    (hE : PassesOwn (model prog w) A env E := by passes_own) :
    wpAny (model prog w) A (exec (.While test body [] pos) env) Q E s := by
  refine wpAny_While (codeAny_whileLoop (fun n s' => ∃ h₁ tk₁ G₁ m₁ news₁, s' = { s with heap := h₁, toks := tk₁, gens := G₁ } ∧ Fr h₀ L h₁ m₁ ∧ News h₀ L h₁ news₁ ∧ J n m₁ news₁ G₁) ?_ n₀ ⟨s.heap, s.toks, s.gens, m, news, rfl, F, N, hJ⟩)
  rintro n s' ⟨h₁, tk₁, G₁, m₁, news₁, rfl, F₁, N₁, J₁⟩
  refine wpAny_mono (turn n m₁ news₁ h₁ tk₁ G₁ F₁ N₁ J₁) (fun b s₂ h₂ => ?_) hE
  cases b with
  | false =>
    simp only [Bool.false_eq_true, if_false] at h₂ ⊢
    exact wpAny_execs_nil h₂
  | true =>
    simp only [if_true] at h₂ ⊢
    refine wpAny_mono h₂ (fun f s₃ h₃ => ?_) hE
    obtain ⟨rfl, h', tk, G', m₂, news₂, n', rfl, F₂, N₂, hn, J₂⟩ := h₃
    exact ⟨n', hn, h', tk, G', m₂, news₂, rfl, F₂, N₂, J₂⟩
end
-- needs: base leaf bi loops seg gen gen2 geni
inductive ByAre : List Value → List (List UInt8) → Prop
  | nil : ByAre [] []
  | cons (b : List UInt8) (t : Tok) {vs : List Value} {bs : List (List UInt8)} : ByAre vs bs → ByAre (.bytes b.toArray t :: vs) (b :: bs)
theorem ByAre.length {vs : List Value} {bs : List (List UInt8)} (h : ByAre vs bs) : vs.length = bs.length := by
  induction h with
  | nil => rfl
  | cons b t _ ih => simp [ih]
/-- the pieces that _law_cut gives -/
def cutN (ys : Nat → Option Int) : Nat → Nat → List UInt8 → List (List UInt8) → List (List UInt8)
  | 0, _, _, _ => []
  | f + 1, i, t, ps => match ys i with
    | none => if t = [] then ps else t :: ps
    | some k => if t = [] then ps else cutN ys f (i + 1) (t.take (t.length - k.toNat)) (t.drop (t.length - k.toNat) :: ps)
theorem cutN_none {ys : Nat → Option Int} {f i : Nat} {t : List UInt8} {ps : List (List UInt8)} (h : ys i = none) : cutN ys (f + 1) i t ps = if t = [] then ps else t :: ps := by
  show (match ys i with | none => if t = [] then ps else t :: ps | some k => if t = [] then ps else cutN ys f (i + 1) (t.take (t.length - k.toNat)) (t.drop (t.length - k.toNat) :: ps)) = _
  rw [h]
theorem cutN_some {ys : Nat → Option Int} {f i : Nat} {t : List UInt8} {ps : List (List UInt8)} {k : Int} (h : ys i = some k) : cutN ys (f + 1) i t ps = if t = [] then ps else cutN ys f (i + 1) (t.take (t.length - k.toNat)) (t.drop (t.length - k.toNat) :: ps) := by
  show (match ys i with | none => if t = [] then ps else t :: ps | some k => if t = [] then ps else cutN ys f (i + 1) (t.take (t.length - k.toNat)) (t.drop (t.length - k.toNat) :: ps)) = _
  rw [h]
theorem gstream_of {P : Int → Prop} : ∀ {ks : List Int} {last : Option Int} {i : Nat} {k : Int}, (∀ x ∈ ks, x ≠ 127 → x ≠ 0 → P x) → (∀ x, last = some x → P x) → gstream ks last i = some k → P k
  | [], _, _, _, _, _, h => by cases h
  | c :: r, last, i, k, h1, h2, h => by
    unfold gstream at h
    split at h
    · cases h
    · split at h
      · exact h2 k h
      · cases i with
        | zero => cases h; exact h1 c (.head _) (by assumption) (by assumption)
        | succ i =>
          have := fun x hx => h1 x (.tail _ hx)
          exact gstream_of (ks := r) this (fun x e => by cases e; exact h1 c (.head _) (by assumption) (by assumption)) h
theorem fr_keep {g h h' : Heap} {L a b : Addr} {m : Str → Option Value} (F : Fr g L h m) (hk : KeepBut a b h h') (ha : L < a) (hb : L < b) : Fr g L h' m :=
  ⟨F.ns.at' fun o e => hk L o (Nat.ne_of_lt ha) (Nat.ne_of_lt hb) e, fun c o e => hk c o (Nat.ne_of_lt (Nat.lt_trans (Nat.lt_of_lt_of_le (Heap.lt_size e) F.above) ha)) (Nat.ne_of_lt (Nat.lt_trans (Nat.lt_of_lt_of_le (Heap.lt_size e) F.above) hb)) (F.keep c o e), F.above⟩
theorem news_keep {g h h' : Heap} {L a b : Addr} {news : List (Addr × Obj)} (N : News g L h news) (hk : KeepBut a b h h') (ha : ∀ q ∈ news, q.1 ≠ a ∧ q.1 ≠ b) : News g L h' news :=
  fun q hq => ⟨hk _ _ (ha q hq).1 (ha q hq).2 (N q hq).1, (N q hq).2⟩
theorem news_and {g h : Heap} {L : Addr} {a : Addr} {o : Obj} {news : List (Addr × Obj)} (N : News g L h news) (h1 : h.get? a = some o) (h2 : a ≠ L) (h3 : g.get? a = none) : News g L h ((a, o) :: news) := fun q hq => by
  rcases List.mem_cons.mp hq with rfl | hq
  · exact ⟨h1, h2, h3⟩
  · exact N q hq
theorem news_sub {g h : Heap} {L : Addr} {news news' : List (Addr × Obj)} (N : News g L h news) (hs : ∀ q ∈ news', q ∈ news) : News g L h news' := fun q hq => N q (hs q hq)
theorem n10 {n i : Nat} (h : i ≤ n) : n + 1 - i = n - i + 1 := Nat.succ_sub h
theorem n21 {n i : Nat} (h : i ≤ n) : n + 2 - i = n + 1 - i + 1 := Nat.succ_sub (Nat.le_succ_of_le h)
theorem n11 {n i : Nat} (h : i ≤ n) : n + 1 - i = n + 1 - (i + 1) + 1 := by rw [Nat.add_sub_add_right]; exact n10 h
theorem nss {n i : Nat} (h : i ≤ n) : n + 1 - (n + 1 - i) = i := Nat.sub_sub_self (Nat.le_succ_of_le h)
theorem nlt {n i r : Nat} (h : i ≤ n) (hr : r = n + 2 - i) : n + 2 - (i + 1) < r := by rw [hr, n21 h, show n + 2 - (i + 1) = n + 1 - i from Nat.add_sub_add_right (n + 1) 1 i]; exact Nat.lt_succ_self _
theorem nadd {i a b n : Nat} (h : a + 1 ≤ b) (hn : i + b ≤ n) : i + 1 + a ≤ n := Nat.le_trans (by rw [Nat.add_assoc, Nat.add_comm 1 a]; exact Nat.add_le_add_left h i) hn
theorem no_above {g h : Heap} {L a : Addr} {m : Str → Option Value} (F : Fr g L h m) (ha : L < a) : g.get? a = none := by
  cases q : g.get? a with
  | none => rfl
  | some o => exact absurd (Nat.lt_of_lt_of_le (Heap.lt_size q) F.above) (Nat.not_lt.mpr (Nat.le_of_lt ha))
section
local macro_rules | `(tactic| walk_at "exec For Name Call cons nil") => `(tactic| (refine hold ?_))
local macro_rules | `(tactic| walk_at "binaryOp Add ref ref") => `(tactic| (k_here; k_dflt (refine add_any (by k_asm) (by k_asm) (by is_list) (by is_list) (by rw [sizeLine_eq]; (try simp only [List.length_cons, List.length_nil]); omega) ?_); intro _ _ _ _ _))
local macro_rules | `(tactic| walk_at "subscriptTail") => `(tactic| (k_here; (first | refine slice_from (s := ⟨_, _, _, _, _⟩) (by assumption) (by assumption) (by omega) (by assumption) ?_ | refine slice_to (s := ⟨_, _, _, _, _⟩) (by assumption) (by assumption) (by omega) (by assumption) ?_); intro _ _ _ _ _))
variable {w : World} {p : Program} {loose : List Str} {mean : ExcName → Option Value} {mg mb : Str → Option Value} {A : Around} {env : Env} {outer : List Env} {A₀ : Around} {base h₀ : Heap} {L : Addr} {m : Str → Option Value} {news : List (Addr × Obj)} {s : Shared} {Q E : Value → Shared → Prop}
  (B : Below A₀ base outer h₀) (F : Fr h₀ L s.heap m) (X : (hd.heap_39 w.params).In h₀) (N : News h₀ L s.heap news) (T : Top p loose mean mg mb h₀)
  (hA : A.frames = some (env :: outer)) (hf : env.frame = some L) (hke : env.scope.kind = .function) (hh : A.handled = none)
include B F X N T hA hf hke hh
theorem c_cut {tx : List UInt8} {tt : Tok} {ls : Addr} {vs : List Value} {ks : List Int} {ep : Nat} (hdp : A.depth + 20 < recursionLimit) (hun : A.units + 160 < cLine) (htx : tx.length ≤ 1000) (hls : (ls, W.listOf vs.toArray ep) ∈ news) (hi : IntsAre vs ks) (hne : ks.head? ≠ some 0) (hpos : ∀ k ∈ ks, 0 ≤ k) (hbare : AllBare s.gens)
    (ret : ∀ lp pv ep' h' tk' G', ByAre pv (cutN (gstream ks none) (tx.length + 1) 0 tx []) → AllBare G' → Fr h₀ L h' m → News h₀ L h' ((lp, W.listOf pv.toArray ep') :: news) → Q (.ref lp) { s with heap := h', toks := tk', gens := G' }) :
    wpAny (model prg w) A (call (.ref 199) [.bytes tx.toArray tt, .ref ls]) Q E s := by
  have hys : ∀ i k, gstream ks none i = some k → 0 < k ∧ k ≠ 127 := fun i k e => gstream_of (P := fun k => 0 < k ∧ k ≠ 127) (fun x hx h1 h2 => ⟨by have := hpos x hx; omega, h1⟩) (fun x e => by cases e) e
  ktr_enter
  k_steps
  refine ⟨wpAny_For ?_⟩
  k_steps
  rename_i g1 L1 h1 FG B1 X1 T1 tk0 la h2 hl1 h3 F1 N1
  refine c_gen (by assumption) F1 (by assumption) N1 (by assumption) (Around.frames_deeper hA) rfl rfl hh (by rw [depth_deeper]; omega) (.tail _ hls) hi hne ?_
  intro Lg gs h4 oL go tk4 F4 N4 IG hsz4 hlt4 hLg hbr hgo
  refine wpAny_pyIter_gen IG ?_
  obtain ⟨o, nm, qn, ho, hc, hd, hsl⟩ := IG
  obtain rfl : o = go := by have := (N4 _ (.head _)).1; rw [ho] at this; cases this; rfl
  refine For_invG (n₀ := tx.length + 2) (fun A1 r m₁ news₁ G₁ h₁ => ∃ (i : Nat) (x : List UInt8) (ps : List (List UInt8)) (pv : List Value) (lp : Addr) (ep1 : Nat) (t1 : Tok) (oL1 oi : Obj) (gs1 : GenState) (gp : List (Addr × Obj)), AllAt m₁ [(Str.ofString "text", .bytes x.toArray t1), (Str.ofString "pieces", .ref lp)] ∧ news₁ = (lp, W.listOf pv.toArray ep1) :: gp ∧ (Lg, oL1) ∈ gp ∧ (0 < i → (Lg + 2, oi) ∈ gp) ∧ (Lg + 1, o) ∈ gp ∧ (∀ q ∈ news, q ∈ gp) ∧ lp ≠ Lg ∧ lp ≠ Lg + 2 ∧ ByAre pv ps ∧ i + x.length ≤ tx.length ∧ cutN (gstream ks none) (tx.length + 1 - i) i x ps = cutN (gstream ks none) (tx.length + 1) 0 tx [] ∧ ps.length ≤ i ∧ r = tx.length + 2 - i ∧ G₁[s.gens.size]? = some gs1 ∧ AllBare G₁ ∧ (i = 0 → h₁.objs.size = Lg + 2) ∧
    (∀ s'', (∀ b o, g1.get? b = some o → s''.heap.get? b = some o) → s''.heap.get? Lg = some oL1 → s''.heap.get? ls = some (W.listOf vs.toArray ep) → (i = 0 → s''.heap.objs.size = Lg + 2) → (0 < i → s''.heap.get? (Lg + 2) = some oi) →
      gs1.Goes (model prg w) A1.in1 (GR Lg (Lg + 2) (tx.length + 2) (gstream ks none)) (GY g1 Lg (Lg + 2) ls (W.listOf vs.toArray ep) (tx.length + 2) (gstream ks none)) (tx.length + 2 - i) (.send .none) s'')) F4 (news_sub (news' := (la, W.listOf #[] 0) :: (Lg + 1, o) :: (Lg, oL) :: news) N4 ?sub) ⟨0, tx, [], [], la, 0, _, oL, oL, gs, _, ⟨rfl, rfl, trivial⟩, rfl, .tail _ (.head _), fun h => absurd h (Nat.lt_irrefl _), .head _, fun q hq => .tail _ (.tail _ hq), Nat.ne_of_lt (hlt4 _ (.head _)), Nat.ne_of_lt (Nat.lt_trans (hlt4 _ (.head _)) (by omega)), .nil, by omega, rfl, Nat.le_refl _, rfl, ?g1, hbare.push hbr, fun _ => hsz4, fun s5 e1 e2 e3 e4 _ => hgo _ _ s5 ?ah (by omega) e1 e2 e3 (e4 rfl)⟩ ?_
  case sub => intro q hq; simp only [List.mem_cons] at hq ⊢; rcases hq with h | h | h | h <;> simp [h]
  case g1 => exact Array.getElem?_push_size ..
  case ah => exact hh
  rintro r m₁ news₁ h₁ tk₁ G₁ F₁ N₁ ⟨i, x, ps, pv, lp, ep1, t1, oL1, oi, gs1, gp, hm, rfl, hmL, hmi, hmg, hsub, hlpL, hlpi, hby, hix, hcut, hpl, hr, hGg, hGb, hz0, hgo1⟩
  have F₂ := ovl_fr F₁ hm
  clear F₁ hm
  have hL2 : L1 < Lg + 2 := Nat.lt_trans hLg (by omega)
  have hpvl := hby.length
  have hin : i ≤ tx.length := Nat.le_trans (Nat.le_add_right _ _) hix
  have hsubA : ∀ q ∈ (Lg + 1, o) :: news, q ∈ (lp, W.listOf pv.toArray ep1) :: gp := fun q hq => by
    rcases List.mem_cons.mp hq with rfl | hq
    · exact .tail _ hmg
    · exact .tail _ (hsub q hq)
  have hsubB : ∀ q ∈ (Lg + 1, o) :: news, q.1 ≠ Lg ∧ q.1 ≠ Lg + 2 := fun q hq => by
    rcases List.mem_cons.mp hq with rfl | hq
    · exact ⟨Nat.succ_ne_self _, Nat.ne_of_lt (Nat.lt_succ_self _)⟩
    · have := hlt4 q (.tail _ hq)
      exact ⟨Nat.ne_of_lt this, Nat.ne_of_lt (Nat.lt_trans this (Nat.lt_add_of_pos_right (by decide)))⟩
  refine next_g (n := tx.length + 1 - i) hh (T1.nolimit.keeps F₂.keep) (by rw [depth_deeper]; omega) ⟨o, nm, qn, (N₁ _ (.tail _ hmg)).1, hc, hd, hsl⟩ hGg hGb (by
    have := hgo1 ({ s with heap := h₁, toks := tk₁, gens := G₁ } |>.setGen s.gens.size .running) F₂.keep (N₁ _ (.tail _ hmL)).1 (N₁ _ (.tail _ (hsub _ hls))).1 hz0 (fun h => (N₁ _ (.tail _ (hmi h))).1)
    rw [n21 hin] at this
    exact this) ?_ ?_
  · intro k t h6 tk6 oL6 oi6 gs6 G6 hy hkb hL6 hi6 hG6 hB6 hgo6
    rw [show tx.length + 2 - 1 - (tx.length + 1 - i) = i from nss hin] at hy
    obtain ⟨hk0, hk127⟩ := hys i k hy
    have F6 := fr_keep F₂ hkb hLg hL2
    have N6 : News g1 L1 h6 ((lp, W.listOf pv.toArray ep1) :: (Lg, oL6) :: (Lg + 2, oi6) :: (Lg + 1, o) :: news) := news_and (news_and (news_and (news_keep (news_sub N₁ (news' := (Lg + 1, o) :: news) hsubA) hkb hsubB) hi6 (Nat.ne_of_gt hL2) (no_above F₂ hL2)) hL6 (Nat.ne_of_gt hLg) (no_above F₂ hLg)) (hkb _ _ hlpL hlpi (N₁ _ (.head _)).1) (N₁ _ (.head _)).2.1 (N₁ _ (.head _)).2.2
    clear F₂ N₁
    dsimp only
    rcases x with _ | ⟨c, x'⟩
    · k_steps
      all_goals try (exfalso; contradiction)
      dsimp only [ForEndG]
      k_steps
      refine ret lp pv ep1 _ _ _ ?_ hB6 (by assumption) (news_sub (by assumption) ?_)
      · rw [← hcut, n10 hin, cutN_some hy, if_pos rfl]
        exact hby
      · intro q hq
        rcases List.mem_cons.mp hq with rfl | hq
        · exact .head _
        · exact .tail _ (.tail _ (.tail _ (.tail _ hq)))
    · have hlen : (((c :: x').toArray.size : Nat) : Int) ≠ 0 := by simp; omega
      have hle2 : (List.take ((c :: x').length - k.toNat) (c :: x')).length + 1 ≤ (c :: x').length := by rw [List.length_take]; exact Nat.lt_of_le_of_lt (Nat.min_le_left _ _) (Nat.sub_lt (Nat.succ_pos _) (Int.lt_toNat.mpr hk0))
      k_steps
      all_goals try (exfalso; contradiction)
      rename ∀ p : Addr × Obj, p ∈ (_ :: _ :: _ :: _ :: _ :: _) → p.1 < _ => hD
      refine ForEndG.on (by assumption) (by assumption) (n' := tx.length + 2 - (i + 1)) (nlt hin hr) ⟨i + 1, _, _, _, _, 0, _, oL6, oi6, gs6, _, ⟨rfl, rfl, trivial⟩, rfl, .tail _ (.tail _ (.head _)), fun _ => .tail _ (.tail _ (.tail _ (.head _))), .tail _ (.tail _ (.tail _ (.tail _ (.head _)))), fun q hq => .tail _ (.tail _ (.tail _ (.tail _ (.tail _ hq)))), Nat.ne_of_gt (hD (Lg, oL6) (.tail _ (.tail _ (.head _)))), Nat.ne_of_gt (hD (Lg + 2, oi6) (.tail _ (.tail _ (.tail _ (.head _))))), .cons _ _ hby, nadd hle2 hix, ?_, Nat.succ_le_succ hpl, rfl, hG6, hB6, fun h => absurd h (Nat.succ_ne_zero _), fun s7 e1 e2 e3 _ e5 => ?_⟩
      · rw [← hcut, n11 hin, cutN_some hy, if_neg (List.cons_ne_nil _ _)]
      · rw [show tx.length + 2 - (i + 1) = tx.length + 1 - i from Nat.add_sub_add_right _ 1 i]
        exact hgo6 (by omega) s7 ⟨e1, e2, e5 (Nat.succ_pos _), e3⟩
  · intro hy h6 tk6 G6 hkb hB6
    rw [show tx.length + 2 - (tx.length + 1 - i + 1) = i from (Nat.add_sub_add_right (tx.length + 1) 1 _).trans (nss hin)] at hy
    have F6 := fr_keep F₂ hkb hLg hL2
    have N6 : News g1 L1 h6 ((lp, W.listOf pv.toArray ep1) :: news) := news_and (news_keep (news_sub N₁ (news' := news) fun q hq => hsubA q (.tail _ hq)) hkb fun q hq => hsubB q (.tail _ hq)) (hkb _ _ hlpL hlpi (N₁ _ (.head _)).1) (N₁ _ (.head _)).2.1 (N₁ _ (.head _)).2.2
    clear F₂ N₁
    dsimp only
    rw [n10 hin, cutN_none hy] at hcut
    rcases x with _ | ⟨c, x'⟩
    · k_steps
      exact ret lp pv ep1 _ _ _ (by rw [← hcut, if_pos rfl]; exact hby) hB6 (by assumption) (by assumption)
    · have hlen : (((c :: x').toArray.size : Nat) : Int) ≠ 0 := by simp; omega
      k_steps
      all_goals try (exfalso; contradiction)
      exact ret _ ([Value.bytes (c :: x').toArray t1] ++ pv) 0 _ _ _ (by rw [← hcut, if_neg (List.cons_ne_nil _ _)]; exact .cons _ _ hby) hB6 (by assumption) (news_sub (by assumption) fun q hq => by
        rcases List.mem_cons.mp hq with rfl | hq
        · exact .head _
        · exact .tail _ (.tail _ (.tail _ hq)))
end
-- needs: base leaf bi loops value row
section
variable {prog : Program} {w : World} {A : Around} {E : Value → Shared → Prop} {s : Shared} {Q : Value → Shared → Prop} {a b n : Int} {t u : Tok}
theorem and63 (h : Q (.int (a % 64) s.toks) { s with toks := s.toks + 1 }) : wpAny (model prog w) A (binaryOp .BitAnd (.int a t) (.int 63 u)) Q E s := and_int (by rw [bitAnd_m6]; exact h)
theorem and65535 (h : Q (.int (a % 65536) s.toks) { s with toks := s.toks + 1 }) : wpAny (model prog w) A (binaryOp .BitAnd (.int a t) (.int 65535 u)) Q E s := and_int (by rw [bitAnd_m16]; exact h)
theorem and15 (h : Q (.int (a % 16) s.toks) { s with toks := s.toks + 1 }) : wpAny (model prog w) A (binaryOp .BitAnd (.int a t) (.int 15 u)) Q E s := and_int (by rw [bitAnd_m4]; exact h)
theorem and3 (h : Q (.int (a % 4) s.toks) { s with toks := s.toks + 1 }) : wpAny (model prog w) A (binaryOp .BitAnd (.int a t) (.int 3 u)) Q E s := and_int (by rw [bitAnd_m2]; exact h)
theorem bitOr_nat (x y : Nat) : Builtin.bitOr (x : Int) (y : Int) = ((x ||| y : Nat) : Int) := by
  have h1 : ∀ z : Nat, decide (0 ≤ Builtin.bitNot (z : Int)) = false := fun z => by rw [kbt_not]; exact decide_eq_false (by omega)
  have h2 : ∀ z : Nat, (Builtin.bitNot (Builtin.bitNot (z : Int))).toNat = z := fun z => by rw [kbt_not, kbt_not]; omega
  show Builtin.bitNot (Builtin.bitAnd (Builtin.bitNot x) (Builtin.bitNot y)) = _
  unfold Builtin.bitAnd
  rw [h1, h1]
  simp only [h2]
  rw [kbt_not, kbt_not]; omega
theorem bitOr_low {x b : Int} (k : Nat) (hx : 0 ≤ x) (hb : 0 ≤ b) (hk : b < 2 ^ k) : Builtin.bitOr (x * 2 ^ k) b = x * 2 ^ k + b := by
  obtain ⟨m, rfl⟩ := Int.eq_ofNat_of_zero_le hx
  obtain ⟨c, rfl⟩ := Int.eq_ofNat_of_zero_le hb
  have e : (m : Int) * 2 ^ k = ((2 ^ k * m : Nat) : Int) := by push_cast; rw [Int.mul_comm]
  have hk' : c < 2 ^ k := by exact_mod_cast hk
  rw [e, bitOr_nat, ← Nat.two_pow_add_eq_or_of_lt hk', Int.natCast_add]
theorem or_low {x c : Int} (k : Nat) (hx : 0 ≤ x) (hb : 0 ≤ b) (hk : b < c) (hc : c = 2 ^ k) (h : Q (.int (x * c + b) s.toks) { s with toks := s.toks + 1 }) : wpAny (model prog w) A (binaryOp .BitOr (.int (x * c) t) (.int b u)) Q E s :=
  or_int (by rw [hc] at hk ⊢; rw [bitOr_low k hx hb hk, ← hc]; exact h)
theorem rshc {c : Int} (hn : 0 ≤ n) (hc : c = 2 ^ n.toNat) (h : Q (.int (a / c) s.toks) { s with toks := s.toks + 1 }) : wpAny (model prog w) A (binaryOp .RShift (.int a t) (.int n u)) Q E s :=
  rshift_int hn (by rw [Int.fdiv_eq_ediv_of_nonneg _ (Int.le_of_lt (kbt_pos _)), ← hc]; exact h)
theorem lsh {c : Int} (hn : 0 ≤ n) (hn2 : n ≤ 1000000) (ha : a.natAbs < 2 ^ 64) (hc : c = 2 ^ n.toNat) (h : Q (.int (a * c) s.toks) { s with toks := s.toks + 1 }) : wpAny (model prog w) A (binaryOp .LShift (.int a t) (.int n u)) Q E s :=
  lshift_int_small hn hn2 ha (by rw [← hc]; exact h)
theorem rsh (hn : 0 ≤ n) (h : Q (.int (a / 2 ^ n.toNat) s.toks) { s with toks := s.toks + 1 }) : wpAny (model prog w) A (binaryOp .RShift (.int a t) (.int n u)) Q E s :=
  rshift_int hn (by rw [Int.fdiv_eq_ediv_of_nonneg _ (Int.le_of_lt (kbt_pos _))]; exact h)
end
/-- a sign's octet -/
def sg (v : Int) : Int := if v < 26 then v + 65 else if v < 52 then v + 71 else if v < 62 then v - 4 else if v = 62 then 43 else 47
def b64lit : List UInt8 := [65, 66, 67, 68, 69, 70, 71, 72, 73, 74, 75, 76, 77, 78, 79, 80, 81, 82, 83, 84, 85, 86, 87, 88, 89, 90, 97, 98, 99, 100, 101, 102, 103, 104, 105, 106, 107, 108, 109, 110, 111, 112, 113, 114, 115, 116, 117, 118, 119, 120, 121, 122, 48, 49, 50, 51, 52, 53, 54, 55, 56, 57, 43, 47]
theorem sg_lit : ∀ i : Fin 64, ((b64lit.getD i.1 0).toNat : Int) = sg i.1 := by decide +kernel
theorem sg_at {i : Int} (h0 : 0 ≤ i) (h1 : i < 64) : ((b64lit.getD i.toNat 0).toNat : Int) = sg i := by
  have := sg_lit ⟨i.toNat, by omega⟩
  rw [Int.toNat_of_nonneg h0] at this
  exact this
def sext (V : Int) (q : Nat) : Int := V / 64 ^ (7 - q) % 64
def outs (V : Int) (q : Nat) : List Int := (List.range q).map fun i => sg (sext V i)
theorem outs_succ (V : Int) (q : Nat) : outs V (q + 1) = outs V q ++ [sg (sext V q)] := by unfold outs; rw [List.range_succ, List.map_append]; rfl
theorem outs_length (V : Int) (q : Nat) : (outs V q).length = q := by simp [outs]
theorem head_val {os : List UInt8} {j : Nat} (hl : os.length = 6) (hj : j ≤ 6) : val256 (octs (os.take j)) = val256 (octs os) / 256 ^ (6 - j) := by
  have e : octs os = octs (os.take j) ++ octs (os.drop j) := by rw [← List.map_append, List.take_append_drop]
  have hb := val256_bounds (os.drop j)
  have hd : (os.drop j).length = 6 - j := by simp [hl]
  rw [hd] at hb
  rw [e, val256_append, List.length_map, hd]
  have hp := pow256_pos (6 - j)
  rw [Int.add_comm, Int.add_mul_ediv_right _ _ (by omega), Int.ediv_eq_zero_of_lt hb.1 hb.2, Int.zero_add]
theorem mod_div64 (n P R : Int) (hP : 0 < P) : n % (P * (64 * R)) / P % 64 = n / P % 64 := by
  have e : n % (P * (64 * R)) = n + P * (64 * (-(R * (n / (P * (64 * R)))))) := by
    rw [Int.emod_def, Int.mul_assoc P, Int.mul_assoc 64, Int.mul_neg, Int.mul_neg]; rfl
  rw [e, Int.add_mul_ediv_left _ _ (Int.ne_of_gt hP), Int.add_mul_emod_self_left]
theorem e_nat {j k q e : Nat} (h6 : 6 = j + k) (he : 8 * j = 6 * (q + 1) + e) : 8 * k + e + 6 * q = 6 * 7 := by omega
theorem sext_part {os : List UInt8} {j q e : Nat} (hl : os.length = 6) (hj : j ≤ 6) (he : 8 * j = 6 * (q + 1) + e) (h10 : e ≤ 10) : val256 (octs (os.take j)) % 65536 / 2 ^ e % 64 = sext (val256 (octs os)) q := by
  have h1 : val256 (octs (os.take j)) % 65536 / 2 ^ e % 64 = val256 (octs (os.take j)) / 2 ^ e % 64 := by
    obtain ⟨d, hd⟩ := Nat.exists_eq_add_of_le h10
    have e16 : (65536 : Int) = 2 ^ e * (64 * 2 ^ d) := by
      rw [Int.mul_left_comm, ← Int.pow_add, ← hd]; rfl
    rw [e16, mod_div64 _ _ _ (Int.pow_pos (by decide))]
  rw [h1, head_val hl hj]
  unfold sext
  rw [Int.ediv_ediv_of_nonneg (Int.le_of_lt (pow256_pos _))]
  congr 2
  rw [show (256 : Int) = 2 ^ 8 by rfl, show (64 : Int) = 2 ^ 6 by rfl, ← Int.pow_mul, ← Int.pow_mul, ← Int.pow_add]
  congr 1
  obtain ⟨k, hk⟩ := Nat.exists_eq_add_of_le hj
  rw [show 6 - j = k from Nat.sub_eq_of_eq_add (hk.trans (Nat.add_comm j k)), Nat.mul_sub]
  exact Nat.eq_sub_of_add_eq (e_nat hk he)
theorem app2 {prog : Program} {w : World} {A : Around} {E : Value → Shared → Prop} {s : Shared} {Q : Value → Shared → Prop} {h₀ : Heap} {L it lo : Addr} {m : Str → Option Value} {news : List (Addr × Obj)} {io : Obj} {vs : List Value} {ep : Nat} {x : Value} (F : Fr h₀ L s.heap m) (N : News h₀ L s.heap ((it, io) :: (lo, W.listOf vs.toArray ep) :: news)) (h1 : lo < it) (h2 : ∀ p ∈ news, p.1 < lo) (hz : vs.length ≤ sizeLine)
    (h : ∀ h', Fr h₀ L h' m → News h₀ L h' ((it, io) :: (lo, W.listOf (vs ++ [x]).toArray (ep + 1)) :: news) → Q .none { s with heap := h' }) : wpAny (model prog w) A (call (.builtin "list.append") [.ref lo, x]) Q E s := by
  have z := N (lo, W.listOf vs.toArray ep) (.tail _ (.head _))
  refine append_at (hsz := by simpa using hz) z.1 fun h' hs ho' => h h' (F.change hs z.2.1 z.2.2) ?_
  refine News.setIn (own := [(it, io)]) N (fun p hp => ?_) (fun p hp => Nat.ne_of_lt (h2 p hp)) hs ?_
  · rw [List.mem_singleton.mp hp]; exact Nat.ne_of_gt h1
  · rw [ho', List.push_toArray]
theorem sg_fin : ∀ i : Fin 64, (((65 ≤ sg i.1 ∧ sg i.1 ≤ 90 ∧ (i.1 : Int) = sg i.1 - 65) ∨ (97 ≤ sg i.1 ∧ sg i.1 ≤ 122 ∧ (i.1 : Int) = sg i.1 - 71) ∨ (48 ≤ sg i.1 ∧ sg i.1 ≤ 57 ∧ (i.1 : Int) = sg i.1 + 4) ∨ (sg i.1 = 43 ∧ (i.1 : Int) = 62) ∨ (sg i.1 = 47 ∧ (i.1 : Int) = 63)) ∧ sg i.1 ≠ 61) ∧ 0 ≤ sg i.1 ∧ sg i.1 < 256 := by decide +kernel
theorem sg_range (V : Int) (q : Nat) : 0 ≤ sg (sext V q) ∧ sg (sext V q) < 256 := by
  have h0 : 0 ≤ sext V q := Int.emod_nonneg _ (by decide)
  have h := sg_fin ⟨(sext V q).toNat, (Int.toNat_lt h0).mpr (Int.emod_lt_of_pos _ (by decide))⟩
  rw [Int.toNat_of_nonneg h0] at h
  exact h.2
theorem outs_bytes (V : Int) (q : Nat) : ∃ x : List UInt8, octs x = outs V q := by
  refine ⟨(outs V q).map fun n => n.toNat.toUInt8, ?_⟩
  unfold octs
  rw [List.map_map]
  conv => rhs; rw [← List.map_id (outs V q)]
  refine List.map_congr_left fun n hn => ?_
  obtain ⟨i, _, rfl⟩ := List.mem_map.mp hn
  exact byte_back (sg_range V i).1 (sg_range V i).2
local macro_rules | `(tactic| walk_at "call builtin:list.append") => `(tactic| (k_here; (refine app2 (by assumption) (by assumption) (by assumption) (by assumption) (by rw [sizeLine_eq]; omega) ?_); intro _ _ _))
local macro_rules | `(tactic| walk_at "binaryOp BitAnd int int") => `(tactic| (k_here; first | with_reducible refine and63 ?_ | with_reducible refine and65535 ?_ | with_reducible refine and15 ?_ | with_reducible refine and3 ?_))
local macro_rules | `(tactic| walk_at "binaryOp BitOr int int") => `(tactic| (k_here; first | refine or_low (c := 256) 8 (by omega) (by omega) (by omega) rfl ?_ | refine or_low (c := 4) 2 (by omega) (by omega) (by omega) rfl ?_ | refine or_low (c := 16) 4 (by omega) (by omega) (by omega) rfl ?_ | refine or_low (c := 64) 6 (by omega) (by omega) (by omega) rfl ?_))
local macro_rules | `(tactic| walk_at "binaryOp LShift int int") => `(tactic| (k_here; first | refine lsh (c := 256) (by decide) (by decide) (by omega) (by decide) ?_ | refine lsh (c := 4) (by decide) (by decide) (by omega) (by decide) ?_ | refine lsh (c := 16) (by decide) (by decide) (by omega) (by decide) ?_ | refine lsh (c := 64) (by decide) (by decide) (by omega) (by decide) ?_))
local macro_rules | `(tactic| walk_at "binaryOp RShift int int") => `(tactic| (k_here; first | refine rshc (c := 16) (by decide) (by decide) ?_ | refine rshc (c := 4) (by decide) (by decide) ?_ | refine rsh (by omega) ?_))
-- needs: base leaf bi loops value row b64e
section
variable {w : World} {p : Program} {loose : List Str} {mean : ExcName → Option Value} {mg mb : Str → Option Value} {A : Around} {env : Env} {outer : List Env} {A₀ : Around} {base h₀ : Heap} {L : Addr} {m : Str → Option Value} {news : List (Addr × Obj)} {s : Shared} {Q E : Value → Shared → Prop}
  (B : Below A₀ base outer h₀) (F : Fr h₀ L s.heap m) (X : (hd.heap_39 w.params).In h₀) (N : News h₀ L s.heap news) (T : Top p loose mean mg mb h₀)
  (hA : A.frames = some (env :: outer)) (hf : env.frame = some L) (hke : env.scope.kind = .function) (hh : A.handled = none)
include B F X N T hA hf hke hh

theorem c_b2a {os : List UInt8} {tt : Tok} (hdp : A.depth + 20 < recursionLimit) (hun : A.units + 160 < cLine) (hl : os.length = 6)
    (ret : ∀ x t h' tk', octs x = outs (val256 (octs os)) 8 → Fr h₀ L h' m → News h₀ L h' news → Q (.bytes x.toArray t) { s with heap := h', toks := tk' }) :
    wpAny (model prg w) A (call (.ref 115) [.bytes os.toArray tt] [(Str.ofString "newline", .bool false)]) Q E s := by
  ktr_enter
  k_steps
  rename Fr _ _ _ (fun _ => _) => F9
  rename News _ _ _ (_ :: _) => N9
  have G := fun p => goes_bytes (news := p) os tt
  refine ⟨wpAny_For (ld F9 rfl ((G _).make F9 N9 ?_))⟩
  intro it io h1 F1 N1 hlt1 hP1
  rename_i lo h8 hlo h9 h10 h11 _ _
  refine For_inv (n₀ := 6) (fun r m₁ news₁ => ∃ (j : Nat) (io : Obj) (lc lb : Int) (tc tb tn : Tok) (vs : List Value) (ep : Nat), AllAt m₁ [(Str.ofString "out", .ref lo), (Str.ofString "leftbits", .int lb tb), (Str.ofString "leftchar", .int lc tc), (Str.ofString "newline", .bool false)] ∧ news₁ = (it, io) :: (lo, W.listOf vs.toArray ep) :: news ∧ (io.cls = .type "bytes_iterator" ∧ io.data = .fields #[.bytes os.toArray tt, .int j 0]) ∧ r = 6 - j ∧ j ≤ 6 ∧ lc = val256 (octs (os.take j)) % 65536 ∧ lb = (8 * j % 6 : Nat) ∧ IntsAre vs (outs (val256 (octs os)) (8 * j / 6))) F1 N1 ⟨0, io, _, _, _, _, 0, [], 0, ⟨rfl, rfl, rfl, rfl, trivial⟩, rfl, hP1, rfl, Nat.zero_le _, rfl, rfl, (by simp [outs]; exact .nil)⟩ ?_
  rintro r m₁ news₁ h₁ tk₁ F₁ N₁ ⟨j, io2, lc, lb, tc, tb, tn, vs, ep, hm, rfl, hP, hr, hj, hlc, hlb, hi⟩
  have F₂ := ovl_fr F₁ hm
  clear F₁ hm F1 N1 F9 N9
  have hlt : ∀ o, ∀ p ∈ (lo, o) :: news, p.1 < it := fun o p hp => by
    rcases List.mem_cons.mp hp with rfl | hp
    · exact hlt1 (lo, W.listOf #[] 0) (.head _)
    · exact hlt1 _ (.tail _ hp)
  have hit : lo < it := hlt1 (lo, W.listOf #[] 0) (.head _)
  by_cases hjn : j < os.length
  · refine (G _).item F₂ N₁ (hlt _) hP hjn ?_
    intro v h2 io3 tk2 F2 N2 hP2 hv
    obtain ⟨u, rfl⟩ := hv
    clear F₂ N₁
    dsimp only
    have hb0 := (os.getD j 0).toNat_lt
    have hlc0 : 0 ≤ lc ∧ lc < 65536 := by omega
    have hv1 : val256 (octs (os.take (j + 1))) = val256 (octs (os.take j)) * 256 + ((os.getD j 0).toNat : Int) := by
      rw [take_snoc (d := 0) os j hjn, octs, List.map_append, ← octs, val256_append]; simp [val256]
    k_steps
    rename Fr _ _ _ (fun _ => _) => F8
    rename News _ _ _ (_ :: _) => N8
    have hlc2 : (lc * 256 + ((os.getD j 0).toNat : Int)) % 65536 = val256 (octs (os.take (j + 1))) % 65536 := by rw [hv1]; omega
    refine ⟨While_inv (n₀ := 8 * (j + 1) / 6 - 8 * j / 6) (fun r m₂ news₂ => ∃ (q : Nat) (lb2 : Int) (tb2 tc2 tn2 : Tok) (vs2 : List Value) (ep2 : Nat), AllAt m₂ [(Str.ofString "out", .ref lo), (Str.ofString "leftbits", .int lb2 tb2), (Str.ofString "leftchar", .int ((lc * 256 + ((os.getD j 0).toNat : Int)) % 65536) tc2), (Str.ofString "newline", .bool false)] ∧ news₂ = (it, io3) :: (lo, W.listOf vs2.toArray ep2) :: news ∧ 8 * j / 6 ≤ q ∧ q ≤ 8 * (j + 1) / 6 ∧ lb2 = 8 * ((j : Int) + 1) - 6 * q ∧ IntsAre vs2 (outs (val256 (octs os)) q) ∧ r = 8 * (j + 1) / 6 - q) F8 N8 ⟨_, _, _, _, 0, vs, ep, ⟨rfl, rfl, rfl, rfl, trivial⟩, rfl, Nat.le_refl _, by omega, by omega, hi, rfl⟩ ?_⟩
    clear F8 N8
    rintro r2 m₂ news₂ h₂ tk₂ F₂ N₂ ⟨q, lb2, tb2, tc2, tn2, vs2, ep2, hm2, rfl, hq1, hq2, hlb2, hi2, hr2⟩
    have F₃ := ovl_fr F₂ hm2
    clear F₂ hm2
    have hvl : vs2.length ≤ 8 := by have := hi2.length; rw [outs_length] at this; omega
    k_steps
    · refine WhileStep.intro (by assumption) (by assumption) ?_ ⟨q + 1, _, _, _, 0, _, _, ⟨rfl, rfl, rfl, rfl, trivial⟩, rfl, by omega, by omega, by omega, ?_, rfl⟩
      · omega
      · have e : ((b64lit.getD ((lc * 256 + ((os.getD j 0).toNat : Int)) % 65536 / 2 ^ (lb2 - 6).toNat % 64).toNat 0).toNat : Int) = sg (sext (val256 (octs os)) q) := by
          rw [sg_at (by omega) (by omega), hlc2, sext_part (j := j + 1) (q := q) (e := (lb2 - 6).toNat) hl (by omega) (by omega) (by omega)]
        rw [outs_succ, ← e]
        exact ia_snoc hi2
    · have hq : q = 8 * (j + 1) / 6 := by omega
      exact ForEnd.on (by assumption) (by assumption) (n' := 6 - (j + 1)) (by omega) ⟨j + 1, io3, _, _, _, _, 0, vs2, ep2, ⟨rfl, rfl, rfl, rfl, trivial⟩, rfl, hP2, rfl, by omega, hlc2, by omega, hq ▸ hi2⟩
  · refine (G _).done hh F₂ N₁ (hlt _) hP (by omega) ?_
    intro h2 F2 N2
    clear F₂ N₁
    obtain rfl : j = 6 := by omega
    obtain rfl : lb = 0 := hlb
    obtain ⟨x, hx⟩ := outs_bytes (val256 (octs os)) 8
    have hvl : vs.length ≤ 8 := by have := hi.length; rw [outs_length] at this; omega
    replace hi : IntsAre vs (outs (val256 (octs os)) 8) := hi
    rw [← hx] at hi
    dsimp only
    k_steps
    exact ret x _ _ _ hx (by assumption) (news_drop (by assumption))
theorem c_b64e {os : List UInt8} {tt : Tok} (hdp : A.depth + 30 < recursionLimit) (hun : A.units + 240 < cLine) (hl : os.length = 6)
    (ret : ∀ x t h' tk', octs x = outs (val256 (octs os)) 8 → Fr h₀ L h' m → News h₀ L h' news → Q (.bytes x.toArray t) { s with heap := h', toks := tk' }) :
    wpAny (model prg w) A (call (.ref 146) [.bytes os.toArray tt]) Q E s := by
  ktr_enter
  k_steps
  refine c_b2a (by assumption) (by assumption) (by assumption) (by assumption) (by assumption) (Around.frames_deeper hA) rfl rfl hh (by rw [depth_deeper]; omega) (by rw [units_deeper]; omega) hl ?_
  intro x t h' tk' hx F' N'
  k_steps
  exact ret x _ _ _ hx (by assumption) (by assumption)
end
-- needs: base leaf bi loops value row b64e
def qv : Nat → Int | 1 => 1 | 2 => 2 | 3 => 3 | _ => 0
def lcv (s0 s1 s2 : Int) : Nat → Int | 1 => s0 | 2 => s1 % 16 | 3 => s2 % 4 | _ => 0
def outv (s0 s1 s2 s3 : Int) : Nat → List Int | 0 => [] | 1 => [] | 2 => [s0 * 4 + s1 / 16] | 3 => [s0 * 4 + s1 / 16, s1 % 16 * 16 + s2 / 4] | _ => [s0 * 4 + s1 / 16, s1 % 16 * 16 + s2 / 4, s2 % 4 * 64 + s3]
theorem sg_cases {v : Int} (h0 : 0 ≤ v) (h1 : v < 64) : ((65 ≤ sg v ∧ sg v ≤ 90 ∧ v = sg v - 65) ∨ (97 ≤ sg v ∧ sg v ≤ 122 ∧ v = sg v - 71) ∨ (48 ≤ sg v ∧ sg v ≤ 57 ∧ v = sg v + 4) ∨ (sg v = 43 ∧ v = 62) ∨ (sg v = 47 ∧ v = 63)) ∧ sg v ≠ 61 := by
  have h := sg_fin ⟨v.toNat, (Int.toNat_lt h0).mpr h1⟩
  rw [Int.toNat_of_nonneg h0] at h
  exact h.1
theorem octs3 {a b c : Int} (ha : 0 ≤ a ∧ a < 256) (hb : 0 ≤ b ∧ b < 256) (hc : 0 ≤ c ∧ c < 256) : ∃ os : List UInt8, octs os = [a, b, c] :=
  ⟨[a.toNat.toUInt8, b.toNat.toUInt8, c.toNat.toUInt8], by simp only [octs, List.map_cons, List.map_nil]; rw [byte_back ha.1 ha.2, byte_back hb.1 hb.2, byte_back hc.1 hc.2]⟩
theorem val3 (a b c : Int) : val256 [a, b, c] = a * 65536 + b * 256 + c := by simp [val256]; omega
section
variable {w : World} {p : Program} {loose : List Str} {mean : ExcName → Option Value} {mg mb : Str → Option Value} {A : Around} {env : Env} {outer : List Env} {A₀ : Around} {base h₀ : Heap} {L : Addr} {m : Str → Option Value} {news : List (Addr × Obj)} {s : Shared} {Q E : Value → Shared → Prop}
  (B : Below A₀ base outer h₀) (F : Fr h₀ L s.heap m) (X : (hd.heap_39 w.params).In h₀) (N : News h₀ L s.heap news) (T : Top p loose mean mg mb h₀)
  (hA : A.frames = some (env :: outer)) (hf : env.frame = some L) (hke : env.scope.kind = .function) (hh : A.handled = none)
include B F X N T hA hf hke hh

theorem c_a2b {x : List UInt8} {tt : Tok} {s0 s1 s2 s3 : Int} (hdp : A.depth + 20 < recursionLimit) (hun : A.units + 160 < cLine) (hx : octs x = [sg s0, sg s1, sg s2, sg s3]) (h0 : 0 ≤ s0 ∧ s0 < 64) (h1 : 0 ≤ s1 ∧ s1 < 64) (h2 : 0 ≤ s2 ∧ s2 < 64) (h3 : 0 ≤ s3 ∧ s3 < 64)
    (ret : ∀ os t h' tk', os.length = 3 → val256 (octs os) = s0 * 262144 + s1 * 4096 + s2 * 64 + s3 → Fr h₀ L h' m → News h₀ L h' news → Q (.bytes os.toArray t) { s with heap := h', toks := tk' }) :
    wpAny (model prg w) A (call (.ref 107) [.bytes x.toArray tt] [(Str.ofString "strict_mode", .bool false)]) Q E s := by
  have hxl : x.length = 4 := by have := congrArg List.length hx; simpa using this
  have hxj : ∀ j, j < 4 → ((x.getD j 0).toNat : Int) = [sg s0, sg s1, sg s2, sg s3].getD j 0 := fun j hj => by
    rw [← hx, octs, List.getD_eq_getElem?_getD, List.getD_eq_getElem?_getD, List.getElem?_map, List.getElem?_eq_getElem (by omega)]; rfl
  ktr_enter
  k_steps
  rename Fr _ _ _ (fun _ => _) => F9
  rename News _ _ _ (_ :: _) => N9
  have G := fun p => goes_bytes (news := p) x tt
  refine ⟨wpAny_For (ld F9 rfl ((G _).make F9 N9 ?_))⟩
  intro it io hp1 F1 N1 hlt1 hP1
  rename_i lo h8 hlo _ _ _ _ _ _ _ _ _
  refine For_inv (n₀ := 4) (fun r m₁ news₁ => ∃ (j : Nat) (io : Obj) (t1 t2 t3 t4 : Tok) (vs : List Value) (ep : Nat), AllAt m₁ [(Str.ofString "out", .ref lo), (Str.ofString "strict_mode", .bool false), (Str.ofString "quad_pos", .int (qv j) t1), (Str.ofString "leftchar", .int (lcv s0 s1 s2 j) t2), (Str.ofString "pads", .int 0 t3), (Str.ofString "i", .int j t4)] ∧ news₁ = (it, io) :: (lo, W.listOf vs.toArray ep) :: news ∧ (io.cls = .type "bytes_iterator" ∧ io.data = .fields #[.bytes x.toArray tt, .int j 0]) ∧ r = 4 - j ∧ j ≤ 4 ∧ IntsAre vs (outv s0 s1 s2 s3 j)) F1 N1 ⟨0, io, _, _, _, _, [], 0, ⟨rfl, rfl, rfl, rfl, rfl, rfl, trivial⟩, rfl, hP1, rfl, Nat.zero_le _, .nil⟩ ?_
  rintro r m₁ news₁ h₁ tk₁ F₁ N₁ ⟨j, io2, t1, t2, t3, t4, vs, ep, hm, rfl, hP, hr, hj, hi⟩
  have F₂ := ovl_fr F₁ hm
  clear F₁ hm F1 N1 F9 N9
  have hlt : ∀ o, ∀ p ∈ (lo, o) :: news, p.1 < it := fun o p hp => by
    rcases List.mem_cons.mp hp with rfl | hp
    · exact hlt1 (lo, W.listOf #[] 0) (.head _)
    · exact hlt1 _ (.tail _ hp)
  have hit : lo < it := hlt1 (lo, W.listOf #[] 0) (.head _)
  have hvl : vs.length ≤ 4 := by
    have := hi.length
    have hc : j = 0 ∨ j = 1 ∨ j = 2 ∨ j = 3 ∨ j = 4 := by omega
    rcases hc with rfl | rfl | rfl | rfl | rfl <;> simp only [outv, List.length_cons, List.length_nil] at this <;> omega
  by_cases hjn : j < x.length
  · refine (G _).item F₂ N₁ (hlt _) hP hjn ?_
    intro v h2' io3 tk2 F2 N2 hP2 hv
    obtain ⟨u, rfl⟩ := hv
    clear F₂ N₁
    dsimp only
    rw [hxj j (by omega)]
    have hc : j = 0 ∨ j = 1 ∨ j = 2 ∨ j = 3 := by omega
    rcases hc with rfl | rfl | rfl | rfl
    · obtain ⟨hcc, hne⟩ := sg_cases h0.1 h0.2
      simp only [qv, lcv] at F2
      simp only [outv] at hi
      simp only [List.getD_cons_zero, List.getD_cons_succ]
      k_steps
      all_goals try (exfalso; contradiction)
      exact ForEnd.on (by assumption) (by assumption) (n' := 3) (by omega) ⟨1, io3, _, _, _, _, _, _, ⟨rfl, rfl, rfl, rfl, rfl, rfl, trivial⟩, rfl, hP2, rfl, by omega, hi⟩
    · obtain ⟨hcc, hne⟩ := sg_cases h1.1 h1.2
      simp only [qv, lcv] at F2
      simp only [outv] at hi
      simp only [List.getD_cons_zero, List.getD_cons_succ]
      k_steps
      all_goals try (exfalso; contradiction)
      exact ForEnd.on (by assumption) (by assumption) (n' := 2) (by omega) ⟨2, io3, _, _, _, _, _, _, ⟨rfl, rfl, rfl, rfl, rfl, rfl, trivial⟩, rfl, hP2, rfl, by omega, ia_snoc hi⟩
    · obtain ⟨hcc, hne⟩ := sg_cases h2.1 h2.2
      simp only [qv, lcv] at F2
      simp only [outv] at hi
      simp only [List.getD_cons_zero, List.getD_cons_succ]
      k_steps
      all_goals try (exfalso; contradiction)
      exact ForEnd.on (by assumption) (by assumption) (n' := 1) (by omega) ⟨3, io3, _, _, _, _, _, _, ⟨rfl, rfl, rfl, rfl, rfl, rfl, trivial⟩, rfl, hP2, rfl, by omega, ia_snoc hi⟩
    · obtain ⟨hcc, hne⟩ := sg_cases h3.1 h3.2
      simp only [qv, lcv] at F2
      simp only [outv] at hi
      simp only [List.getD_cons_zero, List.getD_cons_succ]
      k_steps
      all_goals try (exfalso; contradiction)
      exact ForEnd.on (by assumption) (by assumption) (n' := 0) (by omega) ⟨4, io3, _, _, _, _, _, _, ⟨rfl, rfl, rfl, rfl, rfl, rfl, trivial⟩, rfl, hP2, rfl, by omega, ia_snoc hi⟩
  · refine (G _).done hh F₂ N₁ (hlt _) hP (by omega) ?_
    intro h2' F2 N2
    clear F₂ N₁
    obtain rfl : j = 4 := by omega
    simp only [qv, lcv] at F2
    simp only [outv] at hi
    obtain ⟨os, hos⟩ := octs3 (a := s0 * 4 + s1 / 16) (b := s1 % 16 * 16 + s2 / 4) (c := s2 % 4 * 64 + s3) (by omega) (by omega) (by omega)
    rw [← hos] at hi
    have hol : os.length = 3 := by have := congrArg List.length hos; simpa using this
    dsimp only
    k_steps
    exact ret os _ _ _ hol (by rw [hos, val3]; omega) (by assumption) (news_drop (by assumption))
theorem c_b64d {x : List UInt8} {tt : Tok} {s0 s1 s2 s3 : Int} (hdp : A.depth + 30 < recursionLimit) (hun : A.units + 240 < cLine) (hx : octs x = [sg s0, sg s1, sg s2, sg s3]) (h0 : 0 ≤ s0 ∧ s0 < 64) (h1 : 0 ≤ s1 ∧ s1 < 64) (h2 : 0 ≤ s2 ∧ s2 < 64) (h3 : 0 ≤ s3 ∧ s3 < 64)
    (ret : ∀ os t h' tk', os.length = 3 → val256 (octs os) = s0 * 262144 + s1 * 4096 + s2 * 64 + s3 → Fr h₀ L h' m → News h₀ L h' news → Q (.bytes os.toArray t) { s with heap := h', toks := tk' }) :
    wpAny (model prg w) A (call (.ref 154) [.bytes x.toArray tt]) Q E s := by
  ktr_enter
  k_steps
  refine c_a2b (by assumption) (by assumption) (by assumption) (by assumption) (by assumption) (Around.frames_deeper hA) rfl rfl hh (by rw [depth_deeper]; omega) (by rw [units_deeper]; omega) hx h0 h1 h2 h3 ?_
  intro os t h' tk' hol hov F' N'
  k_steps
  exact ret os _ _ _ hol hov (by assumption) (by assumption)
end
-- needs: base leaf bi loops value row seg gen gen2 geni cut
/-- what _law_due reckons, counts from the right -/
def dueL (B f : Int) : List Nat → Int → Int
  | [], _ => 0
  | c :: r, n => n % B ^ c + f ^ c * dueL B f r (n / B ^ c)
theorem dueL_cons (B f : Int) (c : Nat) (r : List Nat) (n : Int) : dueL B f (c :: r) n = n % B ^ c + f ^ c * dueL B f r (n / B ^ c) := rfl
theorem pow_pos' {B : Int} (hB : 0 < B) (k : Nat) : 0 < B ^ k := Int.pow_pos hB
theorem dueL_zero (B f : Int) : ∀ cl, dueL B f cl 0 = 0
  | [] => rfl
  | c :: r => by rw [dueL_cons, Int.zero_emod, Int.zero_ediv, dueL_zero B f r]; simp
theorem pow_le' {f B : Int} (h0 : 0 ≤ f) (h : f ≤ B) : ∀ k : Nat, 0 ≤ f ^ k ∧ f ^ k ≤ B ^ k
  | 0 => by simp
  | k + 1 => by
    have ih := pow_le' h0 h k
    rw [Int.pow_succ, Int.pow_succ]
    exact ⟨Int.mul_nonneg ih.1 h0, Int.mul_le_mul ih.2 h h0 (Int.le_trans ih.1 ih.2)⟩
theorem dueL_le {B f : Int} (hf : 0 ≤ f) (hfB : f ≤ B) (hB : 0 < B) : ∀ (cl : List Nat) (n : Int), 0 ≤ n → 0 ≤ dueL B f cl n ∧ dueL B f cl n ≤ n
  | [], n, h => ⟨Int.le_refl _, h⟩
  | c :: r, n, h => by
    have hp := pow_pos' hB c
    have hq : 0 ≤ n / B ^ c := Int.ediv_nonneg h (Int.le_of_lt hp)
    have ih := dueL_le hf hfB hB r (n / B ^ c) hq
    have hm := Int.emod_nonneg n (Int.ne_of_gt hp)
    have hk := pow_le' hf hfB c
    rw [dueL_cons]
    have h1 : 0 ≤ f ^ c * dueL B f r (n / B ^ c) := Int.mul_nonneg hk.1 ih.1
    have h2 : f ^ c * dueL B f r (n / B ^ c) ≤ B ^ c * (n / B ^ c) := Int.mul_le_mul hk.2 ih.2 ih.1 (Int.le_of_lt hp)
    have e := Int.emod_add_mul_ediv n (B ^ c)
    omega
theorem dueL_lt {B f : Int} (hf : 0 ≤ f) (hfB : f < B) (r : List Nat) {n : Int} (hn : B ≤ n) : dueL B f (1 :: r) n < n := by
  have hB : 0 < B := by omega
  have hq : 1 ≤ n / B := Int.le_ediv_of_mul_le hB (by omega)
  have ih := dueL_le hf (Int.le_of_lt hfB) hB r (n / B) (by omega)
  have e := Int.emod_add_mul_ediv n B
  rw [dueL_cons]
  rw [Int.pow_succ, Int.pow_succ, Int.pow_zero, Int.pow_zero, Int.one_mul, Int.one_mul]
  have h2 : f * dueL B f r (n / B) ≤ f * (n / B) := Int.mul_le_mul_of_nonneg_left ih.2 hf
  have h3 : f * (n / B) < B * (n / B) := Int.mul_lt_mul_of_pos_right hfB (by omega)
  omega
theorem pow_mod {B f : Int} (k : Nat) : (B - f) ∣ B ^ k - f ^ k := by
  induction k with
  | zero => simp
  | succ k ih =>
    have e : B ^ (k + 1) - f ^ (k + 1) = (B ^ k - f ^ k) * B + (B - f) * f ^ k := by
      rw [Int.pow_succ, Int.pow_succ, Int.sub_mul, Int.sub_mul, Int.mul_comm B (f ^ k), Int.mul_comm f (f ^ k)]; omega
    rw [e]
    exact Int.dvd_add (Int.dvd_mul_of_dvd_left ih) (Int.dvd_mul_right _ _)
theorem dueL_dvd {B f : Int} (hB : 0 < B) : ∀ (cl : List Nat) (n : Int), 0 ≤ n → n < B ^ cl.sum → (B - f) ∣ n - dueL B f cl n
  | [], n, h0, h1 => by
    have : n = 0 := by simp at h1; omega
    subst this; simp [dueL]
  | c :: r, n, h0, h1 => by
    have hp := pow_pos' hB c
    have hq : 0 ≤ n / B ^ c := Int.ediv_nonneg h0 (Int.le_of_lt hp)
    have hlt : n / B ^ c < B ^ r.sum := by
      rw [List.sum_cons, Int.pow_add, Int.mul_comm] at h1
      exact Int.ediv_lt_of_lt_mul hp h1
    have ih := dueL_dvd (f := f) hB r (n / B ^ c) hq hlt
    have e := Int.emod_add_mul_ediv n (B ^ c)
    rw [dueL_cons]
    have e2 : n - (n % B ^ c + f ^ c * dueL B f r (n / B ^ c)) = (B ^ c - f ^ c) * (n / B ^ c) + f ^ c * (n / B ^ c - dueL B f r (n / B ^ c)) := by
      rw [Int.sub_mul, Int.mul_sub]; omega
    rw [e2]
    exact Int.dvd_add (Int.dvd_mul_of_dvd_left (pow_mod c)) (Int.dvd_mul_of_dvd_right ih)
/-- the pieces' numbers: groups and value, the highest first -/
def foldQ (f : Int) (qs : List (Nat × Int)) : Int := qs.foldl (fun a q => a * f ^ q.1 + q.2) 0
def grs (qs : List (Nat × Int)) : Nat := (qs.map (·.1)).sum
theorem foldQ_from (f : Int) : ∀ (qs : List (Nat × Int)) (a : Int), qs.foldl (fun a q => a * f ^ q.1 + q.2) a = a * f ^ grs qs + foldQ f qs
  | [], a => by simp [foldQ, grs]
  | q :: r, a => by
    have e : foldQ f (q :: r) = q.2 * f ^ grs r + foldQ f r := by
      show r.foldl (fun a q => a * f ^ q.1 + q.2) (0 * f ^ q.1 + q.2) = _
      rw [foldQ_from f r]; simp
    have e2 : grs (q :: r) = q.1 + grs r := by simp [grs]
    rw [List.foldl_cons, foldQ_from f r, e, e2, Int.add_mul, Int.pow_add, Int.mul_assoc, Int.add_assoc]
theorem foldQ_cons (f : Int) (q : Nat × Int) (r : List (Nat × Int)) : foldQ f (q :: r) = q.2 * f ^ grs r + foldQ f r := by
  show r.foldl (fun a q => a * f ^ q.1 + q.2) (0 * f ^ q.1 + q.2) = _
  rw [foldQ_from f r]; simp
theorem foldQ_snoc (f : Int) (qs : List (Nat × Int)) (q : Nat × Int) : foldQ f (qs ++ [q]) = foldQ f qs * f ^ q.1 + q.2 := by
  simp [foldQ, List.foldl_append]
/-- texts that hold numbers in groups -/
structure Texts (B : Int) (sgn : Nat) (Tx : List UInt8 → Nat → Int → Prop) : Prop where
  len : ∀ {x g n}, Tx x g n → x.length = g * sgn
  bnd : ∀ {x g n}, Tx x g n → 0 ≤ n ∧ n < B ^ g
  hi : ∀ {x g n} (c : Nat), Tx x g n → c ≤ g → Tx (x.take ((g - c) * sgn)) (g - c) (n / B ^ c)
  lo : ∀ {x g n} (c : Nat), Tx x g n → c ≤ g → Tx (x.drop ((g - c) * sgn)) c (n % B ^ c)
inductive Al (Tx : List UInt8 → Nat → Int → Prop) : List (List UInt8) → List (Nat × Int) → Prop
  | nil : Al Tx [] []
  | cons {p : List UInt8} {g : Nat} {v : Int} {ps : List (List UInt8)} {qs : List (Nat × Int)} : Tx p g v → Al Tx ps qs → Al Tx (p :: ps) ((g, v) :: qs)
def SOK (ys : Nat → Option Int) (sgn : Nat) : List Nat → Nat → Nat → Prop
  | [], _, m => m = 0
  | c :: r, i, m => m = 0 ∨ (1 ≤ c ∧ ((ys i = some ((c * sgn : Nat) : Int) ∧ SOK ys sgn r (i + 1) (m - c)) ∨ (ys i = none ∧ m ≤ c)))
theorem cut_fold {B f : Int} {sgn : Nat} {Tx : List UInt8 → Nat → Int → Prop} (hT : Texts B sgn Tx) (hB : 0 < B) (hs : 0 < sgn) {ys : Nat → Option Int} : ∀ (fuel i : Nat) (cl : List Nat) (t : List UInt8) (m : Nat) (n : Int) (ps : List (List UInt8)) (qs : List (Nat × Int)), Tx t m n → Al Tx ps qs → m < fuel → SOK ys sgn cl i m →
    ∃ qs', Al Tx (cutN ys fuel i t ps) qs' ∧ foldQ f qs' = dueL B f cl n * f ^ grs qs + foldQ f qs ∧ ∀ q ∈ qs', q ∈ qs ∨ (1 ≤ q.1 ∧ q.1 ≤ m)
  | 0, _, _, _, _, _, _, _, _, _, h, _ => absurd h (Nat.not_lt_zero _)
  | fuel + 1, i, cl, t, m, n, ps, qs, hx, ha, hm, hsok => by
    have hl := hT.len hx
    have hb := hT.bnd hx
    by_cases h0 : m = 0
    · subst h0
      have ht : t = [] := List.length_eq_zero_iff.mp (by rw [hl, Nat.zero_mul])
      subst ht
      have hn : n = 0 := by have := hb.2; simp at this; omega
      subst hn
      refine ⟨qs, ?_, by rw [dueL_zero]; simp, fun q hq => .inl hq⟩
      cases hy : ys i with
      | none => rw [cutN_none hy, if_pos rfl]; exact ha
      | some k => rw [cutN_some hy, if_pos rfl]; exact ha
    · have htn : t ≠ [] := fun e => by
        rw [e] at hl
        rcases Nat.mul_eq_zero.mp hl.symm with h | h
        · exact h0 h
        · omega
      cases cl with
      | nil => exact absurd hsok h0
      | cons c r =>
        rcases hsok with h | ⟨hc, ⟨hy, hr⟩ | ⟨hy, hmc⟩⟩
        · exact absurd h h0
        · rw [cutN_some hy, if_neg htn, Int.toNat_natCast, hl]
          by_cases hcm : c ≤ m
          · have e : m * sgn - c * sgn = (m - c) * sgn := (Nat.sub_mul _ _ _).symm
            rw [e]
            obtain ⟨qs', h1, h2, h3⟩ := cut_fold hT hB hs (f := f) fuel (i + 1) r _ (m - c) _ _ _ (hT.hi c hx hcm) (.cons (hT.lo c hx hcm) ha) (by omega) hr
            refine ⟨qs', h1, ?_, fun q hq => ?_⟩
            · rw [h2, foldQ_cons]
              rw [dueL_cons]
              have e2 : grs ((c, n % B ^ c) :: qs) = c + grs qs := by simp [grs]
              rw [e2, Int.pow_add, Int.add_mul]
              rw [← Int.mul_assoc, Int.mul_comm (dueL B f r (n / B ^ c)) (f ^ c)]
              dsimp only
              omega
            · rcases h3 q hq with h | ⟨h4, h5⟩
              · rcases List.mem_cons.mp h with rfl | h
                · exact .inr ⟨hc, hcm⟩
                · exact .inl h
              · exact .inr ⟨h4, by omega⟩
          · have e : m * sgn - c * sgn = 0 := Nat.sub_eq_zero_of_le (Nat.mul_le_mul_right _ (by omega))
            have hlt : n < B ^ c := by
              have h1 := hb.2
              have h2 : B ^ m ≤ B ^ c := by
                obtain ⟨d, rfl⟩ := Nat.exists_eq_add_of_le (show m ≤ c by omega)
                rw [Int.pow_add]
                have h3 : 1 ≤ B ^ d := pow_pos' hB d
                have h4 : B ^ m * 1 ≤ B ^ m * B ^ d := Int.mul_le_mul_of_nonneg_left h3 (Int.le_of_lt (pow_pos' hB m))
                omega
              omega
            have e1 : n % B ^ c = n := Int.emod_eq_of_lt hb.1 hlt
            have e2 : n / B ^ c = 0 := Int.ediv_eq_zero_of_lt hb.1 hlt
            rw [e, List.take_zero, List.drop_zero]
            have hx0 := hT.hi m hx (Nat.le_refl _)
            rw [Nat.sub_self, Nat.zero_mul, List.take_zero, Int.ediv_eq_zero_of_lt hb.1 hb.2] at hx0
            rw [show m - c = 0 by omega] at hr
            obtain ⟨qs', h1, h2, h3⟩ := cut_fold hT hB hs (f := f) fuel (i + 1) r _ 0 _ _ _ hx0 (.cons hx ha) (by omega) hr
            refine ⟨qs', h1, ?_, fun q hq => ?_⟩
            · rw [h2, foldQ_cons, dueL_zero]
              rw [dueL_cons]
              rw [e1, e2, dueL_zero]; simp
            · rcases h3 q hq with h | ⟨h4, h5⟩
              · rcases List.mem_cons.mp h with rfl | h
                · exact .inr ⟨by show 1 ≤ m; omega, Nat.le_refl _⟩
                · exact .inl h
              · omega
        · rw [cutN_none hy, if_neg htn]
          have hlt : n < B ^ c := by
            have h1 := hb.2
            have h2 : B ^ m ≤ B ^ c := by
              obtain ⟨d, rfl⟩ := Nat.exists_eq_add_of_le hmc
              rw [Int.pow_add]
              have h3 : 1 ≤ B ^ d := pow_pos' hB d
              have h4 : B ^ m * 1 ≤ B ^ m * B ^ d := Int.mul_le_mul_of_nonneg_left h3 (Int.le_of_lt (pow_pos' hB m))
              omega
            omega
          refine ⟨(m, n) :: qs, .cons hx ha, ?_, fun q hq => ?_⟩
          · rw [foldQ_cons]
            rw [dueL_cons]
            rw [Int.emod_eq_of_lt hb.1 hlt, Int.ediv_eq_zero_of_lt hb.1 hlt, dueL_zero]; simp
          · rcases List.mem_cons.mp hq with rfl | h
            · exact .inr ⟨by show 1 ≤ m; omega, Nat.le_refl _⟩
            · exact .inl h
/-- the counts that _law_due goes through -/
def clOf (cs : List Nat) (es : List Int) : List Nat := if es = [0] then cs ++ List.replicate 6 (cs.getLastD 0) else cs ++ [6]
theorem sok_rep {ys : Nat → Option Int} {sgn l : Nat} (hl : 1 ≤ l) : ∀ (k i m : Nat), (∀ d, ys (i + d) = some ((l * sgn : Nat) : Int)) → m ≤ k → SOK ys sgn (List.replicate k l) i m
  | 0, _, m, _, h => by simpa [SOK] using h
  | k + 1, i, m, hy, h => by
    rw [List.replicate_succ]
    exact .inr ⟨hl, .inl ⟨hy 0, sok_rep hl k (i + 1) (m - l) (fun d => by rw [show i + 1 + d = i + (d + 1) by omega]; exact hy (d + 1)) (by omega)⟩⟩
theorem sok_gen {ys : Nat → Option Int} {sgn : Nat} {es : List Int} (hs : 0 < sgn) (h2 : sgn % 2 = 0) (he : es = [0] ∨ es = [127, 0] ∨ es = []) : ∀ (cs : List Nat) (l i m : Nat), (∀ c ∈ cs, 1 ≤ c) → 1 ≤ l → m ≤ 6 →
    (∀ d, ys (i + d) = gstream ((cs.map fun c => ((c * sgn : Nat) : Int)) ++ es) (some ((l * sgn : Nat) : Int)) d) → SOK ys sgn (cs ++ (if es = [0] then List.replicate 6 (cs.getLastD l) else [6])) i m
  | [], l, i, m, _, hl, hm, hy => by
    rcases he with rfl | rfl | rfl
    · rw [if_pos rfl]
      exact sok_rep hl 6 i m (fun d => by rw [hy]; rfl) hm
    · rw [if_neg (by decide)]
      exact .inr ⟨by decide, .inr ⟨by have := hy 0; rw [Nat.add_zero] at this; rw [this]; rfl, hm⟩⟩
    · rw [if_neg (by decide)]
      exact .inr ⟨by decide, .inr ⟨by have := hy 0; rw [Nat.add_zero] at this; rw [this]; rfl, hm⟩⟩
  | c :: cs, l, i, m, hc, hl, hm, hy => by
    have h1 := hc c (.head _)
    have hne : ((c * sgn : Nat) : Int) ≠ 0 := by have := Nat.mul_pos h1 hs; omega
    have h127 : ((c * sgn : Nat) : Int) ≠ 127 := by
      have : (c * sgn) % 2 = 0 := by rw [Nat.mul_mod, h2]; simp
      omega
    have hg : ∀ d, gstream (((c :: cs).map fun c => ((c * sgn : Nat) : Int)) ++ es) (some ((l * sgn : Nat) : Int)) d = match d with | 0 => some ((c * sgn : Nat) : Int) | d + 1 => gstream ((cs.map fun c => ((c * sgn : Nat) : Int)) ++ es) (some ((c * sgn : Nat) : Int)) d := fun d => by
      show (if ((c * sgn : Nat) : Int) = 127 then none else if ((c * sgn : Nat) : Int) = 0 then some ((l * sgn : Nat) : Int) else match d with | 0 => some ((c * sgn : Nat) : Int) | d + 1 => gstream ((cs.map fun c => ((c * sgn : Nat) : Int)) ++ es) (some ((c * sgn : Nat) : Int)) d) = _
      rw [if_neg h127, if_neg hne]
    have ih := sok_gen (ys := ys) hs h2 he cs c (i + 1) (m - c) (fun x hx => hc x (.tail _ hx)) h1 (by omega) (fun d => by rw [show i + 1 + d = i + (d + 1) by omega, hy, hg])
    have e : (c :: cs).getLastD l = cs.getLastD c := by cases cs <;> rfl
    rw [e]
    exact .inr ⟨h1, .inl ⟨by have := hy 0; rw [Nat.add_zero, hg] at this; exact this, ih⟩⟩
theorem sok_of {sgn : Nat} {es : List Int} (hs : 0 < sgn) (h2 : sgn % 2 = 0) (he : es = [0] ∨ es = [127, 0] ∨ es = []) {c : Nat} {cs : List Nat} (hc : ∀ x ∈ c :: cs, 1 ≤ x) {m : Nat} (hm : m ≤ 6) :
    SOK (gstream (((c :: cs).map fun c => ((c * sgn : Nat) : Int)) ++ es) none) sgn (clOf (c :: cs) es) 0 m := by
  have h1 := hc c (.head _)
  have hne : ((c * sgn : Nat) : Int) ≠ 0 := by have := Nat.mul_pos h1 hs; omega
  have h127 : ((c * sgn : Nat) : Int) ≠ 127 := by
    have : (c * sgn) % 2 = 0 := by rw [Nat.mul_mod, h2]; simp
    omega
  have hg : ∀ l, gstream (((c :: cs).map fun c => ((c * sgn : Nat) : Int)) ++ es) none = gstream (((c :: cs).map fun c => ((c * sgn : Nat) : Int)) ++ es) l := fun l => by
    funext d
    show (if ((c * sgn : Nat) : Int) = 127 then none else if ((c * sgn : Nat) : Int) = 0 then none else match d with | 0 => some ((c * sgn : Nat) : Int) | d + 1 => gstream ((cs.map fun c => ((c * sgn : Nat) : Int)) ++ es) (some ((c * sgn : Nat) : Int)) d) = (if ((c * sgn : Nat) : Int) = 127 then none else if ((c * sgn : Nat) : Int) = 0 then l else match d with | 0 => some ((c * sgn : Nat) : Int) | d + 1 => gstream ((cs.map fun c => ((c * sgn : Nat) : Int)) ++ es) (some ((c * sgn : Nat) : Int)) d)
    rw [if_neg h127, if_neg hne, if_neg h127, if_neg hne]
  have := sok_gen (ys := gstream (((c :: cs).map fun c => ((c * sgn : Nat) : Int)) ++ es) none) hs h2 he (c :: cs) 1 0 m hc (Nat.le_refl _) hm (fun d => by rw [Nat.zero_add]; exact congrFun (hg _) d)
  have e : (c :: cs).getLastD 1 = (c :: cs).getLastD 0 := by cases cs <;> rfl
  unfold clOf
  rw [e] at this
  split at this
  · rw [if_pos (by assumption)]; exact this
  · rw [if_neg (by assumption)]; exact this
theorem sum_rep (k l : Nat) : (List.replicate k l).sum = k * l := by
  induction k with
  | zero => simp
  | succ k ih => rw [List.replicate_succ, List.sum_cons, ih, Nat.succ_mul]; omega
theorem clOf_sum {cs : List Nat} {es : List Int} (hc : ∀ x ∈ cs, 1 ≤ x) (hne : cs ≠ []) : 6 ≤ (clOf cs es).sum := by
  unfold clOf
  split
  · rw [List.sum_append, sum_rep]
    obtain ⟨c, r, rfl⟩ : ∃ c r, cs = c :: r := List.exists_cons_of_ne_nil hne
    have : 1 ≤ (c :: r).getLastD 0 := hc _ (by
      rw [List.getLastD_cons]
      cases r with
      | nil => exact .head _
      | cons d r' => rw [List.getLastD_cons]; exact .tail _ (by
          have : ∀ (r : List Nat) (d : Nat), r.getLastD d ∈ d :: r := fun r => by
            induction r with
            | nil => intro d; exact .head _
            | cons e r ih => intro d; rw [List.getLastD_cons]; exact .tail _ (ih e)
          exact this r' d))
    omega
  · rw [List.sum_append]; simp
theorem final_mod {B f n r : Int} (hf : 0 < f) (h2 : 2 * f < B) (h0 : 0 ≤ r) (h1 : r < B) (hd : (B - f) ∣ n - r) : (if B - f ≤ r then r - (B - f) else r) = n % (B - f) := by
  obtain ⟨k, hk⟩ := hd
  have e : n = r + (B - f) * k := by omega
  rw [e, Int.add_mul_emod_self_left]
  split
  · have e2 : r % (B - f) = (r - (B - f)) % (B - f) := by rw [Int.sub_emod_right]
    rw [e2, Int.emod_eq_of_lt (by omega) (by omega)]
  · rw [Int.emod_eq_of_lt (by omega) (by omega)]
theorem cut_fold1 {B f : Int} {sgn : Nat} {Tx : List UInt8 → Nat → Int → Prop} (hT : Texts B sgn Tx) (hB : 0 < B) (hs : 0 < sgn) {ys : Nat → Option Int} {fuel : Nat} {r : List Nat} {x : List UInt8} {n : Int} (hx : Tx x 2 n) (hf : 2 < fuel) (hsok : SOK ys sgn (1 :: r) 0 2) :
    ∃ qs', Al Tx (cutN ys fuel 0 x []) qs' ∧ foldQ f qs' = dueL B f (1 :: r) n ∧ ∀ q ∈ qs', q.1 = 1 := by
  obtain ⟨k, rfl⟩ : ∃ k, fuel = k + 1 := ⟨fuel - 1, by omega⟩
  rcases hsok with h | ⟨_, ⟨hy, hr⟩ | ⟨_, h⟩⟩
  · cases h
  · have hl := hT.len hx
    have hne : x ≠ [] := fun e => by rw [e] at hl; simp at hl; omega
    rw [cutN_some hy, if_neg hne, Int.toNat_natCast, hl, ← Nat.sub_mul]
    obtain ⟨qs', h1, h2, h3⟩ := cut_fold hT hB hs (f := f) k (0 + 1) r _ (2 - 1) _ _ _ (hT.hi 1 hx (by decide)) (.cons (hT.lo 1 hx (by decide)) .nil) (by omega) hr
    refine ⟨qs', h1, ?_, fun q hq => ?_⟩
    · rw [h2, foldQ_cons, dueL_cons, Int.mul_comm]
      simp [grs, foldQ]
      omega
    · rcases h3 q hq with h | h
      · rw [List.mem_singleton.mp h]
      · omega
  · omega
-- needs: base leaf bi loops value row seg gen gen2 geni cut plain a2bh b64e
theorem getD_take {l : List UInt8} {k j : Nat} (h : j < k) : (l.take k).getD j 0 = l.getD j 0 := by
  rw [List.getD_eq_getElem?_getD, List.getD_eq_getElem?_getD, List.getElem?_take_of_lt h]
theorem getD_drop {l : List UInt8} {k j : Nat} : (l.drop k).getD j 0 = l.getD (k + j) 0 := by
  rw [List.getD_eq_getElem?_getD, List.getD_eq_getElem?_getD, List.getElem?_drop]
theorem HexOf.take {x b : List UInt8} (h : HexOf x b) (k : Nat) (hk : k ≤ b.length) : HexOf (x.take (2 * k)) (b.take k) := by
  refine ⟨by rw [List.length_take, List.length_take, h.1]; omega, fun j hj i hi => ?_⟩
  rw [List.length_take] at hj
  have := h.2 j (by omega) i hi
  rw [getD_take (by omega), getD_take (by omega)]
  exact this
theorem HexOf.drop {x b : List UInt8} (h : HexOf x b) (k : Nat) (hk : k ≤ b.length) : HexOf (x.drop (2 * k)) (b.drop k) := by
  refine ⟨by rw [List.length_drop, List.length_drop, h.1]; omega, fun j hj i hi => ?_⟩
  rw [List.length_drop] at hj
  have := h.2 (k + j) (by omega) i hi
  rw [getD_drop, getD_drop, show 2 * k + (2 * j + i) = 2 * (k + j) + i by omega]
  exact this
theorem val_split (b : List UInt8) (k : Nat) (hk : k ≤ b.length) : val256 (octs (b.take (b.length - k))) = val256 (octs b) / 256 ^ k ∧ val256 (octs (b.drop (b.length - k))) = val256 (octs b) % 256 ^ k := by
  have e : octs b = octs (b.take (b.length - k)) ++ octs (b.drop (b.length - k)) := by rw [← List.map_append, List.take_append_drop]
  have hb := val256_bounds (b.drop (b.length - k))
  have hd : (b.drop (b.length - k)).length = k := by rw [List.length_drop]; omega
  rw [hd] at hb
  have hp := pow256_pos k
  have e2 : val256 (octs b) = val256 (octs (b.drop (b.length - k))) + 256 ^ k * val256 (octs (b.take (b.length - k))) := by
    rw [e, val256_append, List.length_map, hd, Int.mul_comm, Int.add_comm]
  have := (Int.ediv_emod_unique hp).mpr ⟨e2.symm, hb.1, hb.2⟩
  exact ⟨this.1.symm, this.2.symm⟩
/-- a text in base 16 that holds n in g groups of u octets -/
def Tx16 (u : Nat) (x : List UInt8) (g : Nat) (n : Int) : Prop := ∃ b : List UInt8, HexOf x b ∧ b.length = u * g ∧ val256 (octs b) = n
theorem texts16 (u : Nat) : Texts (256 ^ u) (2 * u) (Tx16 u) where
  len := by
    rintro x g n ⟨b, h, hl, _⟩
    rw [h.1, hl, Nat.mul_comm g, Nat.mul_assoc]
  bnd := by
    rintro x g n ⟨b, h, hl, rfl⟩
    have := val256_bounds b
    rw [hl, Int.pow_mul] at this
    exact this
  hi := by
    rintro x g n c ⟨b, h, hl, rfl⟩ hc
    have hcu : u * c ≤ u * g := Nat.mul_le_mul_left _ hc
    have e : b.length - u * c = u * (g - c) := by rw [hl, Nat.mul_sub]
    refine ⟨b.take (u * (g - c)), ?_, by rw [List.length_take, hl, Nat.min_eq_left (Nat.mul_le_mul_left _ (Nat.sub_le _ _))], ?_⟩
    · rw [show (g - c) * (2 * u) = 2 * (u * (g - c)) by rw [Nat.mul_comm, Nat.mul_assoc]]
      exact h.take _ (by rw [← e]; omega)
    · rw [← e, (val_split b (u * c) (by omega)).1, Int.pow_mul]
  lo := by
    rintro x g n c ⟨b, h, hl, rfl⟩ hc
    have hcu : u * c ≤ u * g := Nat.mul_le_mul_left _ hc
    have e : b.length - u * c = u * (g - c) := by rw [hl, Nat.mul_sub]
    refine ⟨b.drop (u * (g - c)), ?_, by rw [List.length_drop, hl, ← Nat.mul_sub, Nat.sub_sub_self hc], ?_⟩
    · rw [show (g - c) * (2 * u) = 2 * (u * (g - c)) by rw [Nat.mul_comm, Nat.mul_assoc]]
      exact h.drop _ (by rw [← e]; omega)
    · rw [← e, (val_split b (u * c) (by omega)).2, Int.pow_mul]
/-- a text in base 64 that holds n in g groups of three octets -/
def Tx64 (x : List UInt8) (g : Nat) (n : Int) : Prop := x.length = g * 4 ∧ (0 ≤ n ∧ n < (256 ^ 3) ^ g) ∧ ∀ i, i < g * 4 → ((x.getD i 0).toNat : Int) = sg (n / 64 ^ (g * 4 - 1 - i) % 64)
theorem p64 (c : Nat) : ((256 : Int) ^ 3) ^ c = 64 ^ (4 * c) := by
  rw [show ((256 : Int) ^ 3) = 64 ^ 4 by decide, ← Int.pow_mul]
theorem sub3 {C D i : Nat} (h : i < D) : C + (D - 1 - i) = C + D - 1 - i := by
  rw [Nat.sub_sub, Nat.sub_sub, Nat.add_sub_assoc (by rw [Nat.add_comm]; exact h)]
theorem texts64 : Texts (256 ^ 3) 4 Tx64 where
  len := fun h => h.1
  bnd := fun h => h.2.1
  hi := by
    rintro x g n c ⟨hl, hb, hx⟩ hc
    obtain ⟨d, rfl⟩ := Nat.exists_eq_add_of_le hc
    rw [Nat.add_sub_cancel_left]
    have hle : d * 4 ≤ (c + d) * 4 := Nat.mul_le_mul_right _ (Nat.le_add_left _ _)
    refine ⟨by rw [List.length_take, hl, Nat.min_eq_left hle], ⟨Int.ediv_nonneg hb.1 (Int.le_of_lt (pow_pos' (by decide) c)), ?_⟩, fun i hi => ?_⟩
    · refine Int.ediv_lt_of_lt_mul (pow_pos' (by decide) c) ?_
      rw [← Int.pow_add, Nat.add_comm d c]; exact hb.2
    · rw [getD_take hi, hx i (Nat.lt_of_lt_of_le hi hle), p64, Int.ediv_ediv_of_nonneg (Int.le_of_lt (pow_pos' (by decide) _)), ← Int.pow_add]
      rw [sub3 hi, Nat.mul_comm 4 c, ← Nat.add_mul]
  lo := by
    rintro x g n c ⟨hl, hb, hx⟩ hc
    obtain ⟨d, rfl⟩ := Nat.exists_eq_add_of_le hc
    rw [Nat.add_sub_cancel_left]
    refine ⟨by rw [List.length_drop, hl, Nat.add_mul, Nat.add_sub_cancel], ⟨Int.emod_nonneg _ (Int.ne_of_gt (pow_pos' (by decide) c)), Int.emod_lt_of_pos _ (pow_pos' (by decide) c)⟩, fun i hi => ?_⟩
    rw [getD_drop, hx _ (by rw [Nat.add_mul, Nat.add_comm]; exact Nat.add_lt_add_right hi _), p64]
    rw [show (c + d) * 4 - 1 - (d * 4 + i) = c * 4 - 1 - i by rw [Nat.add_mul, Nat.sub_sub, Nat.sub_sub, Nat.add_comm (d * 4) i, ← Nat.add_assoc, Nat.add_sub_add_right]]
    have e : (64 : Int) ^ (4 * c) = 64 ^ (c * 4 - 1 - i) * (64 * 64 ^ i) := by
      rw [show (64 : Int) * 64 ^ i = 64 ^ (i + 1) by rw [Int.pow_succ, Int.mul_comm], ← Int.pow_add, show c * 4 - 1 - i + (i + 1) = 4 * c by rw [Nat.sub_sub, Nat.add_comm 1 i, Nat.sub_add_cancel hi, Nat.mul_comm]]
    rw [e, mod_div64 _ _ _ (pow_pos' (by decide) _)]
theorem tx16_of {u g : Nat} {b : List UInt8} (h : b.length = u * g) : Tx16 u (hexU b) g (val256 (octs b)) := ⟨b, hexU_of b, h, rfl⟩
theorem tx64_of {b x : List UInt8} (h : b.length = 6) (hx : octs x = outs (val256 (octs b)) 8) : Tx64 x 2 (val256 (octs b)) := by
  have hl : x.length = 8 := by have := congrArg List.length hx; rw [outs_length] at this; simpa using this
  have hb := val256_bounds b
  rw [h] at hb
  refine ⟨hl, ⟨hb.1, by simpa using hb.2⟩, fun i hi => ?_⟩
  have e : ((x.getD i 0).toNat : Int) = (octs x).getD i 0 := by
    rw [List.getD_eq_getElem?_getD, List.getD_eq_getElem?_getD, octs, List.getElem?_map, List.getElem?_eq_getElem (by omega)]; rfl
  rw [e, hx, List.getD_eq_getElem?_getD, outs, List.getElem?_map, List.getElem?_range (by omega)]
  rfl
theorem tx64_one {x : List UInt8} {v : Int} (h : Tx64 x 1 v) : octs x = [sg (v / 262144 % 64), sg (v / 4096 % 64), sg (v / 64 % 64), sg (v % 64)] ∧ v = v / 262144 % 64 * 262144 + v / 4096 % 64 * 4096 + v / 64 % 64 * 64 + v % 64 := by
  obtain ⟨hl, hb, hx⟩ := h
  have hb2 : v < 16777216 := by have := hb.2; simpa using this
  refine ⟨?_, ?_⟩
  rotate_left
  · have e1 : v / 4096 = v / 64 / 64 := by rw [Int.ediv_ediv_of_nonneg (by decide)]; rfl
    have e2 : v / 262144 = v / 4096 / 64 := by rw [Int.ediv_ediv_of_nonneg (by decide)]; rfl
    have e3 : v / 262144 % 64 = v / 262144 := Int.emod_eq_of_lt (Int.ediv_nonneg hb.1 (by decide)) (Int.ediv_lt_of_lt_mul (by decide) hb2)
    have f1 := Int.emod_add_mul_ediv v 64
    have f2 := Int.emod_add_mul_ediv (v / 64) 64
    have f3 := Int.emod_add_mul_ediv (v / 4096) 64
    rw [← e1] at f2
    rw [← e2] at f3
    rw [e3]
    generalize v / 262144 = c at *
    generalize v / 4096 % 64 = c1 at *
    generalize v / 4096 = c4 at *
    generalize v / 64 % 64 = c2 at *
    generalize v / 64 = c5 at *
    generalize v % 64 = c3 at *
    clear hb hx hl e1 e2 e3 hb2
    omega
  have h0 := hx 0 (by decide)
  have h1 := hx 1 (by decide)
  have h2 := hx 2 (by decide)
  have h3 := hx 3 (by decide)
  match x, hl with
  | [a, b, c, d], _ =>
    simp only [List.getD_cons_zero, List.getD_cons_succ] at h0 h1 h2 h3
    simp only [octs, List.map_cons, List.map_nil]
    rw [h0, h1, h2, h3]
    simp
theorem by_al {Tx : List UInt8 → Nat → Int → Prop} {ps : List (List UInt8)} {qs : List (Nat × Int)} (ha : Al Tx ps qs) : ∀ {pv : List Value}, ByAre pv ps → pv.length = qs.length ∧ ∀ (i : Nat) (v : Value), pv[i]? = some v → ∃ p t g z, v = Value.bytes (List.toArray p) t ∧ qs[i]? = some (g, z) ∧ Tx p g z := by
  induction ha with
  | nil => intro pv h; cases h; exact ⟨rfl, fun i v e => by cases e⟩
  | cons hx _ ih =>
    intro pv h
    cases h with
    | cons b t h' =>
      obtain ⟨h1, h2⟩ := ih h'
      refine ⟨by simp [h1], fun i v e => ?_⟩
      cases i with
      | zero => cases e; exact ⟨_, t, _, _, rfl, rfl, hx⟩
      | succ i => exact h2 i v e
theorem oct_val (b : List UInt8) (j : Nat) (v : Value) (h : ∃ u, v = Value.int ((b.getD j 0).toNat : Int) u) : ∃ u, v = Value.int ((octs b).getD j 0) u := by
  obtain ⟨t, rfl⟩ := h
  refine ⟨t, congrArg (fun z => Value.int z t) ?_⟩
  rw [octs, List.getD_eq_getElem?_getD, List.getD_eq_getElem?_getD, List.getElem?_map]
  cases b[j]? <;> rfl
theorem oct_goes (b : List UInt8) (t : Tok) (news : List (Addr × Obj)) : GoesOn news (.bytes b.toArray t) (octs b).length (fun i v => ∃ u, v = .int ((b.getD i 0).toNat : Int) u) (fun i io => io.cls = .type "bytes_iterator" ∧ io.data = .fields #[.bytes b.toArray t, .int i 0]) := by
  rw [show (octs b).length = b.length from List.length_map _]; exact goes_bytes b t
-- needs: base loops
section
variable {prog : Program} {w : World} {A : Around} {s : Shared} {h₀ : Heap} {L : Addr} {m : Str → Option Value} {env : Env} {elt : Expr} {x : Str} {scope : Scope} {cl : List (Str × Addr)} {S : List (Addr × Obj) → Prop} {P : Nat → Value → Prop} {Fin : List Value → List (Addr × Obj) → Prop} {news : List (Addr × Obj)} {n : Nat}
/-- a comprehension whose element leaves the ledger alone -/
theorem comp_all (Val : Nat → Value → Prop) (hS : S news)
    (step : ∀ i v I oI C oC D m₂ h tk ys (E' : Value → Shared → Prop), i < n → P i v → LCg.NsObj oC m₂ → m₂ x = some v → Fr h₀ L h m → News h₀ L h ((I, oI) :: (C, oC) :: (D, LCg.lst ys) :: news) →
      wpAny (model prog w) A (eval elt (compEnvC scope cl C env)) (fun y s' => Held (∃ h' tk', s' = { s with heap := h', toks := tk' } ∧ Fr h₀ L h' m ∧ News h₀ L h' ((I, oI) :: (C, oC) :: (D, LCg.lst ys) :: news) ∧ Val i y)) E' { s with heap := h, toks := tk })
    (fin : ∀ ys, ys.length = n → (∀ i y, ys[i]? = some y → Val i y) → Fin ys news) : LCg.CompRest prog w A h₀ L m env elt x scope cl s S P Fin n 0 [] news := by
  suffices H : ∀ k i ys, i + k = n → ys.length = i → (∀ j y, ys[j]? = some y → Val j y) → LCg.CompRest prog w A h₀ L m env elt x scope cl s S P Fin k i ys news from H n 0 [] (Nat.zero_add _) rfl (fun j y e => by cases e)
  intro k
  induction k with
  | zero => intro i ys hi hl hv; exact .zero (fin ys (by omega) hv)
  | succ k ih =>
    intro i ys hi hl hv
    refine .succ fun v I oI C oC D m₂ h tk E' hP hC hx F N off ne => ?_
    refine wpAny_mono (step i v I oI C oC D m₂ h tk ys E' (by omega) hP hC hx F N) (fun y s' h' => ?_) fun _ _ e => e
    obtain ⟨⟨h2, tk2, rfl, F2, N2, hval⟩⟩ := h'
    refine ⟨h2, tk2, news, rfl, F2, N2, off, hS, ih (i + 1) (ys ++ [y]) (by omega) (by simp [hl]) fun j z e => ?_⟩
    by_cases hj : j < ys.length
    · rw [List.getElem?_append_left hj] at e; exact hv j z e
    · rw [List.getElem?_append_right (by omega)] at e
      have : j - ys.length = 0 := by
        apply Nat.eq_zero_of_not_pos
        intro h0
        rw [List.getElem?_eq_none (by simp; omega)] at e; cases e
      rw [this] at e
      cases e
      have : j = i := by omega
      rw [this]; exact hval
theorem ia_of : ∀ {ys : List Value} {ns : List Int}, ys.length = ns.length → (∀ i y, ys[i]? = some y → ∃ t, y = Value.int (ns.getD i 0) t) → IntsAre ys ns
  | [], [], _, _ => .nil
  | y :: ys, n :: ns, hl, h => by
    obtain ⟨t, rfl⟩ := h 0 y rfl
    exact .cons n t (ia_of (by simpa using hl) fun i z e => h (i + 1) z e)
end
theorem ia_app : ∀ {ys zs : List Value} {ns ms : List Int}, IntsAre ys ns → IntsAre zs ms → IntsAre (ys ++ zs) (ns ++ ms)
  | _, _, _, _, .nil, h => h
  | _, _, _, _, .cons n t h, h' => .cons n t (ia_app h h')
theorem make_ints {prog : Program} {w : World} {A : Around} {E : Value → Shared → Prop} {s : Shared} {h₀ : Heap} {L D : Addr} {m : Str → Option Value} {nwA news : List (Addr × Obj)} {ws : List Value} {ks : List Int} {ep : Nat} {Q : Value → Shared → Prop} (hI : IntsAre ws ks) (F : Fr h₀ L s.heap m) (N : News h₀ L s.heap ((D, W.listOf ws.toArray ep) :: nwA)) (hs : ∀ q ∈ news, q ∈ nwA)
    (k : ∀ it io D ws ep nwB h', IntsAre ws ks → (D, W.listOf ws.toArray ep) ∈ nwB → (∀ q ∈ news, q ∈ nwB) → Fr h₀ L h' m → News h₀ L h' ((it, io) :: nwB) → (∀ p ∈ nwB, p.1 < it) → (io.cls = .type "list_iterator" ∧ io.data = .fields #[.ref D, .int ((0 : Nat) : Int) 0]) → Q (.ref it) { s with heap := h' }) : wpAny (model prog w) A (pyIter (.ref D)) Q E s :=
  (goes_list (vs := ws) (.head _)).make F N fun it io h' F' N' hlt hP => k it io D ws ep _ h' hI (.head _) (fun q hq => .tail _ (hs q hq)) F' N' hlt hP
/-- the source of a for over whole numbers, made in a test's two arms -/
def SrcInts (g : Heap) (L : Addr) (m : Str → Option Value) (s₀ : Shared) (news : List (Addr × Obj)) (ks : List Int) (x : Value) (s₁ : Shared) : Prop :=
  ∃ (D : Addr) (ws : List Value) (ep : Nat) (nwB : List (Addr × Obj)) (h1 : Heap) (tk1 : Nat), x = .ref D ∧ s₁ = { s₀ with heap := h1, toks := tk1 } ∧ IntsAre ws ks ∧ (D, W.listOf ws.toArray ep) ∈ nwB ∧ (∀ q ∈ news, q ∈ nwB) ∧ Fr g L h1 m ∧ News g L h1 nwB
theorem iter_ints {prog : Program} {w : World} {A : Around} {E : Value → Shared → Prop} {s s₀ : Shared} {g : Heap} {L : Addr} {m : Str → Option Value} {news : List (Addr × Obj)} {ks : List Int} {t : Sem Value} {Q : Value → Shared → Prop} (_F₀ : Fr g L s.heap m) (src : wpAny (model prog w) A t (SrcInts g L m s₀ news ks) E s)
    (loop : ∀ it io D ws ep nwB h1 tk1, IntsAre ws ks → (D, W.listOf ws.toArray ep) ∈ nwB → (∀ q ∈ news, q ∈ nwB) → Fr g L h1 m → News g L h1 ((it, io) :: nwB) → (∀ p ∈ nwB, p.1 < it) → (io.cls = .type "list_iterator" ∧ io.data = .fields #[.ref D, .int ((0 : Nat) : Int) 0]) → Q (.ref it) { s₀ with heap := h1, toks := tk1 }) :
    wpAny (model prog w) A t (fun x s₁ => wpAny (model prog w) A (pyIter x) Q E s₁) E s :=
  wpAny_mono src (fun _ _ ⟨D, ws, ep, nwB, h1, tk1, e1, e2, hI, hD, hs, F, N⟩ => by
    subst e1 e2
    exact (goes_list (vs := ws) hD).make F N fun it io h' F' N' hlt hP => loop it io D ws ep nwB h' tk1 hI hD hs F' N' hlt hP) fun _ _ e => e
-- needs: base loops seg gen gen2 geni cut
/-- the table of a def's codes holds its one lambda's -/
def TabHit (line col : Nat) (qual : Str) (ps : Array Value) (nw : List (Addr × Obj)) : Prop := ∃ (c' : Addr) (oc : Obj) (vs : Array Value) (t : Tok), ps = #[rawInt line, rawInt col, .ref c'] ∧ (c', oc) ∈ nw ∧ oc.data = .fields vs ∧ vs[1]? = some (.str qual t)
theorem TabHit.mono {line col : Nat} {qual : Str} {ps : Array Value} {nw nw' : List (Addr × Obj)} (h : TabHit line col qual ps nw) (hs : ∀ q ∈ nw, q ∈ nw') : TabHit line col qual ps nw' :=
  let ⟨c', oc, vs, t, e, hm, r⟩ := h; ⟨c', oc, vs, t, e, hs _ hm, r⟩
section
variable {M : Model} {A : Around} {E : Value → Shared → Prop} {s : Shared} {h₀ : Heap} {L a c P : Addr} {m mg mb : Str → Option Value} {cn : Str} {cs : Scope} {ccd : Value} {cl : List (Str × Addr)} {nw : List (Addr × Obj)}
  {p : Program} {loose : List Str} {mean : ExcName → Option Value} {name qual : Str} {params : Arguments} {body : Expr} {scope : Scope} {ps : Array Value} {pos : Pos} {firstLine : Nat} {clos : List (Str × Addr)}
theorem mk_lam {Q : Value → Shared → Prop} (F : Fr h₀ L s.heap m) (N : News h₀ L s.heap ((P, tabObj ps) :: nw)) (hnP : ∀ q ∈ nw, q.1 ≠ P) (T : Top p loose mean mg mb h₀) (C : CodeHd h₀ c P) (hcd : ccd = .ref c) (hps : ps = #[] ∨ TabHit pos.line pos.col qual ps nw)
    (hcl : closureFor scope (envX cn cs L a ccd cl) = pure clos)
    (h : ∀ f c' ctv ps' ex oc vs t h' tk, Fr h₀ L h' m → News h₀ L h' ((f, kla_obj name qual params body scope clos ((mg "__name__").getD .none) c' ctv) :: (P, tabObj ps') :: (ex ++ nw)) → TabHit pos.line pos.col qual ps' (ex ++ nw) → (∀ q ∈ ex, q.1 ≠ P) →
      (c', oc) ∈ ex ++ nw → oc.data = .fields vs → vs[1]? = some (.str qual t) → Q (.ref f) { s with heap := h', toks := tk }) :
    wpAny M A (makeFunction name qual params (.expr body) scope (envX cn cs L a ccd cl) [] [] [] pos firstLine) Q E s := by
  rcases hps with rfl | ⟨c', oc, vs, t, rfl, hm, hoc, hv⟩
  · refine kla_nest F N T C hcd (.head hnP) True.intro rfl hcl ?_
    intro f c' oc vs t ctv h' tk F' N' hoc hv hlt hf
    refine h f c' ctv _ [(c', oc)] oc vs t h' tk F' (news_sub N' ?_) ⟨c', oc, vs, t, rfl, .head _, hoc, hv⟩ (fun q hq => ?_) (.head _) hoc hv
    · intro q hq
      simp only [List.mem_cons, List.cons_append, List.nil_append] at hq ⊢
      rcases hq with e | e | e | e <;> simp [e]
    · rw [List.mem_singleton.mp hq]
      exact Nat.ne_of_gt (hlt (P, tabObj #[]) (.head _))
  · refine kla_hit F N T C hcd (.head _) (by simp [TriplesOk, rawInt]) (c' := c') (by simp [codeAmong, rawInt]) hcl ?_
    intro f ctv h' tk F' N' _
    exact h f c' ctv _ [] oc vs t h' tk F' N' ⟨c', oc, vs, t, rfl, hm, hoc, hv⟩ (fun q hq => nomatch hq) hm hoc hv
end
theorem flo {prog : Program} {w : World} {A : Around} {E : Value → Shared → Prop} {s : Shared} {Q : Value → Shared → Prop} {a b q : Int} {t u : Tok} (hb : 0 < b) (hb2 : b < 1000000) (e : a = q * b) (h : Q (.int q s.toks) { s with toks := s.toks + 1 }) : wpAny (model prog w) A (binaryOp .FloorDiv (.int a t) (.int b u)) Q E s :=
  floordiv_int (by omega) (by rw [e, Int.mul_fdiv_cancel _ (by omega)]; exact h) (Or.inl (PyProof.noPylong_small (by omega)))
theorem ne_data {g h : Heap} {L a b : Addr} {o o' : Obj} {l : List (Addr × Obj)} (N : News g L h l) (h1 : (a, o) ∈ l) (h2 : (b, o') ∈ l) (hd : o.data ≠ o'.data) : a ≠ b := fun e => by
  have x := (N _ h1).1
  have y := (N _ h2).1
  dsimp only at x y
  rw [e, y] at x
  cases x
  exact hd rfl
theorem pow_small {f : Int} {g : Nat} (hf : 0 ≤ f ∧ f ≤ 12) (hg : g ≤ 6) : 0 ≤ f ^ g ∧ f ^ g ≤ 2985984 := by
  have h : ∀ k : Nat, 0 ≤ f ^ k ∧ f ^ k ≤ 12 ^ k := fun k => by
    induction k with
    | zero => simp
    | succ k ih =>
      rw [Int.pow_succ, Int.pow_succ]
      exact ⟨Int.mul_nonneg ih.1 hf.1, Int.mul_le_mul ih.2 hf.2 hf.1 (Int.le_trans ih.1 ih.2)⟩
  have h1 := h g
  have h2 : (12 : Int) ^ g ≤ 2985984 := by
    obtain ⟨d, hd⟩ := Nat.exists_eq_add_of_le hg
    have e : (2985984 : Int) = 12 ^ g * 12 ^ d := by rw [← Int.pow_add, ← hd]; rfl
    have h4 : (1 : Int) ≤ 12 ^ d := Int.pow_pos (by decide)
    have h5 := Int.mul_le_mul_of_nonneg_left h4 (Int.le_of_lt (Int.pow_pos (n := 12) (m := g) (by decide)))
    rw [Int.mul_one, ← e] at h5
    exact h5
  exact ⟨h1.1, Int.le_trans h1.2 h2⟩
theorem mul_small (a : Int) {f : Int} {g : Nat} (hf : 0 ≤ f ∧ f ≤ 12) (hg : g ≤ 6) : IntMulOk a (f ^ g) := .of_right (intBits_le_64 (Int.le_trans (by decide) (pow_small hf hg).1) (Int.lt_of_le_of_lt (pow_small hf hg).2 (by decide)))
theorem pow256_log {k : Nat} (h : k ≤ 18) : ((256 : Int) ^ k).natAbs.log2 < 9000 := by
  have e : ((256 : Int) ^ k).natAbs = 2 ^ (8 * k) := by
    rw [Int.natAbs_pow, Nat.pow_mul]; rfl
  rw [e, Nat.log2_two_pow]
  omega
section
variable {prog : Program} {w : World} {A : Around} {E : Value → Shared → Prop} {s : Shared} {Q : Value → Shared → Prop} {a n : Int} {t u : Tok}
theorem pow256 {k : Nat} (e : n = (k : Int)) (hk : k ≤ 18) (h : Q (.int (256 ^ k) s.toks) { s with toks := s.toks + 1 }) : wpAny (model prog w) A (binaryOp .Pow (.int 256 t) (.int n u)) Q E s := by
  subst e
  exact pow_int_small (by omega) (by omega) (by decide) (by rw [Int.toNat_natCast]; exact h)
theorem mod256 {k : Nat} (h : Q (.int (a % 256 ^ k) s.toks) { s with toks := s.toks + 1 }) : wpAny (model prog w) A (binaryOp .Mod (.int a t) (.int (256 ^ k) u)) Q E s :=
  mod_int' (Int.ne_of_gt (Int.pow_pos (by decide))) (by rw [Int.fmod_eq_emod_of_nonneg _ (Int.le_of_lt (Int.pow_pos (by decide)))]; exact h)
theorem div256 {k : Nat} (hk : k ≤ 18) (h : Q (.int (a / 256 ^ k) s.toks) { s with toks := s.toks + 1 }) : wpAny (model prog w) A (binaryOp .FloorDiv (.int a t) (.int (256 ^ k) u)) Q E s :=
  floordiv_int (Int.ne_of_gt (Int.pow_pos (by decide))) (by rw [Int.fdiv_eq_ediv_of_nonneg _ (Int.le_of_lt (Int.pow_pos (by decide)))]; exact h) (Or.inl (PyProof.noPylong_of_log2 (pow256_log hk)))
end
theorem drop_last : ∀ (cs : List Nat) (c : Nat), ((c :: cs).map Int.ofNat).drop (((c :: cs).map Int.ofNat).length - 1) = [Int.ofNat ((c :: cs).getLastD 0)]
  | [], c => rfl
  | d :: r, c => by
    have := drop_last r d
    simpa using this
theorem lastD_mem : ∀ (cs : List Nat) (c d : Nat), (c :: cs).getLastD d ∈ c :: cs
  | [], c, d => .head _
  | e :: r, c, d => .tail _ (by rw [List.getLastD_cons]; exact lastD_mem r e c)
local macro_rules | `(tactic| walk_at "binaryOp FloorDiv int int") => `(tactic| (k_here; (refine flo (by omega) (by omega) (by assumption) ?_)))
local macro_rules | `(tactic| walk_at "binaryOp Pow int int") => `(tactic| (k_here; (refine pow_int_small (by omega) (by omega) (by omega) ?_)))
local macro_rules | `(tactic| walk_at "eval Lambda") => `(tactic| (refine hold ?_))
local macro_rules | `(tactic| walk_at "assign Tuple") => `(tactic| (k_here; k_dflt (refine unpackN_ (by k_asm) (by k_asm) (by kun_tup) (by assumption) (by exact rfl) (by exact rfl) ?_); intro _ _ _; (try k_sweep)))
-- needs: base leaf bi loops reduce value row seg gen gen2 geni cut plain comp lam a2bh b16e b16d b64e b64f b64d texts
abbrev roadOf (u sn : Int) (t1 t2 : Tok) (wr rd : Addr) : Obj := { cls := .type "tuple", data := .seq [.int u t1, .int sn t2, .ref wr, .ref rd].toArray }
abbrev lamq2 : Str := (Str.ofString "_law_folded" ++ Str.ofString ".<locals>.") ++ Str.ofString "<lambda>"
section
variable {w : World} {p : Program} {loose : List Str} {mean : ExcName → Option Value} {mg mb : Str → Option Value} {A : Around} {env : Env} {outer : List Env} {A₀ : Around} {base h₀ : Heap} {L : Addr} {m : Str → Option Value} {news : List (Addr × Obj)} {s : Shared} {Q E : Value → Shared → Prop}
  (B : Below A₀ base outer h₀) (F : Fr h₀ L s.heap m) (X : (hd.heap_39 w.params).In h₀) (N : News h₀ L s.heap news) (T : Top p loose mean mg mb h₀)
  (hA : A.frames = some (env :: outer)) (hf : env.frame = some L) (hke : env.scope.kind = .function) (hh : A.handled = none)
include B F X N T hA hf hke hh

theorem c_fold16 {n f : Int} {u c0 : Nat} {tn t1 t2 tf : Tok} {ra lc le : Addr} {cv ev : List Value} {cs : List Nat} {es : List Int} {e1 e2 : Nat} {ps : Array Value} {nw : List (Addr × Obj)} (hdp : A.depth + 100 < recursionLimit) (hun : A.units + 800 < cLine)
    (hnw : news = (201, tabObj ps) :: nw) (hnP : ∀ q ∈ nw, q.1 ≠ 201) (hps : ps = #[] ∨ TabHit 250 18 lamq2 ps nw) (C1 : CodeHd base 184 180) (C2 : CodeHd base 203 201) (hl1 : Lam1 nw) (hbare : AllBare s.gens)
    (hra : (ra, roadOf (u : Int) (2 * (u : Int)) t1 t2 161 169) ∈ nw) (hlc : (lc, W.listOf cv.toArray e1) ∈ nw) (hle : (le, W.listOf ev.toArray e2) ∈ nw) (hcv : IntsAre cv ((c0 :: cs).map fun c => Int.ofNat c)) (hev : IntsAre ev es) (hcs : cs.length ≤ 3) (hc : ∀ x ∈ c0 :: cs, 1 ≤ x ∧ x ≤ 6) (hes : es = [0] ∨ es = [127, 0] ∨ es = [])
    (hn : 0 ≤ n ∧ n < 281474976710656) (hu : u = 1 ∨ u = 2 ∨ u = 3) (hf2 : 2 ≤ f ∧ f ≤ 12)
    (ret : ∀ ps' ex t h' tk' G', TabHit 250 18 lamq2 ps' (ex ++ nw) → (∀ q ∈ ex, q.1 ≠ 201) → AllBare G' → Fr h₀ L h' m → News h₀ L h' ((201, tabObj ps') :: (ex ++ nw)) → Q (.int (dueL (256 ^ u) f (clOf (c0 :: cs) es) n) t) { s with heap := h', toks := tk', gens := G' }) :
    wpAny (model prg w) A (call (.ref 204) [.int n tn, .ref ra, .ref lc, .ref le, .int f tf]) Q E s := by
  subst hnw
  have hra' : (ra, roadOf (u : Int) (2 * (u : Int)) t1 t2 161 169) ∈ (201, tabObj ps) :: nw := .tail _ hra
  have hu' : (u : Int) = 1 ∨ (u : Int) = 2 ∨ (u : Int) = 3 := by omega
  refine wpAny_call ?_
  k_dflt (refine' code_defC ?k1 ?k2 ?k3 ?k4 ?k5 ?kA ?kF ?kK ?k6 ?k7 ?k8 ?k9 ?kB ?kD ?_ ?c2 ?c3 ?c4; (case kA => assumption); (case kF => assumption); (case kK => assumption); (case k1 => k_asm); (case k2 => k_asm); (case k3 => k_asm); (case k4 => k_asm); (case k5 => k_asm); (case k6 => k_is); (case k7 => k_is); (case k8 => omega); (case k9 => first | exact BindsTo.of_eq rfl | exact binds_K (by k_in) rfl (by k_is) rfl rfl rfl); (case kB => exact rfl); (case kD => decide +kernel); (case c2 => exact rfl); (case c3 => exact rfl); (case c4 => exact rfl); k_whole; intro g' L' h' tk' cells' FG' F' N' Y' B' X' T' l1; have lAll := l1; (try k_lt l1); k_cells Y'; (try simp only [List.cons_append, List.nil_append] at N'); (try dsimp only); (try k_fold))
  have l0 : ∀ p ∈ nw, p.1 < L' := fun p hp => lAll p (.tail _ hp)
  have q1 : ∀ p ∈ nw, p.1 < L' + 1 := fun p hp => Nat.lt_succ_of_lt (l0 p hp)
  have q2 : ∀ p ∈ nw, p.1 < L' + 1 + 1 := fun p hp => Nat.lt_succ_of_lt (q1 p hp)
  have q3 : ∀ p ∈ nw, p.1 < L' + 1 + 1 + 1 := fun p hp => Nat.lt_succ_of_lt (q2 p hp)
  k_steps
  rename_i oF d1 d2 dF x1 x2 x3 oS dS x4 x5 oR F0 N0 dR
  refine c_row (by assumption) (by assumption) (by assumption) (by assumption) (by assumption) (Around.frames_deeper hA) rfl rfl hh (by rw [depth_deeper]; omega) (by rw [units_deeper]; omega) hu' hn.1 hn.2 ?_
  intro os t9 h9 tk9 hos1 hos2 hos3 F9 N9
  k_steps
  refine c_b16e (by assumption) (by assumption) (by assumption) (by assumption) (by assumption) (Around.frames_deeper hA) rfl rfl hh (by rw [depth_deeper]; omega) (by rw [units_deeper]; omega) (by omega) ?_
  intro t8 h8 tk8 F8 N8
  k_steps
  rename Fr g' L' _ (fun _ => _) => F7
  rename News g' L' _ (_ :: _) => N7
  have hcl := hcv.length
  have hcl2 : cv.length ≤ 4 := by rw [hcl]; simp; omega
  refine LCg.CompSrc.ledger hh F7 N7 (.tail _ (.tail _ (.tail _ (.tail _ hlc)))) (by rw [sizeLine_eq]; simp; omega) ?_
  intro g7
  refine comp_all (Val := fun i y => ∃ t, y = .int (((c0 :: cs).map fun c => ((c * (2 * u) : Nat) : Int)).getD i 0) t) (.inr ⟨_, .tail _ (.tail _ (.tail _ (.tail _ hlc))), rfl, _, rfl⟩) ?_ ?_
  · intro i v I oI C oC D m₂ h6 tk6 ys E' hi hv hC hx F6 N6
    obtain ⟨k, t6, rfl, hk⟩ := ia_get hcv (by simpa using hv)
    clear F7 N7
    dsimp only
    k_steps
    have e : ((c0 :: cs).map fun c => ((c * (2 * u) : Nat) : Int)).getD i 0 = k * (2 * (u : Int)) := by
      rw [List.getElem?_map] at hk
      rw [List.getD_eq_getElem?_getD, List.getElem?_map]
      cases q : (c0 :: cs)[i]? with
      | none => rw [q] at hk; cases hk
      | some c => rw [q] at hk; cases hk; show ((c * (2 * u) : Nat) : Int) = _; rw [Int.natCast_mul, Int.natCast_mul]; rfl
    rw [e]
    exact ⟨_, _, rfl, by assumption, by assumption, _, rfl⟩
  · intro ys hyl hval
    have hIa : IntsAre ys ((c0 :: cs).map fun c => ((c * (2 * u) : Nat) : Int)) := ia_of (by rw [hyl]; simpa using hcl) hval
    clear F7 N7
    intro D5 h5 tk5 F5 N5 o5
    dsimp only
    k_steps
    have hIk := ia_app hIa hev
    have hel : ev.length ≤ 2 := by rw [hev.length]; rcases hes with rfl | rfl | rfl <;> simp
    refine add_any F5 N5 ⟨_, (N5 _ (.head _)).1, rfl, _, rfl⟩ ⟨_, (N5 _ (.tail _ (.tail _ (.tail _ (.tail _ (.tail _ hle)))))).1, rfl, _, rfl⟩ (by rw [sizeLine_eq, hyl]; simp; omega) ?_
    intro D6 h6 F6 N6 l6
    clear F5 N5
    dsimp only
    k_steps
    have hcp : ∀ c ∈ c0 :: cs, (0 : Int) < ((c * (2 * u) : Nat) : Int) := fun c hx => by have := hc c hx; have h2 : 0 < c * (2 * u) := Nat.mul_pos (by omega) (by omega); omega
    refine c_cut (by assumption) (by assumption) (by assumption) (by assumption) (by assumption) (Around.frames_deeper hA) rfl rfl hh (by rw [depth_deeper]; omega) (by rw [units_deeper]; omega) (by rw [hexU_len]; omega) (.head _) hIk ?_ ?_ hbare ?_
    · intro hq
      have := hcp c0 (.head _)
      simp only [List.map_cons, List.cons_append, List.head?_cons, Option.some.injEq] at hq
      omega
    · intro k hk
      rcases List.mem_append.mp hk with hk | hk
      · obtain ⟨c, hx, rfl⟩ := List.mem_map.mp hk
        exact Int.le_of_lt (hcp c hx)
      · rcases hes with rfl | rfl | rfl <;> simp at hk <;> omega
    intro lp pv ep' h4 tk4 G4 hby hG4 F4 N4
    clear F6 N6
    dsimp only
    k_steps
    obtain ⟨G, hG⟩ : ∃ G, os.length = u * G := ⟨os.length / u, by rw [Int.toNat_natCast] at hos2; have := Nat.div_add_mod os.length u; omega⟩
    have hG6 : G ≤ 6 := by rcases hu with rfl | rfl | rfl <;> omega
    have hB : (0 : Int) < 256 ^ u := pow_pos' (by decide) u
    have hGl : (hexU os).length = G * (2 * u) := (texts16 u).len (tx16_of hG)
    have hGf : G < (hexU os).length + 1 := by rw [hGl]; rcases hu with rfl | rfl | rfl <;> omega
    obtain ⟨qs, hal, hfold, hqb⟩ := cut_fold (texts16 u) hB (by omega) (f := f) _ 0 _ _ G _ [] [] (tx16_of hG) .nil hGf (sok_of (es := es) (by omega) (by omega) hes (fun x hx => (hc x hx).1) hG6)
    obtain ⟨hpl, hpv⟩ := by_al hal hby
    rw [hos3] at hfold
    rename Fr g' L' _ (fun _ => _) => F3
    rename News g' L' _ (_ :: _) => N3
    have dF' : oF.data = Data.cell (some (.int f tf)) := dF
    have hnb : ∀ q ∈ (lp, W.listOf pv.toArray ep') :: (D6, W.listOf (ys ++ ev).toArray 0) :: (D5, LCg.lst ys) :: (L' + 1 + 1 + 1, oS) :: (L' + 1 + 1, oR) :: (L' + 1, oF) :: nw, q.1 ≠ 201 := by
      have h201 := N3 (201, tabObj ps) (by simp)
      intro q hq
      simp only [List.mem_cons] at hq
      rcases hq with rfl | rfl | rfl | rfl | rfl | rfl | e
      · exact ne_data N3 (.head _) (.tail _ (.tail _ (.tail _ (.tail _ (.tail _ (.tail _ (.head _))))))) (by intro e; cases e)
      · exact ne_data N3 (.tail _ (.head _)) (.tail _ (.tail _ (.tail _ (.tail _ (.tail _ (.tail _ (.head _))))))) (by intro e; cases e)
      · exact ne_data N3 (.tail _ (.tail _ (.head _))) (.tail _ (.tail _ (.tail _ (.tail _ (.tail _ (.tail _ (.head _))))))) (by intro e; cases e)
      · exact ne_data N3 (.tail _ (.tail _ (.tail _ (.head _)))) (.tail _ (.tail _ (.tail _ (.tail _ (.tail _ (.tail _ (.head _))))))) (by rw [dS]; intro e; cases e)
      · exact ne_data N3 (.tail _ (.tail _ (.tail _ (.tail _ (.head _))))) (.tail _ (.tail _ (.tail _ (.tail _ (.tail _ (.tail _ (.head _))))))) (by rw [dR]; intro e; cases e)
      · exact ne_data N3 (.tail _ (.tail _ (.tail _ (.tail _ (.tail _ (.head _)))))) (.tail _ (.tail _ (.tail _ (.tail _ (.tail _ (.tail _ (.head _))))))) (by rw [dF']; intro e; cases e)
      · exact hnP q e
    refine ⟨kla_eval rfl ?_⟩
    refine mk_lam (ps := ps) (nw := (lp, W.listOf pv.toArray ep') :: (D6, W.listOf (ys ++ ev).toArray 0) :: (D5, LCg.lst ys) :: (L' + 1 + 1 + 1, oS) :: (L' + 1 + 1, oR) :: (L' + 1, oF) :: nw) F3 (news_sub N3 ?perm) ?ne (by assumption) (CodeHd.keeps C2 (Below.stays (by assumption))) rfl ?hit rfl ?_
    case perm =>
      intro q hq
      simp only [List.mem_cons] at hq ⊢
      rcases hq with e | e | e | e | e | e | e | e <;> simp [e]
    case ne => exact hnb
    case hit => exact hps.imp id fun x => x.mono fun q hq => .tail _ (.tail _ (.tail _ (.tail _ (.tail _ (.tail _ hq)))))
    intro f' c' ctv ps' ex oc vs' t' h2 tk2 F2 N2 hth hexP hcm hoc hvq
    clear F3 N3
    dsimp only
    k_steps
    have hin : ∀ q ∈ nw, q ∈ (201, tabObj ps') :: (ex ++ ((lp, W.listOf pv.toArray ep') :: (D6, W.listOf (ys ++ ev).toArray 0) :: (D5, LCg.lst ys) :: (L' + 1 + 1 + 1, oS) :: (L' + 1 + 1, oR) :: (L' + 1, oF) :: nw)) := fun q hq => .tail _ (List.mem_append_right _ (.tail _ (.tail _ (.tail _ (.tail _ (.tail _ (.tail _ hq)))))))
    refine c_reduce (k := 60) (ku := 500) (n := pv.length) (acc := fun i => foldQ f (qs.take i)) (by assumption) F2 (by assumption) N2 (by assumption) (Around.frames_deeper hA) rfl rfl hh (by rw [depth_deeper]; omega) (by rw [units_deeper]; omega) (goes_list (vs := pv) (.tail _ (.tail _ (List.mem_append_right _ (.head _))))) (.head _) rfl ?call ?done
    case call =>
      intro i hi v ta hv
      obtain ⟨pc, tp, g, z, rfl, hqi, b, hx, hbl, hbv⟩ := hpv i v hv
      have hg6 : g ≤ 6 := by
        rcases hqb _ (List.mem_of_getElem? hqi) with e | e
        · cases e
        · exact Nat.le_trans e.2 hG6
      have hb18 : b.length ≤ 18 := by rw [hbl]; rcases hu with rfl | rfl | rfl <;> omega
      have hpcl : ((pc.toArray.size : Nat) : Int) = (g : Int) * (2 * (u : Int)) := by
        have : pc.length = g * (2 * u) := by rw [hx.1, hbl]; rcases hu with rfl | rfl | rfl <;> omega
        rw [List.size_toArray, this]; simp
      have hpc36 : pc.length ≤ 36 := by rw [hx.1]; omega
      intro A2 env2 outer2 A₀2 h₀2 L2 m2 news2 s2 Q2 E2 B2 Fa X2 Na T2 hA2 hf2' hk2 hh2 hd2 hu2 hsub ret2
      have mF : (L' + 1, oF) ∈ news2 := hsub _ (by simp)
      have mR : (L' + 1 + 1, oR) ∈ news2 := hsub _ (by simp)
      have mS : (L' + 1 + 1 + 1, oS) ∈ news2 := hsub _ (by simp)
      have hl2 : Lam1 news2 := by
        obtain ⟨c1, oc1, vs1, tt1, m1, m2, r⟩ := hl1
        exact ⟨c1, oc1, vs1, tt1, hsub _ (.tail _ (hin _ m1)), hsub _ (.tail _ (hin _ m2)), r⟩
      have hmok : IntMulOk (foldQ f (qs.take i)) (f ^ ((g : Int)).toNat) := by rw [Int.toNat_natCast]; exact mul_small _ ⟨by omega, hf2.2⟩ hg6
      refine wpAny_call (kla_code B2 Fa X2 Na T2 hA2 hf2' hk2 (hsub _ (.head _)) (codeRec_news Na (hsub _ (.tail _ (.tail _ hcm))) hoc hvq) (by omega) rfl (locs rfl) ?_ rfl rfl rfl (by decide))
      intro g3 L3 h3 FG3 F3 N3 B3 X3 T3
      dsimp only
      k_fold
      k_steps
      refine c_b16d (by assumption) (by assumption) (by assumption) (by assumption) (by assumption) (Around.frames_deeper hA2) rfl rfl hh2 (by rw [depth_deeper]; omega) (by rw [units_deeper]; omega) (by omega) hx ?_
      intro tb hb' tkb Fb Nb
      k_steps
      refine c_value (ns := octs b) (by assumption) (by assumption) (by assumption) (by assumption) (by assumption) (Around.frames_deeper hA2) rfl rfl hh2 (by rw [depth_deeper]; omega) (by rw [units_deeper]; omega) C1 hl2 (fun q => oct_goes b tb _) (oct_val b) ?_
      intro tv hv' tkv Fv Nv
      k_steps
      have e := take_snoc (d := ((0, 0) : Nat × Int)) qs i (by rw [← hpl]; exact hi)
      rw [List.getD_eq_getElem?_getD, hqi] at e
      have e2 : foldQ f (qs.take (i + 1)) = foldQ f (qs.take i) * f ^ ((g : Int)).toNat + val256 (octs b) := by rw [e, foldQ_snoc, hbv, Int.toNat_natCast]; rfl
      dsimp only at ret2
      rw [e2] at ret2
      exact ret2 _ _ _ (by assumption) (by assumption)
    case done =>
      intro t3 h3 tk3 F3 N3
      dsimp only
      rw [hpl, List.take_length, hfold]
      k_steps
      have hfin : dueL (256 ^ u) f (clOf (c0 :: cs) es) n * f ^ grs [] + foldQ f [] = dueL (256 ^ u) f (clOf (c0 :: cs) es) n := by simp [grs, foldQ]
      rw [hfin]
      refine ret ps' (ex ++ [(lp, W.listOf pv.toArray ep'), (D6, W.listOf (ys ++ ev).toArray 0), (D5, LCg.lst ys), (L' + 1 + 1 + 1, oS), (L' + 1 + 1, oR), (L' + 1, oF)]) _ _ _ _ (hth.mono ?_) ?_ hG4 (by assumption) (news_sub (by assumption) ?_)
      · intro q hq; simpa using hq
      · intro q hq
        rcases List.mem_append.mp hq with h | h
        · exact hexP q h
        · exact hnb q (by simp only [List.mem_cons, List.not_mem_nil, or_false] at h ⊢; rcases h with h | h | h | h | h | h <;> simp [h])
      · intro q hq; simp only [List.mem_cons, List.mem_append, List.append_assoc, List.cons_append, List.nil_append] at hq ⊢; rcases hq with h | h | h | h | h | h | h | h | h <;> simp [h]
end
-- needs: fold base leaf bi loops reduce value row seg gen gen2 geni cut plain comp lam a2bh b16e b16d b64e b64f b64d texts
section
variable {w : World} {p : Program} {loose : List Str} {mean : ExcName → Option Value} {mg mb : Str → Option Value} {A : Around} {env : Env} {outer : List Env} {A₀ : Around} {base h₀ : Heap} {L : Addr} {m : Str → Option Value} {news : List (Addr × Obj)} {s : Shared} {Q E : Value → Shared → Prop}
  (B : Below A₀ base outer h₀) (F : Fr h₀ L s.heap m) (X : (hd.heap_39 w.params).In h₀) (N : News h₀ L s.heap news) (T : Top p loose mean mg mb h₀)
  (hA : A.frames = some (env :: outer)) (hf : env.frame = some L) (hke : env.scope.kind = .function) (hh : A.handled = none)
include B F X N T hA hf hke hh

theorem c_fold64 {n f : Int} {tn t1 t2 tf : Tok} {ra lc le : Addr} {cv ev : List Value} {cs : List Nat} {es : List Int} {e1 e2 : Nat} {ps : Array Value} {nw : List (Addr × Obj)} (hdp : A.depth + 100 < recursionLimit) (hun : A.units + 800 < cLine)
    (hnw : news = (201, tabObj ps) :: nw) (hnP : ∀ q ∈ nw, q.1 ≠ 201) (hps : ps = #[] ∨ TabHit 250 18 lamq2 ps nw) (C1 : CodeHd base 184 180) (C2 : CodeHd base 203 201) (hl1 : Lam1 nw) (hbare : AllBare s.gens)
    (hra : (ra, roadOf 3 4 t1 t2 146 154) ∈ nw) (hlc : (lc, W.listOf cv.toArray e1) ∈ nw) (hle : (le, W.listOf ev.toArray e2) ∈ nw) (hcv : IntsAre cv ((1 :: cs).map fun c => Int.ofNat c)) (hev : IntsAre ev es) (hcs : cs.length ≤ 3) (hc : ∀ x ∈ 1 :: cs, 1 ≤ x ∧ x ≤ 6) (hes : es = [0] ∨ es = [127, 0] ∨ es = [])
    (hn : 16777216 ≤ n ∧ n < 281474976710656) (hf2 : 2 ≤ f ∧ f ≤ 12)
    (ret : ∀ ps' ex t h' tk' G', TabHit 250 18 lamq2 ps' (ex ++ nw) → (∀ q ∈ ex, q.1 ≠ 201) → AllBare G' → Fr h₀ L h' m → News h₀ L h' ((201, tabObj ps') :: (ex ++ nw)) → Q (.int (dueL (256 ^ 3) f (clOf (1 :: cs) es) n) t) { s with heap := h', toks := tk', gens := G' }) :
    wpAny (model prg w) A (call (.ref 204) [.int n tn, .ref ra, .ref lc, .ref le, .int f tf]) Q E s := by
  subst hnw
  have hra' : (ra, roadOf 3 4 t1 t2 146 154) ∈ (201, tabObj ps) :: nw := .tail _ hra
  refine wpAny_call ?_
  k_dflt (refine' code_defC ?k1 ?k2 ?k3 ?k4 ?k5 ?kA ?kF ?kK ?k6 ?k7 ?k8 ?k9 ?kB ?kD ?_ ?c2 ?c3 ?c4; (case kA => assumption); (case kF => assumption); (case kK => assumption); (case k1 => k_asm); (case k2 => k_asm); (case k3 => k_asm); (case k4 => k_asm); (case k5 => k_asm); (case k6 => k_is); (case k7 => k_is); (case k8 => omega); (case k9 => first | exact BindsTo.of_eq rfl | exact binds_K (by k_in) rfl (by k_is) rfl rfl rfl); (case kB => exact rfl); (case kD => decide +kernel); (case c2 => exact rfl); (case c3 => exact rfl); (case c4 => exact rfl); k_whole; intro g' L' h' tk' cells' FG' F' N' Y' B' X' T' l1; have lAll := l1; (try k_lt l1); k_cells Y'; (try simp only [List.cons_append, List.nil_append] at N'); (try dsimp only); (try k_fold))
  have l0 : ∀ p ∈ nw, p.1 < L' := fun p hp => lAll p (.tail _ hp)
  have q1 : ∀ p ∈ nw, p.1 < L' + 1 := fun p hp => Nat.lt_succ_of_lt (l0 p hp)
  have q2 : ∀ p ∈ nw, p.1 < L' + 1 + 1 := fun p hp => Nat.lt_succ_of_lt (q1 p hp)
  have q3 : ∀ p ∈ nw, p.1 < L' + 1 + 1 + 1 := fun p hp => Nat.lt_succ_of_lt (q2 p hp)
  k_steps
  rename_i oF d1 d2 dF x1 x2 x3 oS dS x4 x5 oR F0 N0 dR
  refine c_row (by assumption) (by assumption) (by assumption) (by assumption) (by assumption) (Around.frames_deeper hA) rfl rfl hh (by rw [depth_deeper]; omega) (by rw [units_deeper]; omega) (.inr (.inr rfl)) (by omega) hn.2 ?_
  intro os t9 h9 tk9 hos1 hos2 hos3 F9 N9
  k_steps
  have hos6 : os.length = 6 := by
    have hb := (val256_bounds os).2
    have h3 : os.length % 3 = 0 := hos2
    have : os.length = 0 ∨ os.length = 3 ∨ os.length = 6 := by omega
    rcases this with e | e | e
    · rw [e] at hb; simp at hb; omega
    · rw [e] at hb; simp at hb; omega
    · exact e
  refine c_b64e (by assumption) (by assumption) (by assumption) (by assumption) (by assumption) (Around.frames_deeper hA) rfl rfl hh (by rw [depth_deeper]; omega) (by rw [units_deeper]; omega) hos6 ?_
  intro x64 t8 h8 tk8 hx64 F8 N8
  have hTx := tx64_of hos6 hx64
  have hxl : x64.length = 8 := texts64.len hTx
  k_steps
  rename Fr g' L' _ (fun _ => _) => F7
  rename News g' L' _ (_ :: _) => N7
  have hcl := hcv.length
  have hcl2 : cv.length ≤ 4 := by rw [hcl]; simp; omega
  refine LCg.CompSrc.ledger hh F7 N7 (.tail _ (.tail _ (.tail _ (.tail _ hlc)))) (by rw [sizeLine_eq]; simp; omega) ?_
  intro g7
  refine comp_all (Val := fun i y => ∃ t, y = .int (((1 :: cs).map fun c => ((c * 4 : Nat) : Int)).getD i 0) t) (.inr ⟨_, .tail _ (.tail _ (.tail _ (.tail _ hlc))), rfl, _, rfl⟩) ?_ ?_
  · intro i v I oI C oC D m₂ h6 tk6 ys E' hi hv hC hx F6 N6
    obtain ⟨k, t6, rfl, hk⟩ := ia_get hcv (by simpa using hv)
    clear F7 N7
    dsimp only
    k_steps
    have e : ((1 :: cs).map fun c => ((c * 4 : Nat) : Int)).getD i 0 = k * 4 := by
      rw [List.getElem?_map] at hk
      rw [List.getD_eq_getElem?_getD, List.getElem?_map]
      cases q : (1 :: cs)[i]? with
      | none => rw [q] at hk; cases hk
      | some c => rw [q] at hk; cases hk; show ((c * 4 : Nat) : Int) = _; rw [Int.natCast_mul]; rfl
    rw [e]
    exact ⟨_, _, rfl, by assumption, by assumption, _, rfl⟩
  · intro ys hyl hval
    have hIa : IntsAre ys ((1 :: cs).map fun c => ((c * 4 : Nat) : Int)) := ia_of (by rw [hyl]; simpa using hcl) hval
    clear F7 N7
    intro D5 h5 tk5 F5 N5 o5
    dsimp only
    k_steps
    have hIk := ia_app hIa hev
    have hel : ev.length ≤ 2 := by rw [hev.length]; rcases hes with rfl | rfl | rfl <;> simp
    refine add_any F5 N5 ⟨_, (N5 _ (.head _)).1, rfl, _, rfl⟩ ⟨_, (N5 _ (.tail _ (.tail _ (.tail _ (.tail _ (.tail _ hle)))))).1, rfl, _, rfl⟩ (by rw [sizeLine_eq, hyl]; simp; omega) ?_
    intro D6 h6 F6 N6 l6
    clear F5 N5
    dsimp only
    k_steps
    have hcp : ∀ c ∈ 1 :: cs, (0 : Int) < ((c * 4 : Nat) : Int) := fun c hx => by have := hc c hx; omega
    refine c_cut (by assumption) (by assumption) (by assumption) (by assumption) (by assumption) (Around.frames_deeper hA) rfl rfl hh (by rw [depth_deeper]; omega) (by rw [units_deeper]; omega) (by omega) (.head _) hIk ?_ ?_ hbare ?_
    · intro hq
      have := hcp 1 (.head _)
      simp only [List.map_cons, List.cons_append, List.head?_cons, Option.some.injEq] at hq
      omega
    · intro k hk
      rcases List.mem_append.mp hk with hk | hk
      · obtain ⟨c, hx, rfl⟩ := List.mem_map.mp hk
        exact Int.le_of_lt (hcp c hx)
      · rcases hes with rfl | rfl | rfl <;> simp at hk <;> omega
    intro lp pv ep' h4 tk4 G4 hby hG4 F4 N4
    clear F6 N6
    dsimp only
    k_steps
    have hcl1 : clOf (1 :: cs) es = 1 :: (clOf (1 :: cs) es).tail := by unfold clOf; split <;> rfl
    have hsok := sok_of (sgn := 4) (es := es) (by decide) (by decide) hes (fun x hx => (hc x hx).1) (show 2 ≤ 6 by decide)
    rw [hcl1] at hsok
    obtain ⟨qs, hal, hfold, hqb⟩ := cut_fold1 texts64 (by decide) (by decide) (f := f) (fuel := x64.length + 1) hTx (by omega) hsok
    rw [← hcl1] at hfold
    obtain ⟨hpl, hpv⟩ := by_al hal hby
    rw [hos3] at hfold
    rename Fr g' L' _ (fun _ => _) => F3
    rename News g' L' _ (_ :: _) => N3
    have dF' : oF.data = Data.cell (some (.int f tf)) := dF
    have hnb : ∀ q ∈ (lp, W.listOf pv.toArray ep') :: (D6, W.listOf (ys ++ ev).toArray 0) :: (D5, LCg.lst ys) :: (L' + 1 + 1 + 1, oS) :: (L' + 1 + 1, oR) :: (L' + 1, oF) :: nw, q.1 ≠ 201 := by
      have h201 := N3 (201, tabObj ps) (by simp)
      intro q hq
      simp only [List.mem_cons] at hq
      rcases hq with rfl | rfl | rfl | rfl | rfl | rfl | e
      · exact ne_data N3 (.head _) (.tail _ (.tail _ (.tail _ (.tail _ (.tail _ (.tail _ (.head _))))))) (by intro e; cases e)
      · exact ne_data N3 (.tail _ (.head _)) (.tail _ (.tail _ (.tail _ (.tail _ (.tail _ (.tail _ (.head _))))))) (by intro e; cases e)
      · exact ne_data N3 (.tail _ (.tail _ (.head _))) (.tail _ (.tail _ (.tail _ (.tail _ (.tail _ (.tail _ (.head _))))))) (by intro e; cases e)
      · exact ne_data N3 (.tail _ (.tail _ (.tail _ (.head _)))) (.tail _ (.tail _ (.tail _ (.tail _ (.tail _ (.tail _ (.head _))))))) (by rw [dS]; intro e; cases e)
      · exact ne_data N3 (.tail _ (.tail _ (.tail _ (.tail _ (.head _))))) (.tail _ (.tail _ (.tail _ (.tail _ (.tail _ (.tail _ (.head _))))))) (by rw [dR]; intro e; cases e)
      · exact ne_data N3 (.tail _ (.tail _ (.tail _ (.tail _ (.tail _ (.head _)))))) (.tail _ (.tail _ (.tail _ (.tail _ (.tail _ (.tail _ (.head _))))))) (by rw [dF']; intro e; cases e)
      · exact hnP q e
    refine ⟨kla_eval rfl ?_⟩
    refine mk_lam (ps := ps) (nw := (lp, W.listOf pv.toArray ep') :: (D6, W.listOf (ys ++ ev).toArray 0) :: (D5, LCg.lst ys) :: (L' + 1 + 1 + 1, oS) :: (L' + 1 + 1, oR) :: (L' + 1, oF) :: nw) F3 (news_sub N3 ?perm) ?ne (by assumption) (CodeHd.keeps C2 (Below.stays (by assumption))) rfl ?hit rfl ?_
    case perm =>
      intro q hq
      simp only [List.mem_cons] at hq ⊢
      rcases hq with e | e | e | e | e | e | e | e <;> simp [e]
    case ne => exact hnb
    case hit => exact hps.imp id fun x => x.mono fun q hq => .tail _ (.tail _ (.tail _ (.tail _ (.tail _ (.tail _ hq)))))
    intro f' c' ctv ps' ex oc vs' t' h2 tk2 F2 N2 hth hexP hcm hoc hvq
    clear F3 N3
    dsimp only
    k_steps
    have hin : ∀ q ∈ nw, q ∈ (201, tabObj ps') :: (ex ++ ((lp, W.listOf pv.toArray ep') :: (D6, W.listOf (ys ++ ev).toArray 0) :: (D5, LCg.lst ys) :: (L' + 1 + 1 + 1, oS) :: (L' + 1 + 1, oR) :: (L' + 1, oF) :: nw)) := fun q hq => .tail _ (List.mem_append_right _ (.tail _ (.tail _ (.tail _ (.tail _ (.tail _ (.tail _ hq)))))))
    refine c_reduce (k := 60) (ku := 500) (n := pv.length) (acc := fun i => foldQ f (qs.take i)) (by assumption) F2 (by assumption) N2 (by assumption) (Around.frames_deeper hA) rfl rfl hh (by rw [depth_deeper]; omega) (by rw [units_deeper]; omega) (goes_list (vs := pv) (.tail _ (.tail _ (List.mem_append_right _ (.head _))))) (.head _) rfl ?call ?done
    case call =>
      intro i hi v ta hv
      obtain ⟨pc, tp, g, z, rfl, hqi, hTp⟩ := hpv i v hv
      obtain rfl : g = 1 := hqb _ (List.mem_of_getElem? hqi)
      obtain ⟨ho4, hz4⟩ := tx64_one hTp
      have hpc4 : pc.length = 4 := texts64.len hTp
      have hpcl : ((pc.toArray.size : Nat) : Int) = (1 : Int) * 4 := by rw [List.size_toArray, hpc4]; rfl
      have hpc36 : pc.length ≤ 36 := by omega
      intro A2 env2 outer2 A₀2 h₀2 L2 m2 news2 s2 Q2 E2 B2 Fa X2 Na T2 hA2 hf2' hk2 hh2 hd2 hu2 hsub ret2
      have mF : (L' + 1, oF) ∈ news2 := hsub _ (by simp)
      have mR : (L' + 1 + 1, oR) ∈ news2 := hsub _ (by simp)
      have mS : (L' + 1 + 1 + 1, oS) ∈ news2 := hsub _ (by simp)
      have hl2 : Lam1 news2 := by
        obtain ⟨c1, oc1, vs1, tt1, m1, m2, r⟩ := hl1
        exact ⟨c1, oc1, vs1, tt1, hsub _ (.tail _ (hin _ m1)), hsub _ (.tail _ (hin _ m2)), r⟩
      have hmok : IntMulOk (foldQ f (qs.take i)) (f ^ ((1 : Int)).toNat) := mul_small (g := 1) _ ⟨by omega, hf2.2⟩ (by decide)
      refine wpAny_call (kla_code B2 Fa X2 Na T2 hA2 hf2' hk2 (hsub _ (.head _)) (codeRec_news Na (hsub _ (.tail _ (.tail _ hcm))) hoc hvq) (by omega) rfl (locs rfl) ?_ rfl rfl rfl (by decide))
      intro g3 L3 h3 FG3 F3 N3 B3 X3 T3
      dsimp only
      k_fold
      k_steps
      refine c_b64d (by assumption) (by assumption) (by assumption) (by assumption) (by assumption) (Around.frames_deeper hA2) rfl rfl hh2 (by rw [depth_deeper]; omega) (by rw [units_deeper]; omega) ho4 (by omega) (by omega) (by omega) (by omega) ?_
      intro b tb hb' tkb hbl hbv Fb Nb
      rw [← hz4] at hbv
      k_steps
      refine c_value (ns := octs b) (by assumption) (by assumption) (by assumption) (by assumption) (by assumption) (Around.frames_deeper hA2) rfl rfl hh2 (by rw [depth_deeper]; omega) (by rw [units_deeper]; omega) C1 hl2 (fun q => oct_goes b tb _) (oct_val b) ?_
      intro tv hv' tkv Fv Nv
      k_steps
      have e := take_snoc (d := ((0, 0) : Nat × Int)) qs i (by rw [← hpl]; exact hi)
      rw [List.getD_eq_getElem?_getD, hqi] at e
      have e2 : foldQ f (qs.take (i + 1)) = foldQ f (qs.take i) * f ^ ((1 : Int)).toNat + val256 (octs b) := by rw [e, foldQ_snoc, hbv]; rfl
      dsimp only at ret2
      rw [e2] at ret2
      exact ret2 _ _ _ (by assumption) (by assumption)
    case done =>
      intro t3 h3 tk3 F3 N3
      dsimp only
      rw [hpl, List.take_length, hfold]
      k_steps
      refine ret ps' (ex ++ [(lp, W.listOf pv.toArray ep'), (D6, W.listOf (ys ++ ev).toArray 0), (D5, LCg.lst ys), (L' + 1 + 1 + 1, oS), (L' + 1 + 1, oR), (L' + 1, oF)]) _ _ _ _ (hth.mono ?_) ?_ hG4 (by assumption) (news_sub (by assumption) ?_)
      · intro q hq; simpa using hq
      · intro q hq
        rcases List.mem_append.mp hq with h | h
        · exact hexP q h
        · exact hnb q (by simp only [List.mem_cons, List.not_mem_nil, or_false] at h ⊢; rcases h with h | h | h | h | h | h <;> simp [h])
      · intro q hq; simp only [List.mem_cons, List.mem_append, List.append_assoc, List.cons_append, List.nil_append] at hq ⊢; rcases hq with h | h | h | h | h | h | h | h | h <;> simp [h]
end
-- needs: base leaf bi loops reduce value row seg gen gen2 geni cut plain comp lam
theorem cl_le {c0 : Nat} {cs : List Nat} {es : List Int} (hc : ∀ x ∈ c0 :: cs, 1 ≤ x ∧ x ≤ 6) : ∀ x ∈ clOf (c0 :: cs) es, x ≤ 6 := by
  intro x hx
  unfold clOf at hx
  split at hx
  · rcases List.mem_append.mp hx with h | h
    · exact (hc x h).2
    · rw [(List.mem_replicate.mp h).2]; exact (hc _ (lastD_mem cs c0 0)).2
  · rcases List.mem_append.mp hx with h | h
    · exact (hc x h).2
    · rw [List.mem_singleton.mp h]; exact Nat.le_refl _
theorem cl_len {c0 : Nat} {cs : List Nat} {es : List Int} (hcs : cs.length ≤ 3) : (clOf (c0 :: cs) es).length ≤ 10 := by
  unfold clOf
  split <;> simp <;> omega
theorem due_step {f nm : Int} {u c pl : Nat} {r : List Nat} (du : Int) : du + nm % 256 ^ (u * c) * f ^ pl + f ^ (pl + c) * dueL (256 ^ u) f r (nm / 256 ^ (u * c)) = du + f ^ pl * dueL (256 ^ u) f (c :: r) nm := by
  rw [dueL_cons, ← Int.pow_mul, Int.mul_add, Int.pow_add, Int.mul_comm (nm % 256 ^ (u * c)) (f ^ pl), Int.mul_assoc (f ^ pl) (f ^ c)]
  omega
section
local macro_rules | `(tactic| walk_at "binaryOp Pow int int") => `(tactic| (k_here; first | refine pow256 (by assumption) (by assumption) ?_ | refine pow_int_small (by omega) (by omega) (by omega) ?_))
local macro_rules | `(tactic| walk_at "binaryOp Mod int int") => `(tactic| (k_here; refine mod256 ?_))
local macro_rules | `(tactic| walk_at "binaryOp FloorDiv int int") => `(tactic| (k_here; refine div256 (by assumption) ?_))
local macro_rules | `(tactic| walk_at "exec For Name IfExp cons nil") => `(tactic| (refine hold ?_))
variable {w : World} {p : Program} {loose : List Str} {mean : ExcName → Option Value} {mg mb : Str → Option Value} {A : Around} {env : Env} {outer : List Env} {A₀ : Around} {base h₀ : Heap} {L : Addr} {m : Str → Option Value} {news : List (Addr × Obj)} {s : Shared} {Q E : Value → Shared → Prop}
  (B : Below A₀ base outer h₀) (F : Fr h₀ L s.heap m) (X : (hd.heap_39 w.params).In h₀) (N : News h₀ L s.heap news) (T : Top p loose mean mg mb h₀)
  (hA : A.frames = some (env :: outer)) (hf : env.frame = some L) (hke : env.scope.kind = .function) (hh : A.handled = none)
include B F X N T hA hf hke hh

theorem c_due {n f : Int} {u c0 : Nat} {tn tu tf : Tok} {lc le : Addr} {cv ev : List Value} {cs : List Nat} {es : List Int} {e1 e2 : Nat} (hdp : A.depth + 20 < recursionLimit) (hun : A.units + 160 < cLine)
    (hlc : (lc, W.listOf cv.toArray e1) ∈ news) (hle : (le, W.listOf ev.toArray e2) ∈ news) (hcv : IntsAre cv ((c0 :: cs).map fun c => Int.ofNat c)) (hev : IntsAre ev es) (hcs : cs.length ≤ 3) (hc : ∀ x ∈ c0 :: cs, 1 ≤ x ∧ x ≤ 6) (hes : es = [0] ∨ es = [127, 0] ∨ es = [])
    (hn : 0 ≤ n ∧ n < 281474976710656) (hu : u = 1 ∨ u = 2 ∨ u = 3) (hf2 : 2 ≤ f ∧ f ≤ 12)
    (ret : ∀ t h' tk', Fr h₀ L h' m → News h₀ L h' news → Q (.int (dueL (256 ^ u) f (clOf (c0 :: cs) es) n) t) { s with heap := h', toks := tk' }) :
    wpAny (model prg w) A (call (.ref 211) [.int n tn, .int u tu, .ref lc, .ref le, .int f tf]) Q E s := by
  ktr_enter
  k_steps
  have hcl := hcv.length
  have hcl4 : cv.length ≤ 4 := by rw [hcl]; simp; omega
  have hcm := cl_le (es := es) hc
  have hcn := cl_len (c0 := c0) (es := es) hcs
  refine ⟨wpAny_For (iter_ints (_F₀ := by assumption) (s₀ := s) (news := news) (ks := (clOf (c0 :: cs) es).map Int.ofNat) ?src ?loop)⟩
  case src =>
    have hkey : IntsAre cv ((c0 :: cs).map Int.ofNat) := hcv
    k_steps
    rename News _ _ _ (_ :: _) => N1
    refine eq_intsK (ns := es) (ms := [0]) (us := [_]) ⟨_, (N1 _ (.tail _ (.tail _ hle))).1, rfl, _, rfl⟩ hev ⟨_, (N1 _ (.head _)).1, rfl, _, rfl⟩ (.cons _ _ .nil) (by rw [units_deeper]; omega) ?_
    have hlc1 := fun (p q : Addr × Obj) => (List.Mem.tail p (List.Mem.tail q hlc))
    rcases hes with rfl | hes
    · have hks : ((clOf (c0 :: cs) [0]).map Int.ofNat) = (c0 :: cs).map Int.ofNat ++ (List.replicate (Int.toNat 6) (List.drop (((c0 :: cs).map Int.ofNat).length - 1) ((c0 :: cs).map Int.ofNat))).flatten := by
        rw [drop_last]; unfold clOf; rw [if_pos rfl, List.map_append, List.map_replicate]; rfl
      k_steps
      rename IntsAre _ (_ ++ _) => hI
      rename Fr _ _ _ (fun _ => _) => F2
      rename News _ _ _ (_ :: _) => N2
      exact ⟨_, _, _, _, _, _, rfl, rfl, by rw [hks]; exact hI, .head _, fun q hq => by simp [hq], F2, N2⟩
    · have hne : ¬ es = [0] := by rcases hes with rfl | rfl <;> decide
      have hdec : decide (es = [0]) = false := decide_eq_false hne
      have hks : ((clOf (c0 :: cs) es).map Int.ofNat) = (c0 :: cs).map Int.ofNat ++ [6] := by unfold clOf; rw [if_neg hne, List.map_append]; rfl
      k_steps
      rename IntsAre _ (_ ++ _) => hI
      rename Fr _ _ _ (fun _ => _) => F2
      rename News _ _ _ (_ :: _) => N2
      exact ⟨_, _, _, _, _, _, rfl, rfl, by rw [hks]; exact hI, .head _, fun q hq => by simp [hq], F2, N2⟩
  case loop =>
    intro it io D ws ep nwB h1 tk0 hIw hmD hsubB F1 N1 hlt1 hP1
    obtain ⟨cl, hclE⟩ : ∃ cl, cl = clOf (c0 :: cs) es := ⟨_, rfl⟩
    rw [← hclE] at ret hIw hcm hcn
    have hwl : ws.length = cl.length := by rw [hIw.length, List.length_map]
    refine For_inv (n₀ := ws.length) (fun r m₁ news₁ => ∃ (j : Nat) (io : Obj) (du nm : Int) (pl : Nat) (td tm tp tU tF : Tok), AllAt m₁ [(Str.ofString "due", .int du td), (Str.ofString "number", .int nm tm), (Str.ofString "place", .int (pl : Int) tp), (Str.ofString "unit", .int u tU), (Str.ofString "factor", .int f tF)] ∧ news₁ = (it, io) :: nwB ∧ (io.cls = .type "list_iterator" ∧ io.data = .fields #[.ref D, .int (j : Int) 0]) ∧ r = ws.length - j ∧ j ≤ ws.length ∧ (0 ≤ nm ∧ nm < 281474976710656) ∧ pl ≤ 6 * j ∧ du + f ^ pl * dueL (256 ^ u) f (cl.drop j) nm = dueL (256 ^ u) f cl n) F1 N1 ⟨0, io, 0, n, 0, _, _, _, _, _, ⟨rfl, rfl, rfl, rfl, rfl, trivial⟩, rfl, hP1, rfl, Nat.zero_le _, hn, Nat.le_refl _, by simp⟩ ?_
    rintro r m₁ news₁ h₁ tk₁ F₁ N₁ ⟨j, io2, du, nm, pl, td, tm, tp, tU, tF, hm, rfl, hP, hr, hj, hnm, hpl, hJ⟩
    have F₂ := ovl_fr F₁ hm
    clear F₁ hm F1 N1
    have G := goes_list (news := nwB) hmD
    by_cases hjn : j < ws.length
    · refine G.item F₂ N₁ hlt1 hP hjn ?_
      intro v h2 io3 tk2 F2 N2 hP2 hv
      obtain ⟨k, tk', rfl, hk⟩ := ia_get hIw hv
      rw [List.getElem?_map] at hk
      obtain ⟨c, hcj, rfl⟩ : ∃ c, cl[j]? = some c ∧ k = Int.ofNat c := by
        cases q : cl[j]? with
        | none => rw [q] at hk; cases hk
        | some c => rw [q] at hk; cases hk; exact ⟨c, rfl, rfl⟩
      clear F₂ N₁
      have hc6 := hcm c (List.mem_of_getElem? hcj)
      have hci : 0 ≤ Int.ofNat c ∧ Int.ofNat c ≤ 6 := ⟨Int.ofNat_nonneg _, by show (c : Int) ≤ 6; omega⟩
      have heq : (u : Int) * Int.ofNat c = ((u * c : Nat) : Int) := by rw [Int.natCast_mul]; rfl
      have hk18 : u * c ≤ 18 := by rcases hu with rfl | rfl | rfl <;> omega
      have hmod : 0 ≤ nm % 256 ^ (u * c) ∧ nm % 256 ^ (u * c) ≤ nm := ⟨Int.emod_nonneg _ (Int.ne_of_gt (pow_pos' (by decide) _)), by have e := Int.emod_add_mul_ediv nm (256 ^ (u * c)); have h5 := Int.mul_nonneg (Int.le_of_lt (pow_pos' (B := 256) (by decide) (u * c))) (Int.ediv_nonneg hnm.1 (Int.le_of_lt (pow_pos' (B := 256) (by decide) (u * c)))); omega⟩
      have hmok : IntMulOk (nm % 256 ^ (u * c)) (f ^ ((pl : Int)).toNat) := .of_left (intBits_le_64 (by omega) (by omega))
      have hmok2 : IntMulOk (u : Int) (Int.ofNat c) := .of_right (intBits_le_64 (by omega) (by omega))
      have hpl60 : (pl : Int) ≤ 60 := by omega
      dsimp only
      k_steps
      have hq := Int.ediv_nonneg hnm.1 (Int.le_of_lt (pow_pos' (B := 256) (by decide) (u * c)))
      have hq2 : nm / 256 ^ (u * c) ≤ nm := Int.ediv_le_self _ hnm.1
      have hdr : cl.drop j = c :: cl.drop (j + 1) := by obtain ⟨h8, e8⟩ := List.getElem?_eq_some_iff.mp hcj; rw [List.drop_eq_getElem_cons h8, e8]
      exact ForEnd.on (by assumption) (by assumption) (n' := ws.length - (j + 1)) (by omega) ⟨j + 1, io3, _, _, pl + c, _, _, _, _, _, ⟨rfl, rfl, rfl, rfl, rfl, trivial⟩, rfl, hP2, rfl, by omega, ⟨hq, by omega⟩, by omega, by rw [Int.toNat_natCast, due_step, ← hdr]; exact hJ⟩
    · refine G.done hh F₂ N₁ hlt1 hP (by omega) ?_
      intro h2 F2 N2
      clear F₂ N₁
      rw [List.drop_of_length_le (by omega)] at hJ
      have hJ' : du = dueL (256 ^ u) f cl n := by rw [← hJ]; simp [dueL]
      subst hJ'
      dsimp only
      k_steps
      exact ret _ _ _ (by assumption) (news_sub (by assumption) hsubB)
end
local macro_rules | `(tactic| walk_at "binaryOp Pow int int") => `(tactic| (k_here; refine pow256 (by assumption) (by assumption) ?_))
-- needs: base leaf bi loops reduce value row seg gen gen2 geni cut plain comp lam a2bh b16e b16d b64e b64f b64d texts fold fold64 due
section
variable {w : World} {p : Program} {loose : List Str} {mean : ExcName → Option Value} {mg mb : Str → Option Value} {A : Around} {env : Env} {outer : List Env} {A₀ : Around} {base h₀ : Heap} {L : Addr} {m : Str → Option Value} {news : List (Addr × Obj)} {s : Shared} {Q E : Value → Shared → Prop}
  (B : Below A₀ base outer h₀) (F : Fr h₀ L s.heap m) (X : (hd.heap_39 w.params).In h₀) (N : News h₀ L s.heap news) (T : Top p loose mean mg mb h₀)
  (hA : A.frames = some (env :: outer)) (hf : env.frame = some L) (hke : env.scope.kind = .function) (hh : A.handled = none)
include B F X N T hA hf hke hh

theorem c_left16 {n f : Int} {u : Nat} {tn t1 t2 tf : Tok} {ra lc le : Addr} {cv ev : List Value} {cs : List Nat} {es : List Int} {e1 e2 : Nat} {ps : Array Value} {nw : List (Addr × Obj)} (hdp : A.depth + 120 < recursionLimit) (hun : A.units + 1000 < cLine)
    (hnw : news = (201, tabObj ps) :: nw) (hnP : ∀ q ∈ nw, q.1 ≠ 201) (hps : ps = #[] ∨ TabHit 250 18 lamq2 ps nw) (C1 : CodeHd base 184 180) (C2 : CodeHd base 203 201) (hl1 : Lam1 nw) (hbare : AllBare s.gens)
    (hra : (ra, roadOf (u : Int) (2 * (u : Int)) t1 t2 161 169) ∈ nw) (hlc : (lc, W.listOf cv.toArray e1) ∈ nw) (hle : (le, W.listOf ev.toArray e2) ∈ nw) (hcv : IntsAre cv ((1 :: cs).map fun c => Int.ofNat c)) (hev : IntsAre ev es) (hcs : cs.length ≤ 3) (hc : ∀ x ∈ 1 :: cs, 1 ≤ x ∧ x ≤ 6) (hes : es = [0] ∨ es = [127, 0] ∨ es = [])
    (hn : 0 ≤ n ∧ n < 281474976710656) (hu : u = 1 ∨ u = 2 ∨ u = 3) (hf2 : 2 ≤ f ∧ f ≤ 12)
    (ret : ∀ ps' ex t h' tk' G', (ps' = #[] ∨ TabHit 250 18 lamq2 ps' (ex ++ nw)) → (∀ q ∈ ex, q.1 ≠ 201) → AllBare G' → Fr h₀ L h' m → News h₀ L h' ((201, tabObj ps') :: (ex ++ nw)) → Q (.int (n % (256 ^ u - f)) t) { s with heap := h', toks := tk', gens := G' }) :
    wpAny (model prg w) A (call (.ref 218) [.int n tn, .ref ra, .ref lc, .ref le, .int f tf]) Q E s := by
  subst hnw
  have hraL : (ra, roadOf (u : Int) (2 * (u : Int)) t1 t2 161 169) ∈ (201, tabObj ps) :: nw := .tail _ hra
  have heu : (u : Int) = ((u : Nat) : Int) := rfl
  have hu18 : u ≤ 18 := by omega
  have hB256 : (256 : Int) ≤ 256 ^ u := by rcases hu with rfl | rfl | rfl <;> decide
  have hB48 : (281474976710656 : Int) ≤ (256 ^ u) ^ (clOf (1 :: cs) es).sum := by
    have h6 := clOf_sum (es := es) (fun x hx => (hc x hx).1) (List.cons_ne_nil 1 cs)
    obtain ⟨d, hd⟩ := Nat.exists_eq_add_of_le h6
    have h7 : (281474976710656 : Int) ≤ (256 ^ u) ^ 6 := by rcases hu with rfl | rfl | rfl <;> decide
    have h8 : (1 : Int) ≤ (256 ^ u) ^ d := pow_pos' (by omega) d
    have h9 : ((256 ^ u) ^ 6 : Int) * 1 ≤ (256 ^ u) ^ 6 * (256 ^ u) ^ d := Int.mul_le_mul_of_nonneg_left h8 (by omega)
    rw [hd, Int.pow_add]
    omega
  have hcl1 : clOf (1 :: cs) es = 1 :: (clOf (1 :: cs) es).tail := by unfold clOf; split <;> rfl
  ktr_enter
  k_steps
  refine ⟨While_invG (n₀ := n.toNat) (fun r m₁ news₁ G₁ => ∃ (nm : Int) (ps1 : Array Value) (ex : List (Addr × Obj)) (ta tb tc : Tok), AllAt m₁ [(Str.ofString "number", .int nm ta), (Str.ofString "road", .ref ra), (Str.ofString "counts", .ref lc), (Str.ofString "ending", .ref le), (Str.ofString "factor", .int f tb), (Str.ofString "top", .int (256 ^ u) tc)] ∧ news₁ = (201, tabObj ps1) :: (ex ++ nw) ∧ (ps1 = #[] ∨ TabHit 250 18 lamq2 ps1 (ex ++ nw)) ∧ (∀ q ∈ ex, q.1 ≠ 201) ∧ AllBare G₁ ∧ (0 ≤ nm ∧ nm < 281474976710656) ∧ ((256 ^ u - f) ∣ n - nm) ∧ r = nm.toNat) (by assumption) (by assumption) ⟨n, ps, [], _, _, _, ⟨rfl, rfl, rfl, rfl, rfl, rfl, trivial⟩, rfl, hps, (fun q hq => nomatch hq), hbare, hn, by simp, rfl⟩ ?_⟩
  rintro r m₁ news₁ h₁ tk₁ G₁ F₁ N₁ ⟨nm, ps1, ex, ta, tb, tc, hm, rfl, hps1, hex, hG1, hnm, hdv, hr⟩
  have F₂ := ovl_fr F₁ hm
  clear F₁ hm
  have hin : ∀ q ∈ nw, q ∈ ex ++ nw := fun q hq => List.mem_append_right _ hq
  have hraL2 : (ra, roadOf (u : Int) (2 * (u : Int)) t1 t2 161 169) ∈ (201, tabObj ps1) :: (ex ++ nw) := .tail _ (hin _ hra)
  have hnP1 : ∀ q ∈ ex ++ nw, q.1 ≠ 201 := fun q hq => (List.mem_append.mp hq).elim (hex q) (hnP q)
  have hl2 : Lam1 (ex ++ nw) := by
    obtain ⟨c1, oc1, vs1, tt1, m1, m2, r⟩ := hl1
    exact ⟨c1, oc1, vs1, tt1, hin _ m1, hin _ m2, r⟩
  by_cases hge : 256 ^ u ≤ nm
  · k_steps
    all_goals try (exfalso; contradiction)
    refine c_fold16 (by assumption) (by assumption) (by assumption) (by assumption) (by assumption) (Around.frames_deeper hA) rfl rfl hh (by rw [depth_deeper]; omega) (by rw [units_deeper]; omega) rfl hnP1 hps1 C1 C2 hl2 hG1 (hin _ hra) (hin _ hlc) (hin _ hle) hcv hev hcs hc hes hnm hu hf2 ?_
    intro ps2 ex2 t2 h2 tk2 G2 hps2 hex2 hG2 F2 N2
    have hin2 : ∀ q ∈ nw, q ∈ (201, tabObj ps2) :: (ex2 ++ (ex ++ nw)) := fun q hq => .tail _ (List.mem_append_right _ (hin q hq))
    have hraL3 := hin2 _ hra
    k_steps
    refine c_due (by assumption) (by assumption) (by assumption) (by assumption) (by assumption) (Around.frames_deeper hA) rfl rfl hh (by rw [depth_deeper]; omega) (by rw [units_deeper]; omega) (hin2 _ hlc) (hin2 _ hle) hcv hev hcs hc hes hnm hu hf2 ?_
    intro t3 h3 tk3 F3 N3
    k_steps
    all_goals try (exfalso; contradiction)
    have hle2 := dueL_le (B := 256 ^ u) (f := f) (by omega) (by omega) (by omega) (clOf (1 :: cs) es) nm hnm.1
    have hlt2 : dueL (256 ^ u) f (clOf (1 :: cs) es) nm < nm := by rw [hcl1]; exact dueL_lt (by omega) (by omega) _ hge
    have hdv2 := dueL_dvd (B := 256 ^ u) (f := f) (by omega) (clOf (1 :: cs) es) nm hnm.1 (by omega)
    refine WhileStepG.intro (by assumption) (by assumption) (n' := (dueL (256 ^ u) f (clOf (1 :: cs) es) nm).toNat) (by omega) ⟨dueL (256 ^ u) f (clOf (1 :: cs) es) nm, ps2, ex2 ++ ex, _, _, _, ⟨rfl, rfl, rfl, rfl, rfl, rfl, trivial⟩, by rw [List.append_assoc], .inr (by rw [List.append_assoc]; exact hps2), fun q hq => (List.mem_append.mp hq).elim (hex2 q) (hex q), hG2, ⟨hle2.1, by omega⟩, ?_, rfl⟩
    have := Int.dvd_add hdv hdv2
    rw [show n - nm + (nm - dueL (256 ^ u) f (clOf (1 :: cs) es) nm) = n - dueL (256 ^ u) f (clOf (1 :: cs) es) nm by omega] at this
    exact this
  · have hfin := final_mod (B := 256 ^ u) (f := f) (n := n) (r := nm) (by omega) (by omega) hnm.1 (by omega) hdv
    k_steps
    all_goals try (exfalso; contradiction)
    · rw [if_pos (by assumption)] at hfin
      rw [hfin]
      exact ret ps1 ex _ _ _ _ hps1 hex hG1 (by assumption) (by assumption)
    · rw [if_neg (by assumption)] at hfin
      rw [hfin]
      exact ret ps1 ex _ _ _ _ hps1 hex hG1 (by assumption) (by assumption)
end
-- needs: base leaf bi loops reduce value row seg gen gen2 geni cut plain comp lam a2bh b16e b16d b64e b64f b64d texts fold fold64 due left
section
variable {w : World} {p : Program} {loose : List Str} {mean : ExcName → Option Value} {mg mb : Str → Option Value} {A : Around} {env : Env} {outer : List Env} {A₀ : Around} {base h₀ : Heap} {L : Addr} {m : Str → Option Value} {news : List (Addr × Obj)} {s : Shared} {Q E : Value → Shared → Prop}
  (B : Below A₀ base outer h₀) (F : Fr h₀ L s.heap m) (X : (hd.heap_39 w.params).In h₀) (N : News h₀ L s.heap news) (T : Top p loose mean mg mb h₀)
  (hA : A.frames = some (env :: outer)) (hf : env.frame = some L) (hke : env.scope.kind = .function) (hh : A.handled = none)
include B F X N T hA hf hke hh

theorem c_left64 {n f : Int} {tn t1 t2 tf : Tok} {ra lc le : Addr} {cv ev : List Value} {cs : List Nat} {es : List Int} {e1 e2 : Nat} {ps : Array Value} {nw : List (Addr × Obj)} (hdp : A.depth + 120 < recursionLimit) (hun : A.units + 1000 < cLine)
    (hnw : news = (201, tabObj ps) :: nw) (hnP : ∀ q ∈ nw, q.1 ≠ 201) (hps : ps = #[] ∨ TabHit 250 18 lamq2 ps nw) (C1 : CodeHd base 184 180) (C2 : CodeHd base 203 201) (hl1 : Lam1 nw) (hbare : AllBare s.gens)
    (hra : (ra, roadOf 3 4 t1 t2 146 154) ∈ nw) (hlc : (lc, W.listOf cv.toArray e1) ∈ nw) (hle : (le, W.listOf ev.toArray e2) ∈ nw) (hcv : IntsAre cv ((1 :: cs).map fun c => Int.ofNat c)) (hev : IntsAre ev es) (hcs : cs.length ≤ 3) (hc : ∀ x ∈ 1 :: cs, 1 ≤ x ∧ x ≤ 6) (hes : es = [0] ∨ es = [127, 0] ∨ es = [])
    (hn : 0 ≤ n ∧ n < 281474976710656) (hf2 : 2 ≤ f ∧ f ≤ 12)
    (ret : ∀ ps' ex t h' tk' G', (ps' = #[] ∨ TabHit 250 18 lamq2 ps' (ex ++ nw)) → (∀ q ∈ ex, q.1 ≠ 201) → AllBare G' → Fr h₀ L h' m → News h₀ L h' ((201, tabObj ps') :: (ex ++ nw)) → Q (.int (n % (256 ^ 3 - f)) t) { s with heap := h', toks := tk', gens := G' }) :
    wpAny (model prg w) A (call (.ref 218) [.int n tn, .ref ra, .ref lc, .ref le, .int f tf]) Q E s := by
  subst hnw
  have hraL : (ra, roadOf 3 4 t1 t2 146 154) ∈ (201, tabObj ps) :: nw := .tail _ hra
  have heu : (3 : Int) = ((3 : Nat) : Int) := rfl
  have hu18 : 3 ≤ 18 := by omega
  have hB256 : (256 : Int) ≤ 256 ^ 3 := by decide
  have hB48 : (281474976710656 : Int) ≤ (256 ^ 3) ^ (clOf (1 :: cs) es).sum := by
    have h6 := clOf_sum (es := es) (fun x hx => (hc x hx).1) (List.cons_ne_nil 1 cs)
    obtain ⟨d, hd⟩ := Nat.exists_eq_add_of_le h6
    have h7 : (281474976710656 : Int) ≤ (256 ^ 3) ^ 6 := by decide
    have h8 : (1 : Int) ≤ (256 ^ 3) ^ d := pow_pos' (by omega) d
    have h9 : ((256 ^ 3) ^ 6 : Int) * 1 ≤ (256 ^ 3) ^ 6 * (256 ^ 3) ^ d := Int.mul_le_mul_of_nonneg_left h8 (by omega)
    rw [hd, Int.pow_add]
    omega
  have hcl1 : clOf (1 :: cs) es = 1 :: (clOf (1 :: cs) es).tail := by unfold clOf; split <;> rfl
  ktr_enter
  k_steps
  refine ⟨While_invG (n₀ := n.toNat) (fun r m₁ news₁ G₁ => ∃ (nm : Int) (ps1 : Array Value) (ex : List (Addr × Obj)) (ta tb tc : Tok), AllAt m₁ [(Str.ofString "number", .int nm ta), (Str.ofString "road", .ref ra), (Str.ofString "counts", .ref lc), (Str.ofString "ending", .ref le), (Str.ofString "factor", .int f tb), (Str.ofString "top", .int (256 ^ 3) tc)] ∧ news₁ = (201, tabObj ps1) :: (ex ++ nw) ∧ (ps1 = #[] ∨ TabHit 250 18 lamq2 ps1 (ex ++ nw)) ∧ (∀ q ∈ ex, q.1 ≠ 201) ∧ AllBare G₁ ∧ (0 ≤ nm ∧ nm < 281474976710656) ∧ ((256 ^ 3 - f) ∣ n - nm) ∧ r = nm.toNat) (by assumption) (by assumption) ⟨n, ps, [], _, _, _, ⟨rfl, rfl, rfl, rfl, rfl, rfl, trivial⟩, rfl, hps, (fun q hq => nomatch hq), hbare, hn, by simp, rfl⟩ ?_⟩
  rintro r m₁ news₁ h₁ tk₁ G₁ F₁ N₁ ⟨nm, ps1, ex, ta, tb, tc, hm, rfl, hps1, hex, hG1, hnm, hdv, hr⟩
  have F₂ := ovl_fr F₁ hm
  clear F₁ hm
  have hin : ∀ q ∈ nw, q ∈ ex ++ nw := fun q hq => List.mem_append_right _ hq
  have hraL2 : (ra, roadOf 3 4 t1 t2 146 154) ∈ (201, tabObj ps1) :: (ex ++ nw) := .tail _ (hin _ hra)
  have hnP1 : ∀ q ∈ ex ++ nw, q.1 ≠ 201 := fun q hq => (List.mem_append.mp hq).elim (hex q) (hnP q)
  have hl2 : Lam1 (ex ++ nw) := by
    obtain ⟨c1, oc1, vs1, tt1, m1, m2, r⟩ := hl1
    exact ⟨c1, oc1, vs1, tt1, hin _ m1, hin _ m2, r⟩
  by_cases hge : 256 ^ 3 ≤ nm
  · k_steps
    all_goals try (exfalso; contradiction)
    refine c_fold64 (by assumption) (by assumption) (by assumption) (by assumption) (by assumption) (Around.frames_deeper hA) rfl rfl hh (by rw [depth_deeper]; omega) (by rw [units_deeper]; omega) rfl hnP1 hps1 C1 C2 hl2 hG1 (hin _ hra) (hin _ hlc) (hin _ hle) hcv hev hcs hc hes ⟨by simp only [Int.reducePow] at hge; omega, hnm.2⟩ hf2 ?_
    intro ps2 ex2 t2 h2 tk2 G2 hps2 hex2 hG2 F2 N2
    have hin2 : ∀ q ∈ nw, q ∈ (201, tabObj ps2) :: (ex2 ++ (ex ++ nw)) := fun q hq => .tail _ (List.mem_append_right _ (hin q hq))
    have hraL3 := hin2 _ hra
    k_steps
    refine c_due (u := 3) (by assumption) (by assumption) (by assumption) (by assumption) (by assumption) (Around.frames_deeper hA) rfl rfl hh (by rw [depth_deeper]; omega) (by rw [units_deeper]; omega) (hin2 _ hlc) (hin2 _ hle) hcv hev hcs hc hes hnm (.inr (.inr rfl)) hf2 ?_
    intro t3 h3 tk3 F3 N3
    k_steps
    all_goals try (exfalso; contradiction)
    have hle2 := dueL_le (B := 256 ^ 3) (f := f) (by omega) (by omega) (by omega) (clOf (1 :: cs) es) nm hnm.1
    have hlt2 : dueL (256 ^ 3) f (clOf (1 :: cs) es) nm < nm := by rw [hcl1]; exact dueL_lt (by omega) (by omega) _ hge
    have hdv2 := dueL_dvd (B := 256 ^ 3) (f := f) (by omega) (clOf (1 :: cs) es) nm hnm.1 (by omega)
    refine WhileStepG.intro (by assumption) (by assumption) (n' := (dueL (256 ^ 3) f (clOf (1 :: cs) es) nm).toNat) (by omega) ⟨dueL (256 ^ 3) f (clOf (1 :: cs) es) nm, ps2, ex2 ++ ex, _, _, _, ⟨rfl, rfl, rfl, rfl, rfl, rfl, trivial⟩, by rw [List.append_assoc], .inr (by rw [List.append_assoc]; exact hps2), fun q hq => (List.mem_append.mp hq).elim (hex2 q) (hex q), hG2, ⟨hle2.1, by omega⟩, ?_, rfl⟩
    have := Int.dvd_add hdv hdv2
    rw [show n - nm + (nm - dueL (256 ^ 3) f (clOf (1 :: cs) es) nm) = n - dueL (256 ^ 3) f (clOf (1 :: cs) es) nm by omega] at this
    exact this
  · have hfin := final_mod (B := 256 ^ 3) (f := f) (n := n) (r := nm) (by omega) (by omega) hnm.1 (by omega) hdv
    k_steps
    all_goals try (exfalso; contradiction)
    · rw [if_pos (by assumption)] at hfin
      rw [hfin]
      exact ret ps1 ex _ _ _ _ hps1 hex hG1 (by assumption) (by assumption)
    · rw [if_neg (by assumption)] at hfin
      rw [hfin]
      exact ret ps1 ex _ _ _ _ hps1 hex hG1 (by assumption) (by assumption)
end
-- needs: base leaf bi loops reduce value row seg gen gen2 geni cut plain comp lam
section
variable {w : World} {p : Program} {loose : List Str} {mean : ExcName → Option Value} {mg mb : Str → Option Value} {A : Around} {env : Env} {outer : List Env} {A₀ : Around} {base h₀ : Heap} {L : Addr} {m : Str → Option Value} {news : List (Addr × Obj)} {s : Shared} {Q E : Value → Shared → Prop}
  (B : Below A₀ base outer h₀) (F : Fr h₀ L s.heap m) (X : (hd.heap_39 w.params).In h₀) (N : News h₀ L s.heap news) (T : Top p loose mean mg mb h₀)
  (hA : A.frames = some (env :: outer)) (hf : env.frame = some L) (hke : env.scope.kind = .function) (hh : A.handled = none)
include B F X N T hA hf hke hh
/-- the first call of _law_value: its lambda is made, and its code table filled -/
theorem c_value0 {x : Value} {ns : List Int} {val : Nat → Value → Prop} {P : Nat → Obj → Prop} {nw : List (Addr × Obj)} (hdp : A.depth + 30 < recursionLimit) (hun : A.units + 240 < cLine) (C1 : CodeHd base 184 180) (hnw : news = (180, tabObj #[]) :: nw) (hnP : ∀ q ∈ nw, q.1 ≠ 180)
    (hsrc : ∀ news', (∀ q ∈ nw, q ∈ news') → GoesOn news' x ns.length val P) (hval : ∀ i v, val i v → ∃ u, v = .int (ns.getD i 0) u)
    (ret : ∀ c1 oc1 vs1 t1 t h' tk', oc1.data = .fields vs1 → vs1[1]? = some (.str lamq1 t1) → (∀ q ∈ (180, tabObj #[]) :: nw, q.1 < c1) → Fr h₀ L h' m → News h₀ L h' ((c1, oc1) :: (180, tabObj #[rawInt 230, rawInt 18, .ref c1]) :: nw) → Q (.int (val256 ns) t) { s with heap := h', toks := tk' }) :
    wpAny (model prg w) A (call (.ref 185) [x]) Q E s := by
  subst hnw
  ktr_enter
  k_steps
  refine ⟨kla_eval rfl ?_⟩
  refine kla_nest (ps := #[]) (by assumption) (by assumption) (by assumption) (CodeHd.keeps C1 (Below.stays (by assumption))) rfl (.head hnP) True.intro rfl rfl ?_
  intro f c1 oc1 vs1 t1 ctv h2 tk2 F2 N2 hoc hv1 hlt hf
  dsimp only
  k_steps
  refine c_reduce (k := 10) (ku := 80) (n := ns.length) (val := val) (P := P) (acc := fun i => val256 (ns.take i)) (by assumption) F2 (by assumption) N2 (by assumption) (Around.frames_deeper hA) rfl rfl hh (by rw [depth_deeper]; omega) (by rw [units_deeper]; omega) (hsrc _ (fun q hq => .tail _ (.tail _ (.tail _ hq)))) (.head _) rfl ?_ ?_
  · intro i hi v ta hv
    obtain ⟨u, rfl⟩ := hval i v hv
    intro A2 env2 outer2 A₀2 h₀2 L2 m2 news2 s2 Q2 E2 B2 F2 X2 N2 T2 hA2 hf2 hk2 hh2 hd2 hu2 hsub ret2
    refine wpAny_call (kla_code B2 F2 X2 N2 T2 hA2 hf2 hk2 (hsub _ (.head _)) (codeRec_news N2 (hsub _ (.tail _ (.head _))) hoc hv1) (by omega) rfl (locs rfl) ?_ rfl rfl rfl (by decide))
    intro g' L' h' FG F' N' B' X' T'
    dsimp only
    k_fold
    k_steps
    have e := val256_snoc ns i hi
    dsimp only at ret2
    rw [e] at ret2
    exact ret2 _ _ _ (by assumption) (by assumption)
  · intro t3 h3 tk3 F3 N3
    dsimp only at *
    rw [List.take_length]
    k_steps
    refine ret c1 oc1 vs1 t1 _ _ _ hoc hv1 hlt (by assumption) (news_sub (by assumption) ?_)
    intro q hq
    simp only [List.mem_cons] at hq ⊢
    rcases hq with h | h | h <;> simp [h]
end
-- needs: base loops geni
/-- what a turn of a comprehension ends in, generators and all -/
def TurnEnd (h₀ : Heap) (L : Addr) (m : Str → Option Value) (s₂ : Shared) (C D : Addr) (ys : List Value) (ok : Prop) (J : List Value → List (Addr × Obj) → Array GenState → Prop) (y : Value) (s₃ : Shared) : Prop :=
  ∃ h' tk G' oC m' news', s₃ = { s₂ with heap := h', toks := tk, gens := G' } ∧ LCg.NsObj oC m' ∧ Fr h₀ L h' m ∧ News h₀ L h' ((C, oC) :: (D, LCg.lst ys) :: news') ∧ (∀ p ∈ news', p.1 ≠ C ∧ p.1 ≠ D) ∧ ok ∧ J (ys ++ [y]) news' G'
theorem ncons {h₀ h : Heap} {L : Addr} {p : Addr × Obj} {r : List (Addr × Obj)} (h1 : h.get? p.1 = some p.2 ∧ p.1 ≠ L ∧ h₀.get? p.1 = none) (h2 : News h₀ L h r) : News h₀ L h (p :: r) := List.forall_mem_cons.mpr ⟨h1, h2⟩
theorem fcons {P : Addr × Obj → Prop} {p : Addr × Obj} {r : List (Addr × Obj)} (h1 : P p) (h2 : ∀ q ∈ r, P q) : ∀ q ∈ p :: r, P q := List.forall_mem_cons.mpr ⟨h1, h2⟩
section
variable {prog : Program} {w : World} {A : Around} {E : Value → Shared → Prop} {s : Shared} {h₀ : Heap} {L : Addr} {m : Str → Option Value} {env : Env}
/-- a comprehension of one clause, by an invariant over the turns -/
theorem comp_inv {target iter elt : PySem.Expr} {scope : Scope} {cl : List (Str × Addr)} {pos : Pos} {Q : Value → Shared → Prop} 
    (hclos : closureFor scope env = pure cl) (hcell : ∀ y ∈ scope.names, y.2 ≠ .cell) (hkind : scope.kind = .function)
    (hnames : ∀ y ∈ scope.names, y.2 = .local → scope.names.lookup y.1 = some .local) (hs : ∀ x, foldedSetIterable iter env x = pure x)
    (h : wpAny (model prog w) A (eval iter env) (fun xv s₁ => wpAny (model prog w) A (pyIter xv) (fun it s₂ => ∃ (I : Addr) (news : List (Addr × Obj)) (n : Nat) (J : Nat → List Value → List (Addr × Obj) → Array GenState → Prop), it = .ref I ∧ n ≤ sizeLine ∧ Fr h₀ L s₂.heap m ∧ News h₀ L s₂.heap news ∧ J 0 [] news s₂.gens ∧
      (∀ ys news' G' (s' : Shared) (E' : Value → Shared → Prop) (Q' : Value → Shared → Prop), J 0 ys news' G' → News h₀ L s'.heap news' → Q' (.ref I) s' → wpAny (model prog w) A (pyIter (.ref I)) Q' E' s') ∧
      (∀ i ys news' C oC D m₂ h tk G (E' : Value → Shared → Prop), J i ys news' G → ys.length = i → i ≤ n → LCg.NsObj oC m₂ → Fr h₀ L h m → News h₀ L h ((C, oC) :: (D, LCg.lst ys) :: news') → (@Ne Nat C D) → (∀ p ∈ news', p.1 ≠ C ∧ p.1 ≠ D) →
        wpAny (model prog w) A (pyNext (.ref I)) (fun r s₃ => match r with
          | none => ∃ h' tk' news'', s₃ = { s₂ with heap := h', toks := tk', gens := G } ∧ Fr h₀ L h' m ∧ News h₀ L h' ((C, oC) :: (D, LCg.lst ys) :: news'') ∧ (∀ p ∈ news'', p.1 ≠ C ∧ p.1 ≠ D) ∧
              (∀ D h tk, Fr h₀ L h m → News h₀ L h ((D, LCg.lst ys) :: news'') → Q (.ref D) { s₂ with heap := h, toks := tk, gens := G })
          | some v => wpAny (model prog w) A (letOwnedTupleGo target (.ref I) v) (fun _ s₄ => wpAny (model prog w) A (assign target (compEnvC scope cl C env) v) (fun _ s₅ => wpAny (model prog w) A (eval elt (compEnvC scope cl C env))
              (TurnEnd h₀ L m s₂ C D ys (i < n) (J (i + 1))) E' s₅) E' s₄) E' s₃) E' { s₂ with heap := h, toks := tk, gens := G })) E s₁) E s) :
    wpAny (model prog w) A (eval (.ListComp elt [⟨target, iter, [], 0⟩] scope pos) env) Q E s := by
  rw [eval_ListComp]
  refine wpAny_comprehension_free (use := none) rfl hs hclos hkind hnames (wpAny_mono h (fun xv s₁ h₁ => wpAny_mono h₁ (fun it s₂ h₂ => ?_) fun _ _ e => e) fun _ _ e => e)
  obtain ⟨I, news, n, J, rfl, hsz, F, N, hJ, self, turn⟩ := h₂
  refine wpAny_newObj_type (wpAny_newFunctionEnv hcell (by intro y hy; simp at hy) (fun h₁ hns₁ hsb₁ => ?_) hkind)
  dsimp only at hns₁ hsb₁ ⊢
  generalize hH2 : s₂.heap.push { cls := .type "list", dict := none, data := .seq ([] : List Value).toArray } = H2 at hns₁ hsb₁ ⊢
  have hC : H2.objs.size = s₂.heap.objs.size + 1 := by rw [← hH2, Heap.size_push]
  have hDC : s₂.heap.objs.size ≠ H2.objs.size := by rw [hC]; exact Nat.ne_of_lt (Nat.lt_succ_self _)
  have below : ∀ b, b < s₂.heap.objs.size → b ≠ H2.objs.size ∧ b ≠ s₂.heap.objs.size := fun b hb => ⟨by rw [hC]; exact Nat.ne_of_lt (Nat.lt_succ_of_lt hb), Nat.ne_of_lt hb⟩
  have old : ∀ b o, s₂.heap.get? b = some o → h₁.get? b = some o := fun b o e => hsb₁.extBut b o (below b (Heap.lt_size e)).1 (Heap.get?_push_of_some _ (hH2 ▸ Heap.get?_push_of_some _ e))
  have hacc : h₁.get? s₂.heap.objs.size = some (LCg.lst []) := hsb₁.extBut _ _ hDC (Heap.get?_push_of_some _ (hH2 ▸ Heap.get?_push_size _ rfl))
  have fresh : ∀ a, s₂.heap.objs.size ≤ a → s₂.heap.get? a = none := fun a ha => by
    cases e : s₂.heap.get? a with
    | none => rfl
    | some o' => exact absurd (Heap.lt_size e) (Nat.not_lt.mpr ha)
  have fresh₀ : ∀ a, s₂.heap.objs.size ≤ a → h₀.get? a = none := fun a ha => by
    cases e : h₀.get? a with
    | none => rfl
    | some o' => have := F.keep a o' e; rw [fresh a ha] at this; cases this
  have hD₀ : h₀.get? s₂.heap.objs.size = none := fresh₀ _ (Nat.le_refl _)
  have hC₀ : h₀.get? H2.objs.size = none := fresh₀ _ (by rw [hC]; exact Nat.le_succ _)
  have hLlt : L < s₂.heap.objs.size := F.ns.lt
  have hDL : s₂.heap.objs.size ≠ L := Ne.symm (below L hLlt).2
  have hCL : H2.objs.size ≠ L := Ne.symm (below L hLlt).1
  obtain ⟨oC, heC, hoC⟩ := LCg.ns_obj hns₁
  have N₁ : News h₀ L h₁ news := fun p hp => ⟨old _ _ (N p hp).1, (N p hp).2⟩
  have loop : ∀ s₃ : Shared, s₃ = { s₂ with heap := h₁, toks := s₂.toks + ([] : List (Str × Value)).length } →
      codeAny (model prog w) A (.compLoop (.ListComp elt [⟨target, iter, [], 0⟩] scope pos) 0 (.ref I) (.ref s₂.heap.objs.size) (compEnvC scope cl H2.objs.size env))
        (compPost (model prog w) A E none Q (.ref s₂.heap.objs.size) H2.objs.size) s₃ := by
    rintro s₃ rfl
    refine kcp_loop
      (fun k s' => ∃ h' tk G i ys oC m' news', s' = { s₂ with heap := h', toks := tk, gens := G } ∧ i ≤ n ∧ k = n + 1 - i ∧ ys.length = i ∧ Fr h₀ L h' m ∧ LCg.NsObj oC m' ∧
        News h₀ L h' ((H2.objs.size, oC) :: (s₂.heap.objs.size, LCg.lst ys) :: news') ∧ (∀ p ∈ news', p.1 ≠ H2.objs.size ∧ p.1 ≠ s₂.heap.objs.size) ∧ J i ys news' G) ?_ (n + 1)
      ⟨h₁, _, s₂.gens, 0, [], oC, _, news, rfl, Nat.zero_le _, rfl, rfl, F.keeps old, hoC, ncons ⟨heC, hCL, hC₀⟩ (ncons ⟨hacc, hDL, hD₀⟩ N₁), fun p hp => below _ (Heap.lt_size (N p hp).1), hJ⟩
    · rintro k s' ⟨h', tk, G, i, ys, oC', m', news', rfl, hi, rfl, hyl, F', hC', N', off', hJ'⟩
      refine wpAny_mono (turn i ys news' H2.objs.size oC' s₂.heap.objs.size m' h' tk G _ hJ' hyl hi hC' F' N' (Ne.symm hDC) off') (fun r s₃ h₃ => ?_) fun _ _ e => e
      cases r with
      | none =>
        obtain ⟨h₄, tk₄, news₄, rfl, F₄, N₄, off₄, fin⟩ := h₃
        refine ⟨m', hC'.ns (N₄ _ (.head _)).1, fun h₅ hs₅ => ?_⟩
        exact fin _ _ _ (F₄.change hs₅ hCL hC₀) (ncons ⟨hs₅.extBut _ _ hDC (N₄ _ (.tail _ (.head _))).1, (N₄ _ (.tail _ (.head _))).2⟩ fun p hp => ⟨hs₅.extBut _ _ (off₄ p hp).1 (N₄ p (.tail _ (.tail _ hp))).1, (N₄ p (.tail _ (.tail _ hp))).2⟩)
      | some v =>
        refine wpAny_mono h₃ (fun _ s₄ h₄ => wpAny_mono h₄ (fun _ s₅ h₅ => wpAny_mono h₅ (fun y s₆ h₆ => ?_) fun _ _ e => e) fun _ _ e => e) fun _ _ e => e
        obtain ⟨h₆, tk₆, G₆, oC₆, m₆, news₆, rfl, hC₆, F₆, N₆, off₆, hlt, hJ₆⟩ := h₆
        have zD := (N₆ _ (.tail _ (.head _))).1
        refine append_at (hsz := by show ys.toArray.size ≤ sizeLine; rw [List.size_toArray, hyl]; exact Nat.le_trans hi hsz) zD fun h₇ hs₇ hD₇ => ?_
        refine ⟨n + 1 - (i + 1), by omega, h₇, tk₆, G₆, i + 1, ys ++ [y], oC₆, m₆, news₆, rfl, hlt, rfl, by rw [List.length_append, List.length_singleton, hyl], F₆.change hs₇ hDL hD₀, hC₆,
          ncons ⟨hs₇.extBut _ _ (Ne.symm hDC) (N₆ _ (.head _)).1, (N₆ _ (.head _)).2⟩ (ncons ⟨hD₇.trans (congrArg some (LCg.lst_snoc ys y)), hDL, hD₀⟩ fun p hp => ⟨hs₇.extBut _ _ (off₆ p hp).2 (N₆ p (.tail _ (.tail _ hp))).1, (N₆ p (.tail _ (.tail _ hp))).2⟩), off₆, hJ₆⟩
  exact codeAny_compStart_list (loop _ rfl) (self [] news s₂.gens _ _ _ hJ N₁ (loop _ rfl))
theorem val_snoc {Val : Nat → Value → Prop} {ys : List Value} {y : Value} {i : Nat} (hyl : ys.length = i) (hval : ∀ j y, ys[j]? = some y → Val j y) (hv : Val i y) : ∀ j z, (ys ++ [y])[j]? = some z → Val j z := by
  intro j z q
  by_cases hj : j < ys.length
  · rw [List.getElem?_append_left hj] at q; exact hval j z q
  · rw [List.getElem?_append_right (Nat.le_of_not_lt hj)] at q
    cases h0 : j - ys.length with
    | zero =>
      rw [h0] at q
      cases q
      rw [Nat.le_antisymm (Nat.le_of_sub_eq_zero h0) (Nat.le_of_not_lt hj), hyl]; exact hv
    | succ k => rw [h0] at q; cases q
/-- the source of a comprehension that goes through enumerate of a list in hand -/
def EnumSrc (prog : Program) (w : World) (A : Around) (h₀ : Heap) (L : Addr) (m : Str → Option Value) (env : Env) (elt : PySem.Expr) (a b : Str) (scope : Scope) (cl : List (Str × Addr)) (Q : Value → Shared → Prop) (xv : Value) (s₁ : Shared) : Prop :=
  ∃ (e it l : Addr) (vs : List Value) (ep : Nat) (news : List (Addr × Obj)) (Val : Nat → Value → Prop), xv = .ref e ∧ A.handled = none ∧ Fr h₀ L s₁.heap m ∧ News h₀ L s₁.heap news ∧ (l, W.listOf vs.toArray ep) ∈ news ∧ IsEnum s₁.heap e it 0 .none ∧ s₁.heap.IsListIter it l 0 ∧ e ≠ it ∧
    (∀ p ∈ news, p.1 ≠ e ∧ p.1 ≠ it) ∧ e ≠ L ∧ it ≠ L ∧ h₀.get? e = none ∧ h₀.get? it = none ∧ vs.length ≤ sizeLine ∧
    (∀ (i : Nat) v t C oC D m₂ h tk ys oe oi (E' : Value → Shared → Prop), vs[i]? = some v → LCg.NsObj oC m₂ → m₂ a = some (.int (i : Int) t) → m₂ b = some v → Fr h₀ L h m → News h₀ L h ((C, oC) :: (D, LCg.lst ys) :: (e, oe) :: (it, oi) :: news) →
      wpAny (model prog w) A (eval elt (compEnvC scope cl C env)) (fun y s' => Held (∃ h' tk', s' = { s₁ with heap := h', toks := tk' } ∧ Fr h₀ L h' m ∧ News h₀ L h' ((C, oC) :: (D, LCg.lst ys) :: (e, oe) :: (it, oi) :: news) ∧ Val i y)) E' { s₁ with heap := h, toks := tk }) ∧
    (∀ ys D h tk, ys.length = vs.length → (∀ i y, ys[i]? = some y → Val i y) → Fr h₀ L h m → News h₀ L h ((D, LCg.lst ys) :: news) → Q (.ref D) { s₁ with heap := h, toks := tk })
theorem comp_enum {iter elt : PySem.Expr} {a b : Str} {pa pb tp : Pos} {kk : Nat} {scope : Scope} {cl : List (Str × Addr)} {pos : Pos} {Q : Value → Shared → Prop} (_F₀ : Fr h₀ L s.heap m)
    (hclos : closureFor scope env = pure cl) (hcell : ∀ y ∈ scope.names, y.2 ≠ .cell) (hkind : scope.kind = .function)
    (hnames : ∀ y ∈ scope.names, y.2 = .local → scope.names.lookup y.1 = some .local) (hs : ∀ x, foldedSetIterable iter env x = pure x) (hxa : scope.names.lookup a = some .local) (hxb : scope.names.lookup b = some .local) (hab : ¬ a = b)
    (h : wpAny (model prog w) A (eval iter env) (EnumSrc prog w A h₀ L m env elt a b scope cl Q) E s) :
    wpAny (model prog w) A (eval (.ListComp elt [⟨.Tuple [.Name a pa, .Name b pb] kk tp, iter, [], 0⟩] scope pos) env) Q E s := by
  refine comp_inv (h₀ := h₀) (L := L) (m := m) hclos hcell hkind hnames hs (wpAny_mono h (fun xv s₁ h₁ => ?_) fun _ _ e => e)
  obtain ⟨e, it, l, vs, ep, news, Val, rfl, hh, F, N, hl, he, hit, hne, hoff, heL, hiL, he0, hi0, hsz, step, fin⟩ := h₁
  refine wpAny_pyIter_enum he ?_
  obtain ⟨oi₀, hoi₀, hic₀, hid₀⟩ := hit
  have NN : News h₀ L s₁.heap ((e, { cls := .type "enumerate", dict := none, data := .fields #[.none, .bool false, .ref it, rawInt 0, .none, .none], slots := #[] }) :: (it, oi₀) :: news) := ncons ⟨he, heL, he0⟩ (ncons ⟨hoi₀, hiL, hi0⟩ N)
  refine ⟨e, _, vs.length, fun i ys news' G => ∃ old oi, news' = (e, ({ cls := .type "enumerate", dict := none, data := .fields #[.none, .bool false, .ref it, rawInt (i : Int), .none, old], slots := #[] } : Obj)) :: (it, oi) :: news ∧ oi.cls = .type "list_iterator" ∧ oi.data = .fields #[.ref l, .int (i : Int) 0] ∧ G = s₁.gens ∧ ∀ j y, ys[j]? = some y → Val j y,
    rfl, hsz, F, NN, ⟨.none, oi₀, rfl, hic₀, hid₀, rfl, fun j y h => by simp at h⟩, ?_, ?_⟩
  · rintro ys news' G' s' E' Q' ⟨old, oi, rfl, _⟩ N' hq
    exact wpAny_pyIter_enum (i := 0) (old := old) (it := it) (N' _ (.head _)).1 hq
  · rintro i ys news' C oC D m₂ h₂ tk₂ G E' ⟨old, oi, rfl, hic, hid, rfl, hval⟩ hyl hin hoC F₂ N₂ hCD off
    have nC : C ≠ e ∧ C ≠ it := ⟨Ne.symm (off _ (.head _)).1, Ne.symm (off _ (.tail _ (.head _))).1⟩
    have nD : D ≠ e ∧ D ≠ it := ⟨Ne.symm (off _ (.head _)).2, Ne.symm (off _ (.tail _ (.head _))).2⟩
    have hl₂ : h₂.IsList l vs.toArray := ⟨_, (N₂ _ (.tail _ (.tail _ (.tail _ (.tail _ hl))))).1, rfl, ep, rfl⟩
    have he₂ : IsEnum h₂ e it (i : Int) old := (N₂ _ (.tail _ (.tail _ (.head _)))).1
    have hit₂ : h₂.IsListIter it l i := ⟨oi, (N₂ _ (.tail _ (.tail _ (.tail _ (.head _))))).1, hic, hid⟩
    cases hx : vs[i]? with
    | none =>
      have hlen : ys.length = vs.length := by rw [hyl]; exact Nat.le_antisymm hin (by simpa using hx)
      refine wpAny_pyNext_enum_end hh he₂ hit₂ hl₂ (by simpa using hx) fun h₃ hk₃ => ?_
      have N₃ : News h₀ L h₃ ((C, oC) :: (D, LCg.lst ys) :: news) := ncons ⟨hk₃ _ _ nC.2 (N₂ _ (.head _)).1, (N₂ _ (.head _)).2⟩ (ncons ⟨hk₃ _ _ nD.2 (N₂ _ (.tail _ (.head _))).1, (N₂ _ (.tail _ (.head _))).2⟩ fun p hp => ⟨hk₃ _ _ (hoff p hp).2 (N₂ p (.tail _ (.tail _ (.tail _ (.tail _ hp))))).1, (N₂ p (.tail _ (.tail _ (.tail _ (.tail _ hp))))).2⟩)
      refine ⟨h₃, _, news, rfl, ⟨F₂.ns.extBut hk₃ (Ne.symm hiL), fun b o e => hk₃ b o (fun q => by rw [q, hi0] at e; cases e) (F₂.keep b o e), F₂.above⟩, N₃, fun p hp => off p (.tail _ (.tail _ hp)), ?_⟩
      intro D' h' tk' F' N'
      exact fin ys D' h' tk' hlen hval F' N'
    | some v =>
      have hlt : i < vs.length := (List.getElem?_eq_some_iff.mp hx).1
      have heH : e < h₂.objs.size := Heap.lt_size he₂
      refine wpAny_pyNext_enum_item he₂ hit₂ hl₂ (by simpa using hx) hne fun h₃ heo hit₃ ht₃ hz₃ hk₃ => ?_
      refine wpAny_letOwnedTupleGo_enum heo fun h₄ he₄ hs₄ => ?_
      replace hs₄ : Heap.SameBut e h₃ h₄ := hs₄
      have ht₄ : h₄.IsTuple h₂.objs.size #[.int (i : Int) tk₂, v] := ⟨_, (hs₄.2 _ (Nat.ne_of_gt heH)).trans ht₃, rfl, _, rfl⟩
      have up₄ : ∀ c o, c ≠ e → c ≠ it → h₂.get? c = some o → h₄.get? c = some o := fun c o h1 h2 q => hs₄.extBut c o h1 (hk₃ c o h1 h2 q)
      refine kcp_assign (env := compEnvC scope cl C env) hh ht₄ (lookup_relabel_local hxa) (lookup_relabel_local hxb) (by simp [compEnvC, relabel, hkind]) ((hoC.ns (N₂ _ (.head _)).1).at' fun o q => up₄ _ o nC.1 nC.2 q) fun h₅ tk₅ hn₅ hs₅ => ?_
      obtain ⟨oC₅, hC₅, hoC₅⟩ := LCg.ns_obj hn₅
      replace hC₅ : h₅.get? C = some oC₅ := hC₅
      have up₅ : ∀ c o, c ≠ e → c ≠ it → c ≠ C → h₂.get? c = some o → h₅.get? c = some o := fun c o h1 h2 h3 q => hs₅ c o h3 (up₄ c o h1 h2 q)
      obtain ⟨oi₅, hoi₅, hic₅, hid₅⟩ := hit₃
      have hI₅ : h₅.get? it = some oi₅ := hs₅ _ _ (Ne.symm nC.2) (hs₄.extBut _ _ (Ne.symm hne) hoi₅)
      have hE₅ : IsEnum h₅ e it ((i : Int) + 1) v := hs₅ _ _ (Ne.symm nC.1) he₄
      have hC0 : h₀.get? C = none := (N₂ _ (.head _)).2.2
      have hCL : C ≠ L := (N₂ _ (.head _)).2.1
      have F₅ : Fr h₀ L h₅ m := ⟨F₂.ns.at' fun o q => up₅ _ o (Ne.symm heL) (Ne.symm hiL) (Ne.symm hCL) q, fun c o q => up₅ c o (fun z => by rw [z, he0] at q; cases q) (fun z => by rw [z, hi0] at q; cases q) (fun z => by rw [z, hC0] at q; cases q) (F₂.keep c o q), F₂.above⟩
      have N₅ : News h₀ L h₅ ((C, oC₅) :: (D, LCg.lst ys) :: (e, ({ cls := .type "enumerate", dict := none, data := .fields #[.none, .bool false, .ref it, rawInt ((i : Int) + 1), .none, v], slots := #[] } : Obj)) :: (it, oi₅) :: news) := ncons ⟨hC₅, hCL, hC0⟩ (ncons ⟨up₅ _ _ nD.1 nD.2 (Ne.symm hCD) (N₂ _ (.tail _ (.head _))).1, (N₂ _ (.tail _ (.head _))).2⟩ (ncons ⟨hE₅, heL, he0⟩ (ncons ⟨hI₅, hiL, hi0⟩ fun p hp => ⟨up₅ _ _ (hoff p hp).1 (hoff p hp).2 (off p (.tail _ (.tail _ hp))).1 (N₂ p (.tail _ (.tail _ (.tail _ (.tail _ hp))))).1, (N₂ p (.tail _ (.tail _ (.tail _ (.tail _ hp))))).2⟩)))
      refine wpAny_mono (step i v tk₂ C oC₅ D _ h₅ _ ys _ _ _ hx hoC₅ (by simp [hab]) (by simp) F₅ N₅) (fun y s₆ h₆ => ?_) fun _ _ q => q
      obtain ⟨⟨h₆, tk₆, rfl, F₆, N₆, hv⟩⟩ := h₆
      refine ⟨h₆, tk₆, s₁.gens, oC₅, _, _, rfl, hoC₅, F₆, N₆, fcons ⟨Ne.symm nC.1, Ne.symm nD.1⟩ (fcons ⟨Ne.symm nC.2, Ne.symm nD.2⟩ fun p hp => off p (.tail _ (.tail _ hp))), hlt, v, oi₅, by rw [Int.natCast_add]; rfl, hic₅, by rw [hid₅], rfl, val_snoc hyl hval hv⟩
theorem enum_src {elt : PySem.Expr} {a b : Str} {scope : Scope} {cl : List (Str × Addr)} {Q : Value → Shared → Prop} {l : Addr} {vs : List Value} {ep : Nat} {news : List (Addr × Obj)} (Val : Nat → Value → Prop) (hh : A.handled = none) (F : Fr h₀ L s.heap m) (N : News h₀ L s.heap news) (hl : (l, W.listOf vs.toArray ep) ∈ news) (hsz : vs.length ≤ sizeLine)
    (step : ∀ (e it : Addr) (i : Nat) v t C oC D m₂ h tk ys oe oi (E' : Value → Shared → Prop), vs[i]? = some v → LCg.NsObj oC m₂ → m₂ a = some (.int (i : Int) t) → m₂ b = some v → Fr h₀ L h m → News h₀ L h ((C, oC) :: (D, LCg.lst ys) :: (e, oe) :: (it, oi) :: news) →
      wpAny (model prog w) A (eval elt (compEnvC scope cl C env)) (fun y s' => Held (∃ h' tk', s' = { s with heap := h', toks := tk' } ∧ Fr h₀ L h' m ∧ News h₀ L h' ((C, oC) :: (D, LCg.lst ys) :: (e, oe) :: (it, oi) :: news) ∧ Val i y)) E' { s with heap := h, toks := tk })
    (fin : ∀ ys D h tk, ys.length = vs.length → (∀ i y, ys[i]? = some y → Val i y) → Fr h₀ L h m → News h₀ L h ((D, LCg.lst ys) :: news) → Q (.ref D) { s with heap := h, toks := tk }) :
    wpAny (model prog w) A (call (.type "enumerate") [.ref l]) (EnumSrc prog w A h₀ L m env elt a b scope cl Q) E s := by
  have hlL : s.heap.IsList l vs.toArray := ⟨_, (N _ hl).1, rfl, ep, rfl⟩
  refine call_enumerate_list hlL fun h' hE hI hsz' hk => ?_
  have hL := F.ns.lt
  refine ⟨_, _, l, vs, ep, news, Val, rfl, hh, F.keeps hk, fun p hp => ⟨hk _ _ (N p hp).1, (N p hp).2⟩, hl, hE, hI, Nat.succ_ne_self _, fun p hp => ?_, Nat.ne_of_gt (Nat.lt_succ_of_lt hL), Nat.ne_of_gt hL, ?_, next_is_new F, hsz, ?_, ?_⟩
  · have := Heap.lt_size (N p hp).1
    exact ⟨Nat.ne_of_lt (Nat.lt_succ_of_lt this), Nat.ne_of_lt this⟩
  · exact Heap.get?_none_of_le (Nat.le_trans F.above (Nat.le_of_lt (Nat.lt_succ_of_lt hL)))
  · intro i v t C oC D m₂ h tk ys oe oi E' hx hoC ha hb F' N'
    exact step _ _ i v t C oC D m₂ h tk ys oe oi E' hx hoC ha hb F' N'
  · exact fin
end
section
variable {prog : Program} {w : World} {A : Around} {E : Value → Shared → Prop} {s : Shared} {h₀ : Heap} {L : Addr} {m : Str → Option Value}
theorem slice3_any {value slice : PySem.Expr} {news : List (Addr × Obj)} {l : Addr} {vs : List Value} {ns : List Int} {ep : Nat} {vl vu vk : Value} {lo up st : Option Int} {ops : List Value} {Q : Value → Shared → Prop} (F : Fr h₀ L s.heap m) (N : News h₀ L s.heap news) (hl : (l, W.listOf vs.toArray ep) ∈ news) (hi : IntsAre vs ns) (hz : vs.length ≤ sizeLine) (pl : IsPart vl lo) (pu : IsPart vu up) (pk : IsPart vk st) (h0 : st ≠ some 0)
    (h : ∀ D ws ms h', Fr h₀ L h' m → News h₀ L h' ((D, W.listOf (List.toArray ws) 0) :: news) → IntsAre ws ms → ms.length ≤ ns.length → Q (.ref D) { s with heap := h' })
    (hs : subscripted slice false (.ref l) (.ref s.heap.objs.size) = operate ops (getItem (.ref l) (.ref s.heap.objs.size)) := by with_unfolding_all rfl)
    (ht : ∀ r, letTemporaryGo value (.ref l) r = pure () := by intro _; with_unfolding_all rfl) :
    wpAny (model prog w) A (subscriptTail value slice (.ref l) (.ref s.heap.objs.size)) Q E { s with heap := s.heap.push { cls := .type "slice", data := .fields #[vl, vu, vk] } } := by
  refine slice_list3 F N ⟨_, (N _ hl).1, rfl, ep, rfl⟩ pl pu pk h0 (fun h' F' N' => ?_) hs ht (by rw [List.size_toArray]; exact hz)
  exact h _ (slicePick vs.toArray lo up st).toList (pickNums ns lo up st) h' F' (by rw [Array.toArray_toList]; exact N') (hi.pick lo up st) (length_pickNums_le hi lo up st)
end
section
variable {prog : Program} {w : World} {A : Around} {E : Value → Shared → Prop} {s : Shared} {h₀ : Heap} {L : Addr} {m : Str → Option Value} {env : Env}
/-- the source of a comprehension that goes through a tuple in hand; its element may run generators and grow the ledger -/
def TupSrc (prog : Program) (w : World) (A : Around) (h₀ : Heap) (L : Addr) (m : Str → Option Value) (env : Env) (elt : PySem.Expr) (x : Str) (scope : Scope) (cl : List (Str × Addr)) (Q : Value → Shared → Prop) (xv : Value) (s₁ : Shared) : Prop :=
  ∃ (T : Addr) (vs : List Value) (nt : Nat) (news : List (Addr × Obj)) (K : Nat → List Value → List (Addr × Obj) → Array GenState → Prop), xv = .ref T ∧ A.handled = none ∧ Fr h₀ L s₁.heap m ∧ News h₀ L s₁.heap news ∧ vs.length ≤ sizeLine ∧ K 0 [] news s₁.gens ∧
    (∀ i ys nw G, K i ys nw G → (T, ({ cls := .type "tuple", data := .seq vs.toArray nt } : Obj)) ∈ nw) ∧
    (∀ (i : Nat) v ys nw I oI C oC D m₂ h tk G (E' : Value → Shared → Prop), vs[i]? = some v → K i ys nw G → ys.length = i → LCg.NsObj oC m₂ → m₂ x = some v → oI.data = .fields #[.ref T, .int ((i + 1 : Nat) : Int) 0] → Fr h₀ L h m → News h₀ L h ((C, oC) :: (D, LCg.lst ys) :: (I, oI) :: nw) → (∀ p ∈ nw, p.1 ≠ C ∧ p.1 ≠ D ∧ p.1 ≠ I) →
      wpAny (model prog w) A (eval elt (compEnvC scope cl C env)) (fun y s' => Held (∃ h' tk' G' nw', s' = { s₁ with heap := h', toks := tk', gens := G' } ∧ Fr h₀ L h' m ∧ News h₀ L h' ((C, oC) :: (D, LCg.lst ys) :: (I, oI) :: nw') ∧ (∀ p ∈ nw', p.1 ≠ C ∧ p.1 ≠ D ∧ p.1 ≠ I) ∧ K (i + 1) (ys ++ [y]) nw' G')) E' { s₁ with heap := h, toks := tk, gens := G }) ∧
    (∀ ys nw G D h tk, ys.length = vs.length → K vs.length ys nw G → Fr h₀ L h m → News h₀ L h ((D, LCg.lst ys) :: nw) → Q (.ref D) { s₁ with heap := h, toks := tk, gens := G })
theorem comp_tup {iter elt : PySem.Expr} {x : Str} {px : Pos} {scope : Scope} {cl : List (Str × Addr)} {pos : Pos} {Q : Value → Shared → Prop} (_F₀ : Fr h₀ L s.heap m)
    (hclos : closureFor scope env = pure cl) (hcell : ∀ y ∈ scope.names, y.2 ≠ .cell) (hkind : scope.kind = .function)
    (hnames : ∀ y ∈ scope.names, y.2 = .local → scope.names.lookup y.1 = some .local) (hs : ∀ x, foldedSetIterable iter env x = pure x) (hx : scope.names.lookup x = some .local)
    (h : wpAny (model prog w) A (eval iter env) (TupSrc prog w A h₀ L m env elt x scope cl Q) E s) :
    wpAny (model prog w) A (eval (.ListComp elt [⟨.Name x px, iter, [], 0⟩] scope pos) env) Q E s := by
  refine comp_inv (h₀ := h₀) (L := L) (m := m) hclos hcell hkind hnames hs (wpAny_mono h (fun xv s₁ h₁ => ?_) fun _ _ e => e)
  obtain ⟨T, vs, nt, news, K, rfl, hh, F, N, hsz, hK, hmem, step, fin⟩ := h₁
  have hT : IsTup s₁.heap T vs.toArray := ⟨_, (N _ (hmem _ _ _ _ hK)).1, rfl, nt, rfl⟩
  refine iter_tuple hT ?_
  have up : ∀ b o, s₁.heap.get? b = some o → (s₁.heap.push { cls := .type "tuple_iterator", data := .fields #[.ref T, .int 0 0] }).get? b = some o := fun b o e => Heap.get?_push_of_some _ e
  refine ⟨s₁.heap.objs.size, _, vs.length, fun i ys news' G => ∃ oI nw, news' = (s₁.heap.objs.size, oI) :: nw ∧ oI.cls = .type "tuple_iterator" ∧ oI.data = .fields #[.ref T, .int (i : Int) 0] ∧ (∀ p ∈ nw, p.1 ≠ s₁.heap.objs.size) ∧ K i ys nw G,
    rfl, hsz, F.push _, News.push F N _ rfl, ⟨_, news, rfl, rfl, rfl, fun p hp => Nat.ne_of_lt (Heap.lt_size (N p hp).1), hK⟩, ?_, ?_⟩
  · rintro ys news' G' s' E' Q' ⟨oI, nw, rfl, hc, hd, _⟩ N' hq
    exact wpAny_pyIter_tupleiter (t := T) (i := 0) ⟨oI, (N' _ (.head _)).1, hc, hd⟩ hq
  · rintro i ys news' C oC D m₂ h₂ tk₂ G E' ⟨oI, nw, rfl, hic, hid, hIn, hKi⟩ hyl hin hoC F₂ N₂ hCD off
    have nC : C ≠ s₁.heap.objs.size := Ne.symm (off _ (.head _)).1
    have nD : D ≠ s₁.heap.objs.size := Ne.symm (off _ (.head _)).2
    have zI := N₂ _ (.tail _ (.tail _ (.head _)))
    have hT₂ : IsTup h₂ T vs.toArray := ⟨_, (N₂ _ (.tail _ (.tail _ (.tail _ (hmem _ _ _ _ hKi))))).1, rfl, nt, rfl⟩
    have hit₂ : IsTupIter h₂ s₁.heap.objs.size T i := ⟨oI, zI.1, hic, hid⟩
    cases hv : vs[i]? with
    | none =>
      have hlen : ys.length = vs.length := by rw [hyl]; exact Nat.le_antisymm hin (by simpa using hv)
      refine next_tuple_end hh hit₂ hT₂ (by simpa using hv) fun h₃ hk₃ => ?_
      have N₃ : News h₀ L h₃ ((C, oC) :: (D, LCg.lst ys) :: nw) := ncons ⟨hk₃ _ _ nC (N₂ _ (.head _)).1, (N₂ _ (.head _)).2⟩ (ncons ⟨hk₃ _ _ nD (N₂ _ (.tail _ (.head _))).1, (N₂ _ (.tail _ (.head _))).2⟩ fun p hp => ⟨hk₃ _ _ (hIn p hp) (N₂ p (.tail _ (.tail _ (.tail _ hp)))).1, (N₂ p (.tail _ (.tail _ (.tail _ hp)))).2⟩)
      refine ⟨h₃, _, nw, rfl, ⟨F₂.ns.extBut hk₃ (Ne.symm zI.2.1), fun b o e => hk₃ b o (fun q => by rw [q, zI.2.2] at e; cases e) (F₂.keep b o e), F₂.above⟩, N₃, fun p hp => off p (.tail _ hp), ?_⟩
      intro D' h' tk' F' N'
      have : i = vs.length := hyl.symm.trans hlen
      subst this
      exact fin ys nw G D' h' tk' hlen hKi F' N'
    | some v =>
      have hlt : i < vs.length := (List.getElem?_eq_some_iff.mp hv).1
      refine next_tuple_item hit₂ hT₂ (by simpa using hv) fun h₃ hit₃ hs₃ => ?_
      show wpAny _ _ (letOwnedTupleGo (.Name x px) _ v) _ _ _
      refine wpAny_of_eq (a := ()) rfl ?_
      obtain ⟨oI₃, hoI₃, hic₃, hid₃⟩ := hit₃
      have hC0 : h₀.get? C = none := (N₂ _ (.head _)).2.2
      have hCL : C ≠ L := (N₂ _ (.head _)).2.1
      refine wpAny_assign_Name (wpAny_storeName_local (lookup_relabel_local hx) ((hoC.ns (N₂ _ (.head _)).1).sameBut hs₃ nC) (fun h₅ hn₅ hs₅ => ?_) (by simp [compEnvC, relabel, hkind]))
      replace hs₅ : Heap.SameBut C h₃ h₅ := hs₅
      obtain ⟨oC₅, hC₅, hoC₅⟩ := LCg.ns_obj hn₅
      replace hC₅ : h₅.get? C = some oC₅ := hC₅
      have up₅ : ∀ c o, c ≠ s₁.heap.objs.size → c ≠ C → h₂.get? c = some o → h₅.get? c = some o := fun c o h1 h2 q => hs₅.extBut c o h2 (hs₃.extBut c o h1 q)
      have F₅ : Fr h₀ L h₅ m := (F₂.change hs₃ zI.2.1 zI.2.2).change hs₅ hCL hC0
      have N₅ : News h₀ L h₅ ((C, oC₅) :: (D, LCg.lst ys) :: (s₁.heap.objs.size, oI₃) :: nw) := ncons ⟨hC₅, hCL, hC0⟩ (ncons ⟨up₅ _ _ nD (Ne.symm hCD) (N₂ _ (.tail _ (.head _))).1, (N₂ _ (.tail _ (.head _))).2⟩ (ncons ⟨hs₅.extBut _ _ (Ne.symm nC) hoI₃, zI.2⟩ fun p hp => ⟨up₅ _ _ (hIn p hp) (off p (.tail _ hp)).1 (N₂ p (.tail _ (.tail _ (.tail _ hp)))).1, (N₂ p (.tail _ (.tail _ (.tail _ hp)))).2⟩))
      refine wpAny_mono (step i v ys nw _ oI₃ C oC₅ D _ h₅ _ G _ hv hKi hyl hoC₅ (by simp) hid₃ F₅ N₅ fun p hp => ⟨(off p (.tail _ hp)).1, (off p (.tail _ hp)).2, hIn p hp⟩) (fun y s₆ h₆ => ?_) fun _ _ q => q
      obtain ⟨⟨h₆, tk₆, G₆, nw₆, rfl, F₆, N₆, off₆, hK₆⟩⟩ := h₆
      refine ⟨h₆, tk₆, G₆, oC₅, _, _, rfl, hoC₅, F₆, N₆, fcons ⟨Ne.symm nC, Ne.symm nD⟩ fun p hp => ⟨(off₆ p hp).1, (off₆ p hp).2.1⟩, hlt, oI₃, nw₆, rfl, hic₃, hid₃, fun p hp => (off₆ p hp).2.2, hK₆⟩
theorem TupSrc.of {elt : PySem.Expr} {x : Str} {scope : Scope} {cl : List (Str × Addr)} {Q : Value → Shared → Prop} {T : Addr} {vs : List Value} {nt : Nat} {nw0 news : List (Addr × Obj)} (K : Nat → List Value → List (Addr × Obj) → Array GenState → Prop) (mT : (T, ({ cls := .type "tuple", data := .seq vs.toArray nt } : Obj)) ∈ nw0) (hh : A.handled = none) (F : Fr h₀ L s.heap m) (N : News h₀ L s.heap news) (hsz : vs.length ≤ sizeLine) (hK : K 0 [] news s.gens) (hmem : ∀ i ys nw G, K i ys nw G → ∀ q ∈ nw0, q ∈ nw)
    (step : ∀ (i : Nat) v ys nw I oI C oC D m₂ h tk G (E' : Value → Shared → Prop), vs[i]? = some v → K i ys nw G → ys.length = i → LCg.NsObj oC m₂ → m₂ x = some v → oI.data = .fields #[.ref T, .int ((i + 1 : Nat) : Int) 0] → Fr h₀ L h m → News h₀ L h ((C, oC) :: (D, LCg.lst ys) :: (I, oI) :: nw) → (∀ p ∈ nw, p.1 ≠ C ∧ p.1 ≠ D ∧ p.1 ≠ I) →
      wpAny (model prog w) A (eval elt (compEnvC scope cl C env)) (fun y s' => Held (∃ h' tk' G' nw', s' = { s with heap := h', toks := tk', gens := G' } ∧ Fr h₀ L h' m ∧ News h₀ L h' ((C, oC) :: (D, LCg.lst ys) :: (I, oI) :: nw') ∧ (∀ p ∈ nw', p.1 ≠ C ∧ p.1 ≠ D ∧ p.1 ≠ I) ∧ K (i + 1) (ys ++ [y]) nw' G')) E' { s with heap := h, toks := tk, gens := G })
    (fin : ∀ ys nw G D h tk, ys.length = vs.length → K vs.length ys nw G → Fr h₀ L h m → News h₀ L h ((D, LCg.lst ys) :: nw) → Q (.ref D) { s with heap := h, toks := tk, gens := G }) :
    TupSrc prog w A h₀ L m env elt x scope cl Q (.ref T) s := ⟨T, vs, nt, news, K, rfl, hh, F, N, hsz, hK, fun i ys nw G h => hmem i ys nw G h _ mT, step, fin⟩
end
-- needs: base loops geni lam cut fold compg
theorem road_end {g h : Heap} {L : Addr} {C D I T : Addr} {oC oI : Obj} {mC : Str → Option Value} {ys : List Value} {k : Int} {ps ps' : Array Value} {ex ex2 nw0 : List (Addr × Obj)} {line col : Nat} {qual : Str}
    (N : News g L h ((201, tabObj ps') :: (ex2 ++ (C, oC) :: (D, LCg.lst ys) :: (I, oI) :: (ex ++ nw0)))) (hC : LCg.NsObj oC mC) (hI : oI.data = .fields #[.ref T, .int k 0])
    (hps : ps' = #[] ∨ TabHit line col qual ps' (ex2 ++ (C, oC) :: (D, LCg.lst ys) :: (I, oI) :: (ex ++ nw0))) (hex : ∀ q ∈ ex, q.1 ≠ 201) (hex2 : ∀ q ∈ ex2, q.1 ≠ 201)
    (off : ∀ p ∈ (201, tabObj ps) :: (ex ++ nw0), p.1 ≠ C ∧ p.1 ≠ D ∧ p.1 ≠ I) :
    ∃ ex', News g L h ((C, oC) :: (D, LCg.lst ys) :: (I, oI) :: (201, tabObj ps') :: (ex' ++ nw0)) ∧ (∀ p ∈ (201, tabObj ps') :: (ex' ++ nw0), p.1 ≠ C ∧ p.1 ≠ D ∧ p.1 ≠ I) ∧ (ps' = #[] ∨ TabHit line col qual ps' (ex' ++ nw0)) ∧ (∀ q ∈ ex', q.1 ≠ 201) := by
  obtain ⟨es, ep, hCd, _⟩ := hC
  have zC : (C, oC) ∈ (201, tabObj ps') :: (ex2 ++ (C, oC) :: (D, LCg.lst ys) :: (I, oI) :: (ex ++ nw0)) := by simp
  have zD : (D, LCg.lst ys) ∈ (201, tabObj ps') :: (ex2 ++ (C, oC) :: (D, LCg.lst ys) :: (I, oI) :: (ex ++ nw0)) := by simp
  have zI : (I, oI) ∈ (201, tabObj ps') :: (ex2 ++ (C, oC) :: (D, LCg.lst ys) :: (I, oI) :: (ex ++ nw0)) := by simp
  refine ⟨(ex2 ++ ex).filter (fun q => decide (q.1 ≠ C ∧ q.1 ≠ D ∧ q.1 ≠ I)), news_sub N ?_, ?_, hps.imp id ?_, ?_⟩
  · intro q hq
    simp only [List.mem_cons, List.mem_append, List.mem_filter] at hq ⊢
    rcases hq with h | h | h | h | ⟨h | h, _⟩ | h <;> simp [h]
  · intro p hp
    rcases List.mem_cons.mp hp with rfl | hp
    · exact off (201, tabObj ps) (.head _)
    · rcases List.mem_append.mp hp with hp | hp
      · exact of_decide_eq_true (List.mem_filter.mp hp).2
      · exact off p (.tail _ (List.mem_append_right _ hp))
  · rintro ⟨c', oc, vs, t, e, hm, hoc, hv⟩
    have hm' : (c', oc) ∈ (201, tabObj ps') :: (ex2 ++ (C, oC) :: (D, LCg.lst ys) :: (I, oI) :: (ex ++ nw0)) := .tail _ hm
    have dC : oc.data ≠ oC.data := by rw [hoc, hCd]; intro q; cases q
    have dD : oc.data ≠ (LCg.lst ys).data := by rw [hoc]; intro q; cases q
    have dI : oc.data ≠ oI.data := by
      rw [hoc, hI]
      intro q
      injection q with q
      rw [q] at hv
      cases hv
    have nC : c' ≠ C := ne_data N hm' zC dC
    have nD : c' ≠ D := ne_data N hm' zD dD
    have nI : c' ≠ I := ne_data N hm' zI dI
    refine ⟨c', oc, vs, t, e, ?_, hoc, hv⟩
    simp only [List.mem_append, List.mem_cons, Prod.mk.injEq] at hm
    rcases hm with hm | ⟨e, _⟩ | ⟨e, _⟩ | ⟨e, _⟩ | hm | hm
    · exact List.mem_append_left _ (List.mem_filter.mpr ⟨List.mem_append_left _ hm, decide_eq_true ⟨nC, nD, nI⟩⟩)
    · exact absurd e nC
    · exact absurd e nD
    · exact absurd e nI
    · exact List.mem_append_left _ (List.mem_filter.mpr ⟨List.mem_append_right _ hm, decide_eq_true ⟨nC, nD, nI⟩⟩)
    · exact List.mem_append_right _ hm
  · intro q hq
    rcases List.mem_append.mp (List.mem_filter.mp hq).1 with h | h
    · exact hex2 q h
    · exact hex q h
-- needs: base leaf bi loops reduce value row seg gen gen2 geni cut plain comp lam a2bh b16e b16d b64e b64f b64d texts fold fold64 due left left64 value0 compg roads
theorem kn_postG {M : Model} {A : Around} {cd : Code} {s s₁ : Shared} {cw : ClaimW} {cl : Str → Option Addr} {mean : ExcName → Option Value} {args : List WData} {tabs : List (Addr × Addr)} (hT : TabsAt tabs s₁.heap) (hr : ∀ a x, cw.raises a x = false) (hp : cw.post args (.bool true) args = true)
    (h : codeAny M A cd (fun r s' => r = .ok (.ret (.bool true)) ∧ (∀ b o, (ghostOf s₁.heap tabs).get? b = some o → s'.heap.get? b = some o) ∧ s'.os = s₁.os ∧ PyProof.Rows.AllBare s'.gens ∧ GrownAll tabs s'.heap) s) : codeAny M A cd (GoodWG cw cl mean args s₁) s :=
  codeAny_mono h fun r s' ⟨hc, hk, hos, hg, hgr⟩ => by
    have keep : ∀ b o, b ∉ tabs.map (·.2) → s₁.heap.get? b = some o → s'.heap.get? b = some o := fun b o hb e => hk b o (ghost_ne e hb)
    have grown : ∀ b o, b ∈ tabs.map (·.2) → s₁.heap.get? b = some o → isCodeTable s₁.heap b ∧ o = tabObj #[] ∧ ∃ ps, s'.heap.get? b = some (tabObj ps) := fun b o hb e => by
      obtain ⟨q, hq, rfl⟩ := List.mem_map.mp hb
      have e2 := (hT q hq).2
      rw [e] at e2
      exact ⟨((hT q hq).1.tab (hT q hq).2).isCodeTable, Option.some.inj e2, hgr.get q hq⟩
    refine ⟨.inl ⟨_, _, [], hc, hr args, ReadsW.bool true, hp, fun _ => ⟨List.nodup_nil, fun _ hm => nomatch hm⟩⟩, ⟨fun b o e => ?_, fun b o e => ?_⟩, hos, hg⟩
    · by_cases hb : b ∈ tabs.map (·.2)
      · obtain ⟨ht, rfl, ps, hP⟩ := grown b o hb e
        exact .inr (.inl ⟨ht, rfl, #[], ps, rfl, by rw [Array.empty_append]; exact hP⟩)
      · exact .inl (keep b o hb e)
    · by_cases hb : b ∈ tabs.map (·.2)
      · obtain ⟨_, _, ps, hP⟩ := grown b o hb e
        exact ⟨_, hP⟩
      · exact ⟨o, keep b o hb e⟩
theorem ia_len12 {vs : List Value} {xs : List Int} {g : Int → Int} (_ : IntsAre vs (List.map g (List.take 12 xs))) : (List.map g (List.take 12 xs)).length ≤ 12 := by
  rw [List.length_map]; exact List.length_take_le 12 xs
theorem six_news {g h : Heap} {L l : Addr} {a b c d e f : Int} {t1 t2 t3 t4 t5 t6 : Tok} {ep : Nat} {rest : List (Addr × Obj)} (N : News g L h ((l, W.listOf #[.int a t1, .int b t2, .int c t3, .int d t4, .int e t5, .int f t6] ep) :: rest)) :
    ∃ vs : List Value, IntsAre vs [a, b, c, d, e, f] ∧ News g L h ((l, W.listOf vs.toArray ep) :: rest) :=
  ⟨_, .cons _ _ (.cons _ _ (.cons _ _ (.cons _ _ (.cons _ _ (.cons _ _ .nil))))), N⟩
theorem oct_of (z : Int) (t : Tok) : ∃ (c : UInt8) (t' : Tok), Value.int (z.fmod 256) t = .int (c.toNat : Int) t' := by
  have h1 : 0 ≤ z.fmod 256 := Int.fmod_nonneg_of_pos _ (by decide)
  have h2 : z.fmod 256 < 256 := Int.fmod_lt_of_pos _ (by decide)
  exact ⟨(z.fmod 256).toNat.toUInt8, t, by rw [byte_back h1 h2]⟩
theorem octs_of : ∀ (ys : List Value), (∀ (i : Nat) y, ys[i]? = some y → ∃ (c : UInt8) (t : Tok), y = .int (c.toNat : Int) t) → ∃ os : List UInt8, IntsAre ys (octs os)
  | [], _ => ⟨[], .nil⟩
  | y :: ys, h => by
    obtain ⟨c, t, rfl⟩ := h 0 y rfl
    obtain ⟨os, ho⟩ := octs_of ys fun i z e => h (i + 1) z e
    exact ⟨c :: os, .cons _ _ ho⟩
theorem news_last {g h : Heap} {L : Addr} {l : List (Addr × Obj)} {p : Addr × Obj} (N : News g L h l) (e : l.getLast? = some p) : News g L h (p :: l.dropLast) := fun q hq => by
  rcases List.mem_cons.mp hq with rfl | hq
  · exact N _ (List.mem_of_getLast? e)
  · exact N _ ((List.dropLast_sublist l).mem hq)
theorem drop34 {g h : Heap} {L : Addr} {a b c d : Addr × Obj} {l : List (Addr × Obj)} (N : News g L h (a :: b :: c :: d :: l)) : News g L h (a :: b :: l) := fun q hq => by
  rcases List.mem_cons.mp hq with rfl | hq
  · exact N _ (.head _)
  · rcases List.mem_cons.mp hq with rfl | hq
    · exact N _ (.tail _ (.head _))
    · exact N _ (.tail _ (.tail _ (.tail _ (.tail _ hq))))
theorem two_of (z : Int) (t : Tok) : ∃ (c : Nat) (t' : Tok), Value.int (z.fmod 2 + 1) t = .int (Int.ofNat c) t' ∧ 1 ≤ c ∧ c ≤ 6 := by
  have h1 : 0 ≤ z.fmod 2 := Int.fmod_nonneg_of_pos _ (by decide)
  have h2 : z.fmod 2 < 2 := Int.fmod_lt_of_pos _ (by decide)
  refine ⟨(z.fmod 2 + 1).toNat, t, ?_, by omega, by omega⟩
  congr 1
  show z.fmod 2 + 1 = ((z.fmod 2 + 1).toNat : Int)
  omega
theorem nats_of : ∀ (ys : List Value), (∀ (i : Nat) y, ys[i]? = some y → ∃ (c : Nat) (t : Tok), y = .int (Int.ofNat c) t ∧ 1 ≤ c ∧ c ≤ 6) → ∃ cs : List Nat, IntsAre ys (cs.map fun c => Int.ofNat c) ∧ ∀ x ∈ cs, 1 ≤ x ∧ x ≤ 6
  | [], _ => ⟨[], .nil, fun _ h => nomatch h⟩
  | y :: ys, h => by
    obtain ⟨c, t, rfl, hc⟩ := h 0 y rfl
    obtain ⟨cs, h1, h2⟩ := nats_of ys fun i z e => h (i + 1) z e
    exact ⟨c :: cs, .cons _ _ h1, fun x hx => by
      rcases List.mem_cons.mp hx with rfl | hx
      · exact hc
      · exact h2 x hx⟩
theorem news_dropk {g h : Heap} {L : Addr} {a : Addr × Obj} {l : List (Addr × Obj)} (k : Nat) (N : News g L h (a :: l)) : News g L h (a :: l.drop k) := fun q hq => by
  rcases List.mem_cons.mp hq with rfl | hq
  · exact N _ (.head _)
  · exact N _ (.tail _ (List.mem_of_mem_drop hq))
theorem lt_dropk {D : Addr} {l : List (Addr × Obj)} (k : Nat) (h : ∀ p ∈ l, p.1 < D) : ∀ p ∈ l.drop k, p.1 < D := fun p hp => h p (List.mem_of_mem_drop hp)
theorem add_one {prog : Program} {w : World} {A : Around} {E : Value → Shared → Prop} {s : Shared} {h₀ : Heap} {L a b : Addr} {m : Str → Option Value} {news : List (Addr × Obj)} {ys : List Value} {cs : List Nat} {t : Tok} {e1 e2 : Nat} {Q : Value → Shared → Prop} (F : Fr h₀ L s.heap m) (N : News h₀ L s.heap news) (ha : (a, W.listOf #[.int 1 t] e1) ∈ news) (hb : (b, W.listOf ys.toArray e2) ∈ news) (hcs : IntsAre ys (cs.map fun c => Int.ofNat c)) (hz : cs.length ≤ 2)
    (h : ∀ D vs h', Fr h₀ L h' m → News h₀ L h' ((D, W.listOf (List.toArray vs) 0) :: news) → (∀ p ∈ news, p.1 < D) → IntsAre vs ((1 :: cs).map fun c => Int.ofNat c) → Q (.ref D) { s with heap := h' }) : wpAny (model prog w) A (binaryOp .Add (.ref a) (.ref b)) Q E s :=
  add_any (vs := [.int 1 t]) F N ⟨_, (N _ ha).1, rfl, _, rfl⟩ ⟨_, (N _ hb).1, rfl, _, rfl⟩ (by have := hcs.length; rw [List.length_map] at this; rw [sizeLine_eq]; simp; omega) fun D h' F' N' l => h D ([.int 1 t] ++ ys) h' F' N' l (.cons _ _ hcs)
theorem pick3 {prog : Program} {w : World} {A : Around} {E : Value → Shared → Prop} {s : Shared} {h₀ : Heap} {L T l0 l1 l2 : Addr} {m : Str → Option Value} {rest : List (Addr × Obj)} {ta tb tc : Tok} {k : Int} {u : Tok} {e0 e1 e2 nt : Nat} {value slice : PySem.Expr} {Q : Value → Shared → Prop} (_F : Fr h₀ L s.heap m)
    (N : News h₀ L s.heap ((T, ({ cls := .type "tuple", data := .seq #[.ref l0, .ref l1, .ref l2] nt } : Obj)) :: (l2, W.listOf #[] e2) :: (l1, W.listOf #[.int 127 ta, .int 0 tb] e1) :: (l0, W.listOf #[.int 0 tc] e0) :: rest))
    (hlt : ∀ p ∈ rest, p.1 < l0) (h01 : l0 < l1) (h12 : l1 < l2) (hk0 : 0 ≤ k) (hk3 : k < 3)
    (h : ∀ le ev es ep, IntsAre ev es → (es = [0] ∨ es = [127, 0] ∨ es = []) → News h₀ L s.heap ((le, W.listOf (List.toArray ev) ep) :: rest) → (∀ p ∈ rest, p.1 < le) → Q (.ref le) s)
    (hs : subscripted slice false (.ref T) (.int k u) = operate [.ref T, .int k u] (getItem (.ref T) (.int k u)) := by with_unfolding_all rfl) :
    wpAny (model prog w) A (subscriptTail value slice (.ref T) (.int k u)) Q E s := by
  have hT : IsTup s.heap T ([.ref l0, .ref l1, .ref l2] : List Value).toArray := ⟨_, (N _ (.head _)).1, rfl, nt, rfl⟩
  have hlt1 : ∀ p ∈ rest, p.1 < l1 := fun p hp => Nat.lt_trans (hlt p hp) h01
  have hlt2 : ∀ p ∈ rest, p.1 < l2 := fun p hp => Nat.lt_trans (hlt1 p hp) h12
  have hk : k = 0 ∨ k = 1 ∨ k = 2 := by omega
  rcases hk with rfl | rfl | rfl
  · refine item_tupleT (j := 0) (x := .ref l0) hT (by decide) (by decide) rfl rfl (h l0 [.int 0 tc] [0] e0 (.cons _ _ .nil) (.inl rfl) (news_sub N fun q hq => ?_) hlt) hs
    rcases List.mem_cons.mp hq with rfl | hq
    · simp
    · simp [hq]
  · refine item_tupleT (j := 1) (x := .ref l1) hT (by decide) (by decide) rfl rfl (h l1 [.int 127 ta, .int 0 tb] [127, 0] e1 (.cons _ _ (.cons _ _ .nil)) (.inr (.inl rfl)) (news_sub N fun q hq => ?_) hlt1) hs
    rcases List.mem_cons.mp hq with rfl | hq
    · simp
    · simp [hq]
  · refine item_tupleT (j := 2) (x := .ref l2) hT (by decide) (by decide) rfl rfl (h l2 [] [] e2 .nil (.inr (.inr rfl)) (news_sub N fun q hq => ?_) hlt2) hs
    rcases List.mem_cons.mp hq with rfl | hq
    · simp
    · simp [hq]
theorem unit_of (z : Int) : ∃ u : Nat, (z.fdiv 3).fmod 3 + 1 = (u : Int) ∧ (u = 1 ∨ u = 2 ∨ u = 3) := by
  have h1 : 0 ≤ (z.fdiv 3).fmod 3 := Int.fmod_nonneg_of_pos _ (by decide)
  have h2 : (z.fdiv 3).fmod 3 < 3 := Int.fmod_lt_of_pos _ (by decide)
  exact ⟨((z.fdiv 3).fmod 3 + 1).toNat, by omega, by omega⟩
theorem factor_of (z : Int) : 2 ≤ z.fmod 11 + 2 ∧ z.fmod 11 + 2 ≤ 12 := by
  have h1 : 0 ≤ z.fmod 11 := Int.fmod_nonneg_of_pos _ (by decide)
  have h2 : z.fmod 11 < 11 := Int.fmod_lt_of_pos _ (by decide)
  omega
theorem split_last {g h : Heap} {L : Addr} {l : List (Addr × Obj)} {p : Addr × Obj} (N : News g L h l) (e : l.getLast? = some p) : ∃ nw0, News g L h (p :: nw0) ∧ nw0 = l.dropLast := ⟨_, news_last N e, rfl⟩
theorem mem_last {l nw0 : List (Addr × Obj)} {a : Addr × Obj} {i : Nat} (e : nw0 = l.dropLast) (h : l.dropLast[i]? = some a) : a ∈ nw0 := by rw [e]; exact List.mem_of_getElem? h
theorem cell_ne {n : Nat} (h : 201 < n ∧ 180 < n) (k : Nat) : n + k ≠ 180 ∧ n + k ≠ 201 := ⟨by omega, by omega⟩
theorem cj1 {a b : Prop} (h : a ∧ b) : a := h.1
theorem cj2 {a1 a b : Prop} (h : a1 ∧ a ∧ b) : a := h.2.1
theorem cj3 {a1 a2 a b : Prop} (h : a1 ∧ a2 ∧ a ∧ b) : a := h.2.2.1
theorem cj4 {a1 a2 a3 a b : Prop} (h : a1 ∧ a2 ∧ a3 ∧ a ∧ b) : a := h.2.2.2.1
theorem cj5 {a1 a2 a3 a4 a b : Prop} (h : a1 ∧ a2 ∧ a3 ∧ a4 ∧ a ∧ b) : a := h.2.2.2.2.1
theorem cj6 {a1 a2 a3 a4 a5 a b : Prop} (h : a1 ∧ a2 ∧ a3 ∧ a4 ∧ a5 ∧ a ∧ b) : a := h.2.2.2.2.2.1
theorem cj7 {a1 a2 a3 a4 a5 a6 a b : Prop} (h : a1 ∧ a2 ∧ a3 ∧ a4 ∧ a5 ∧ a6 ∧ a ∧ b) : a := h.2.2.2.2.2.2.1
theorem cj8 {a1 a2 a3 a4 a5 a6 a7 a b : Prop} (h : a1 ∧ a2 ∧ a3 ∧ a4 ∧ a5 ∧ a6 ∧ a7 ∧ a ∧ b) : a := h.2.2.2.2.2.2.2.1
theorem cj9 {a1 a2 a3 a4 a5 a6 a7 a8 a b : Prop} (h : a1 ∧ a2 ∧ a3 ∧ a4 ∧ a5 ∧ a6 ∧ a7 ∧ a8 ∧ a ∧ b) : a := h.2.2.2.2.2.2.2.2.1
theorem cj10 {a1 a2 a3 a4 a5 a6 a7 a8 a9 a b : Prop} (h : a1 ∧ a2 ∧ a3 ∧ a4 ∧ a5 ∧ a6 ∧ a7 ∧ a8 ∧ a9 ∧ a ∧ b) : a := h.2.2.2.2.2.2.2.2.2.1
theorem ce11 {a1 a2 a3 a4 a5 a6 a7 a8 a9 a10 a : Prop} (h : a1 ∧ a2 ∧ a3 ∧ a4 ∧ a5 ∧ a6 ∧ a7 ∧ a8 ∧ a9 ∧ a10 ∧ a) : a := h.2.2.2.2.2.2.2.2.2.2
theorem law_post (args : List WData) : PySem.Challenge.rw_qh0011_01.row.toRowW.claim.post args (.bool true) args = true :=
  postW_of (r := PySem.Challenge.rw_qh0011_01.row.toRowW) (X := (true == true)) rfl (w_eq_bool (a := .res) (b := .lit (.bool true)) (w_res rfl) w_lit) rfl
theorem modP {prog : Program} {w : World} {A : Around} {E : Value → Shared → Prop} {s : Shared} {Q : Value → Shared → Prop} {a b : Int} {t u : Tok} (hb : 0 < b) (h : Q (.int (a % b) s.toks) { s with toks := s.toks + 1 }) : wpAny (model prog w) A (binaryOp .Mod (.int a t) (.int b u)) Q E s :=
  mod_int' (Int.ne_of_gt hb) (by rw [Int.fmod_eq_emod_of_nonneg _ (Int.le_of_lt hb)]; exact h)
local macro_rules | `(tactic| walk_at "call type:enumerate") => `(tactic| (refine hold ?_))
local macro_rules | `(tactic| walk_at "subscriptTail Name Slice ref ref") => `(tactic| (k_here; (with_reducible show wpAny _ _ (subscriptTail _ (PySem.Expr.Slice _ _ (some _) _) (Value.ref _) (Value.ref _)) _ _ _); refine hold ?_))
local macro_rules | `(tactic| walk_at "subscriptTail") => `(tactic| (k_here; (with_reducible first | show wpAny _ _ (subscriptTail (Expr.BinOp _ _ _ _) _ (Value.ref _) (Value.ref _)) _ _ _ | show wpAny _ _ (subscriptTail (Expr.Tuple _ _ _) _ (Value.ref _) (Value.int _ _)) _ _ _); refine hold ?_))
local macro_rules | `(tactic| walk_at "eval ListComp") => `(tactic| (k_here; (with_reducible first | show wpAny _ _ (eval (Expr.ListComp _ [⟨Expr.Tuple _ _ _, _, _, _⟩] _ _) _) _ _ _ | show wpAny _ _ (eval (Expr.ListComp (Expr.BinOp _ Operator.Add _ _) _ _ _) _) _ _ _ | show wpAny _ _ (eval (Expr.ListComp (Expr.Compare _ _ _ _) _ _ _) _) _ _ _); refine hold ?_))
local macro_rules | `(tactic| walk_at "CompSrc") => `(tactic| (k_here; (with_reducible show LCg.CompSrc _ _ _ _ _ _ _ (Expr.BinOp _ Operator.Add _ _) _ _ _ _ _ _); refine hold ?_))
local macro_rules | `(tactic| walk_at "call ref") => `(tactic| (refine hold ?_))
local macro_rules | `(tactic| walk_at "binaryOp Mod int int") => `(tactic| (k_here; (with_reducible show wpAny _ _ (binaryOp _ (Value.int _ _) (Value.int (_ - _) _)) _ _ _); refine modP (by omega) ?_))
theorem law_holds : PySem.Challenge.rw_qh0011_01.Holds := hd (by
  k_fill
  intro w s₀ s₁ mg mb G Y fa o pm cd doc dV kV ho hd hcd hD hmg hg args vals as hpre hlay hrd hwl hlo
  have KX := km_in_of Y
  km_tabs Y
  have X := (Ground.X G).1
  have V := (Ground.X G).2
  refine Ground.open G ?_
  intro T B D TE TW
  try (refine guard_noD D (by decide +kernel) ?_; clear D)
  km_lay T hmg ho hd cd
  clear hmg
  wrow_args hpre hlay hrd hwl hlo
  all_goals (
    first | refine callC_kw (enter_call ?_) | refine enter_call ?_
    w_top on
    refine kn_postG hT9 (fun _ _ => rfl) ?post ?_
    case post => exact law_post _
    w_call any ho hd hcd hD T F
    clear hd
    kn_ghosts F T
    k_drop
    try k_fold
    k_steps
    refine ⟨comp_enum (by assumption) (by with_unfolding_all rfl) (by decide) rfl (by decide) (by intro _; rfl) rfl rfl (by decide) ?_⟩
    k_steps
    rename IntsAre _ (List.map _ _) => hI8
    have hds12 := ia_len12 hI8
    rename Fr _ _ _ (fun _ => _) => F1
    rename News _ _ _ (_ :: _) => N1
    generalize hds : List.map (fun k' : Int => k'.fmod (10 ^ Int.toNat 6)) (List.take 12 _) = ds at hI8 hds12 F1 ⊢
    clear hds
    obtain ⟨sv, hIv, N1⟩ := six_news N1
    refine ⟨enum_src (Val := fun _ y => ∃ (c : UInt8) (t : Tok), y = .int (c.toNat : Int) t) rfl F1 N1 (.head _) (by rw [hIv.length]; decide) ?_ ?_⟩
    · intro e it i v t C oC D m₂ h tk ys oe oi E' hv hC ha hb F2 N2
      clear F1 N1
      try dsimp only
      obtain ⟨k, tk', rfl, hk⟩ := ia_get hIv hv
      k_steps
      refine ⟨slice3_any (s := ⟨_, _, _, _, _⟩) (by assumption) (by assumption) (by k_mem) hI8 (by rw [hI8.length, sizeLine_eq]; omega) (IsPart.int _ _) IsPart.none (IsPart.int _ _) (by decide) ?_⟩
      intro Ds ws ms h3 F3 N3 hI3 hl3
      k_steps
      exact ⟨_, _, rfl, by assumption, news_drop (by assumption), oct_of _ _⟩
    · intro ys D h tk hyl hval F2 N2
      clear F1 N1
      obtain ⟨os, hIo⟩ := octs_of ys hval
      have hos6 : os.length = 6 := by have := hIo.length; rw [hyl, hIv.length] at this; simpa using this.symm
      try dsimp only
      k_steps
      have N3 := news_last (p := (180, tabObj #[])) N2 rfl
      simp only [List.dropLast] at N3
      refine ⟨c_value0 (ns := octs os) (val := fun i v => ys[i]? = some v) (P := fun i io => io.cls = .type "list_iterator" ∧ io.data = .fields #[.ref D, .int i 0]) (by assumption) F2 (by assumption) N3 (by assumption) (Around.frames_deeper rfl) rfl rfl rfl (by rw [depth_deeper]; decide +kernel) (by rw [units_deeper]; decide +kernel) (by assumption) rfl ?ne (fun news' hs => by rw [← hIo.length]; exact goes_list (hs _ (.head _))) (fun i v hv => ?val) ?_⟩
      case val =>
        obtain ⟨k, t, rfl, hk⟩ := ia_get hIo hv
        exact ⟨t, by rw [List.getD_eq_getElem?_getD, hk]; rfl⟩
      case ne =>
        intro q hq
        simp only [List.mem_cons, List.not_mem_nil, or_false] at hq
        rcases hq with rfl | rfl | rfl | rfl | rfl | rfl | rfl | rfl | rfl | rfl
        · exact ne_data N3 (.tail _ (.head _)) (.head _) (by intro e; cases e)
        · exact ne_data N3 (.tail _ (.tail _ (.head _))) (.head _) (by intro e; cases e)
        · exact ne_data N3 (.tail _ (.tail _ (.tail _ (.head _)))) (.head _) (by intro e; cases e)
        · exact ne_data N3 (.tail _ (.tail _ (.tail _ (.tail _ (.head _))))) (.head _) (by intro e; cases e)
        · exact (cell_ne (by assumption) 5).1
        · exact (cell_ne (by assumption) 4).1
        · exact (cell_ne (by assumption) 3).1
        · exact (cell_ne (by assumption) 2).1
        · exact (cell_ne (by assumption) 1).1
        · exact (show (201 : Nat) ≠ 180 by decide)
      intro c1 oc1 vs1 t1 t h4 tk4 hoc1 hvs1 hlt1 F4 N4
      clear F2 N2 N3
      replace N4 := drop34 N4
      k_lt hlt1
      have hnb := val256_bounds os
      rw [hos6] at hnb
      generalize val256 (octs os) = n at hnb ⊢
      replace hnb : 0 ≤ n ∧ n < 281474976710656 := ⟨hnb.1, hnb.2⟩
      clear hIo hval hyl hIv hos6
      k_steps
      rename News _ _ _ (_ :: _) => N5
      try dsimp only at N5 ⊢
      refine ⟨LCg.ListComp_U (F₀ := by assumption) (by with_unfolding_all rfl) (by decide) (by rfl) (by decide) (by rfl) ?_⟩
      k_steps
      rename News _ _ _ (_ :: _) => N6
      rename Fr _ _ _ (fun _ => _) => F6
      rename IntsAre _ (_ ++ _) => hI6
      refine ⟨kba_turn (value' := PySem.Expr.Name (PySem.Str.ofString "_") ⟨0, 0, 0, 0⟩) (fun _ => rfl) ?_⟩
      refine kmk_slice_ints (s := ⟨_, _, _, _, _⟩) F6 N6 ⟨_, (N6 _ (.head _)).1, rfl, _, rfl⟩ IsPart.none (IsPart.int _ _) hI6 (kmk_upto hI6 (by decide)) rfl ?_ (by with_unfolding_all rfl) (by intro _; with_unfolding_all rfl) (by rw [List.size_toArray, hI6.length, sizeLine_eq]; simp; omega)
      intro D7 ws7 h7 F7 N7 l7 hI7 _ hl7
      clear F6 N6
      k_lt l7
      k_steps
      refine ⟨LCg.CompSrc.ledger rfl F7 N7 (.head _) (by rw [List.size_toArray, hI7.length, sizeLine_eq]; simp; omega) ?_⟩
      intro g7
      have hcl := hI7.length
      refine comp_all (Val := fun _ y => ∃ (c : Nat) (t : Tok), y = .int (Int.ofNat c) t ∧ 1 ≤ c ∧ c ≤ 6) (.inr ⟨_, .head _, rfl, _, rfl⟩) ?_ ?_
      · intro i v I oI C oC D m₂ h6 tk6 ys E' hi hv hC hx F6 N6
        obtain ⟨k, t6, rfl, hk⟩ := ia_get hI7 (by simpa using hv)
        clear F7 N7
        try dsimp only
        k_steps
        exact ⟨_, _, rfl, by assumption, by assumption, two_of _ _⟩
      · intro ys hyl hval D5 h5 tk5 F5 N5 o5
        clear F7 N7
        try dsimp only
        obtain ⟨cs, hcs, hcb⟩ := nats_of ys hval
        have hcl2 : cs.length ≤ 2 := by
          have h1 := hcs.length
          rw [List.length_map] at h1
          rw [← h1, hyl, List.size_toArray, hcl]
          exact List.length_take_le 2 _
        clear hval hcl hI7
        refine add_one F5 N5 (.tail _ (.tail _ (.tail _ (.tail _ (.head _))))) (.head _) hcs hcl2 ?_
        intro D6 cv h6 F6 N6 l6 hcv
        clear F5 N5
        replace N6 := news_dropk 5 N6
        replace l6 := lt_dropk 5 l6
        simp only [List.drop] at N6 l6
        k_lt l6
        try dsimp only
        k_steps
        rename Fr _ _ _ (fun _ => _) => F7
        rename News _ _ _ (_ :: _) => N7
        refine ⟨pick3 F7 N7 ?lt ?l01 ?l12 (Int.fmod_nonneg_of_pos _ (by decide)) (Int.fmod_lt_of_pos _ (by decide)) ?_⟩
        case lt =>
          intro p hp
          simp only [List.mem_cons, List.not_mem_nil, or_false] at hp
          rcases hp with rfl | rfl | rfl | rfl | rfl | rfl | rfl | rfl | rfl | rfl | rfl
          · exact cj1 (by assumption)
          · exact cj2 (by assumption)
          · exact cj3 (by assumption)
          · exact cj4 (by assumption)
          · exact cj5 (by assumption)
          · exact cj6 (by assumption)
          · exact cj7 (by assumption)
          · exact cj8 (by assumption)
          · exact cj9 (by assumption)
          · exact cj10 (by assumption)
          · exact ce11 (by assumption)
        case l01 => exact cj1 (by assumption)
        case l12 => exact cj1 (by assumption)
        intro le ev es ep8 hev hes N8 l8
        clear N7
        k_lt l8
        try dsimp only
        k_steps
        rename Fr _ _ _ (fun _ => _) => F8
        rename News _ _ _ (_ :: _) => N9
        try dsimp only at N9
        obtain ⟨u, hu, hu3⟩ := unit_of ds.sum
        have hf2 := factor_of ds.sum
        rw [hu] at N9
        refine ⟨comp_tup (by assumption) (by with_unfolding_all rfl) (by decide) rfl (by decide) (by intro _; rfl) rfl ?_⟩
        k_steps
        obtain ⟨nw0, N11, hnw0⟩ := split_last (p := ((201 : Addr), tabObj #[])) N9 rfl
        have mT := mem_last (i := 0) hnw0 rfl
        have mR1 := mem_last (i := 1) hnw0 rfl
        have mR0 := mem_last (i := 2) hnw0 rfl
        have mE := mem_last (i := 3) hnw0 rfl
        have mC := mem_last (i := 4) hnw0 rfl
        have mc1 := mem_last (i := 5) hnw0 rfl
        have m180 := mem_last (i := 6) hnw0 rfl
        have mX5 := mem_last (i := 9) hnw0 rfl
        have mX4 := mem_last (i := 10) hnw0 rfl
        have mX3 := mem_last (i := 11) hnw0 rfl
        have mX2 := mem_last (i := 12) hnw0 rfl
        have hnP : ∀ q ∈ nw0, q.1 ≠ 201 := by
          intro q hq
          have hq' := hq
          rw [hnw0] at hq
          simp only [List.dropLast, List.mem_cons, List.not_mem_nil, or_false] at hq
          rcases hq with rfl | rfl | rfl | rfl | rfl | rfl | rfl | rfl | rfl | rfl | rfl | rfl | rfl | rfl
          · exact ne_data N11 (.tail _ hq') (.head _) (by intro e; cases e)
          · exact ne_data N11 (.tail _ hq') (.head _) (by intro e; cases e)
          · exact ne_data N11 (.tail _ hq') (.head _) (by intro e; cases e)
          · exact ne_data N11 (.tail _ hq') (.head _) (by intro e; cases e)
          · exact ne_data N11 (.tail _ hq') (.head _) (by intro e; cases e)
          · exact ne_data N11 (.tail _ hq') (.head _) (by rw [hoc1]; intro e; cases e; cases hvs1)
          · exact (show (180 : Nat) ≠ 201 by decide)
          · exact ne_data N11 (.tail _ hq') (.head _) (by intro e; cases e)
          · exact ne_data N11 (.tail _ hq') (.head _) (by intro e; cases e)
          · exact (cell_ne (by assumption) 5).2
          · exact (cell_ne (by assumption) 4).2
          · exact (cell_ne (by assumption) 3).2
          · exact (cell_ne (by assumption) 2).2
          · exact (cell_ne (by assumption) 1).2
        clear hnw0 N9
        have hl1 : Lam1 nw0 := ⟨c1, oc1, vs1, t1, m180, mc1, hoc1, hvs1⟩
        have hB256 : (256 : Int) ≤ 256 ^ u := by rcases hu3 with rfl | rfl | rfl <;> decide
        have heu : (u : Int) = ((u : Nat) : Int) := rfl
        have hu18 : u ≤ 18 := by omega
        refine TupSrc.of (fun i ys nw G => ∃ (ps : Array Value) (ex : List (Addr × Obj)), nw = (201, tabObj ps) :: (ex ++ nw0) ∧ (ps = #[] ∨ TabHit 250 18 lamq2 ps (ex ++ nw0)) ∧ (∀ q ∈ ex, q.1 ≠ 201) ∧ AllBare G ∧ ys = List.replicate i (Value.bool true)) mT rfl F8 N11 (by rw [sizeLine_eq]; exact Nat.le_of_ble_eq_true rfl) ⟨#[], [], rfl, .inl rfl, (fun q hq => nomatch hq), (by rw [hg]; intro y hy; simp at hy), rfl⟩ ?mem ?step ?fin
        case mem =>
          rintro i ys nw G ⟨ps, ex, rfl, _⟩ q hq
          exact .tail _ (List.mem_append_right _ hq)
        case step =>
          rintro i v ys nw I oI C oC D m₂ h2 tk2 G2 E' hv ⟨ps, ex, rfl, hps, hex, hG2, hys⟩ hyl hC hx hoI F2 N2 off
          clear F8 N11
          have up : ∀ q ∈ nw0, q ∈ (201, tabObj ps) :: (C, oC) :: (D, LCg.lst ys) :: (I, oI) :: (ex ++ nw0) := fun q hq => .tail _ (.tail _ (.tail _ (.tail _ (List.mem_append_right _ hq))))
          have x2 := up _ mX2
          have x3 := up _ mX3
          have x4 := up _ mX4
          have x5 := up _ mX5
          have y0 := up _ mR0
          have y1 := up _ mR1
          have xC : (C, oC) ∈ (201, tabObj ps) :: (C, oC) :: (D, LCg.lst ys) :: (I, oI) :: (ex ++ nw0) := .tail _ (.head _)
          have hnPc : ∀ q ∈ (C, oC) :: (D, LCg.lst ys) :: (I, oI) :: (ex ++ nw0), q.1 ≠ 201 := by
            have h3 := off (201, tabObj ps) (.head _)
            intro q hq
            simp only [List.mem_cons, List.mem_append] at hq
            rcases hq with rfl | rfl | rfl | hq | hq
            · exact Ne.symm h3.1
            · exact Ne.symm h3.2.1
            · exact Ne.symm h3.2.2
            · exact hex q hq
            · exact hnP q hq
          have hin : ∀ q ∈ nw0, q ∈ (C, oC) :: (D, LCg.lst ys) :: (I, oI) :: (ex ++ nw0) := fun q hq => .tail _ (.tail _ (.tail _ (List.mem_append_right _ hq)))
          have hl1c : Lam1 ((C, oC) :: (D, LCg.lst ys) :: (I, oI) :: (ex ++ nw0)) := ⟨c1, oc1, vs1, t1, hin _ m180, hin _ mc1, hoc1, hvs1⟩
          have hpsc : ps = #[] ∨ TabHit 250 18 lamq2 ps ((C, oC) :: (D, LCg.lst ys) :: (I, oI) :: (ex ++ nw0)) := hps.imp id fun x => x.mono fun q hq => .tail _ (.tail _ (.tail _ hq))
          have hc6 : ∀ x ∈ 1 :: cs, 1 ≤ x ∧ x ≤ 6 := fun x hx => by
            rcases List.mem_cons.mp hx with rfl | hx
            · omega
            · exact hcb x hx
          have N3 : News (ghostOf s₁.heap [(203, 201), (184, 180)]) s₁.heap.objs.size h2 ((201, tabObj ps) :: (C, oC) :: (D, LCg.lst ys) :: (I, oI) :: (ex ++ nw0)) := news_sub N2 fun q hq => by
            simp only [List.mem_cons] at hq ⊢
            rcases hq with h | h | h | h | h <;> simp [h]
          rcases i with _ | _ | i
          · simp only [List.getElem?_cons_zero, Option.some.injEq] at hv
            subst hv
            clear N2
            try dsimp only
            k_steps
            refine ⟨c_left16 (u := u) (by assumption) F2 (by assumption) N3 (by assumption) (Around.frames_deeper rfl) rfl rfl rfl (by rw [depth_deeper]; decide +kernel) (by rw [units_deeper]; decide +kernel) rfl hnPc hpsc (by assumption) (by assumption) hl1c hG2 (hin _ mR0) (hin _ mC) (hin _ mE) hcv hev (Nat.le_succ_of_le hcl2) hc6 hes hnb hu3 hf2 ?_⟩
            intro ps' ex2 t4 h4 tk4 G4 hps4 hex4 hG4 F4 N4
            clear F2 N3
            have up4 : ∀ q ∈ nw0, q ∈ (201, tabObj ps') :: (ex2 ++ (C, oC) :: (D, LCg.lst ys) :: (I, oI) :: (ex ++ nw0)) := fun q hq => .tail _ (List.mem_append_right _ (hin q hq))
            clear x2 x3 x4 x5 y0 y1 xC
            have x2 := up4 _ mX2
            have x3 := up4 _ mX3
            have y0 := up4 _ mR0
            have xC : (C, oC) ∈ (201, tabObj ps') :: (ex2 ++ (C, oC) :: (D, LCg.lst ys) :: (I, oI) :: (ex ++ nw0)) := by simp
            try dsimp only
            k_steps
            obtain ⟨ex', N5, off5, hps5, hex5⟩ := road_end N4 hC hoI hps4 hex hex4 off
            rw [beq_self_eq_true]
            exact ⟨_, _, _, _, rfl, F4, N5, off5, ps', ex', rfl, hps5, hex5, hG4, by rw [hys]; rfl⟩
          · simp only [List.getElem?_cons_succ, List.getElem?_cons_zero, Option.some.injEq] at hv
            subst hv
            clear hB256 heu hu18
            have hB256 : (256 : Int) ≤ 256 ^ 3 := by decide
            have heu : (3 : Int) = ((3 : Nat) : Int) := rfl
            have hu18 : 3 ≤ 18 := by decide
            clear N2
            try dsimp only
            k_steps
            refine ⟨c_left64 (by assumption) F2 (by assumption) N3 (by assumption) (Around.frames_deeper rfl) rfl rfl rfl (by rw [depth_deeper]; decide +kernel) (by rw [units_deeper]; decide +kernel) rfl hnPc hpsc (by assumption) (by assumption) hl1c hG2 (hin _ mR1) (hin _ mC) (hin _ mE) hcv hev (Nat.le_succ_of_le hcl2) hc6 hes hnb hf2 ?_⟩
            intro ps' ex2 t4 h4 tk4 G4 hps4 hex4 hG4 F4 N4
            clear F2 N3
            have up4 : ∀ q ∈ nw0, q ∈ (201, tabObj ps') :: (ex2 ++ (C, oC) :: (D, LCg.lst ys) :: (I, oI) :: (ex ++ nw0)) := fun q hq => .tail _ (List.mem_append_right _ (hin q hq))
            clear x2 x3 x4 x5 y0 y1 xC
            have x2 := up4 _ mX2
            have x3 := up4 _ mX3
            have y0 := up4 _ mR1
            have xC : (C, oC) ∈ (201, tabObj ps') :: (ex2 ++ (C, oC) :: (D, LCg.lst ys) :: (I, oI) :: (ex ++ nw0)) := by simp
            try dsimp only
            k_steps
            obtain ⟨ex', N5, off5, hps5, hex5⟩ := road_end N4 hC hoI hps4 hex hex4 off
            rw [beq_self_eq_true]
            exact ⟨_, _, _, _, rfl, F4, N5, off5, ps', ex', rfl, hps5, hex5, hG4, by rw [hys]; rfl⟩
          · simp at hv
        case fin =>
          rintro ys nw G2 D h2 tk2 hyl ⟨ps, ex, rfl, hps, hex, hG2, rfl⟩ F2 N2
          clear F8 N11
          try dsimp only
          iterate 2 (first | walk1 | (dsimp only; walk1))
          with_reducible show True ∧ _ ∧ True ∧ _ ∧ _
          rename News _ _ _ ((_, _) :: (201, _) :: _) => N3
          rename Fr _ _ _ (fun _ => _) => F3
          exact ⟨trivial, F3.keep, trivial, hG2, GrownAt.of N3 (.tail _ (.head _)), GrownAt.of N3 (.tail _ (.tail _ (List.mem_append_right _ m180))), trivial⟩))

end Mine
theorem PySem.Challenge.cw_qh0011_01_holds : PySem.Challenge.rw_qh0011_01.Holds := by
  exact Mine.law_holds
