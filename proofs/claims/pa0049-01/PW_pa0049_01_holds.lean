import PyProof.Rows.All
import Wide.All
import OpenK.AllK
import Wide.FinOn
import PySem.Challenge.RW_pa0049_01
open PySem PySem.W PyProof.Rows
set_option Elab.async false
set_option compiler.extract_closed false
set_option maxRecDepth 100000
set_option maxHeartbeats 8000000
namespace Mine
set_option maxRecDepth 100000 in
set_option maxHeartbeats 8000000 in
theorem law_said : OpenLaw.wellSaid PySem.Challenge.rw_pa0049_01 = true := by
  refine (congrFun PySem.W.Fast.te9446332074065402090 _).trans ?_
  kernel_rfl
section
local macro_rules | `(tactic| o_law) => `(tactic| refine holds_law law_said fun said => ?_)
set_option maxRecDepth 100000 in
set_option maxHeartbeats 8000000 in
set_option synthInstance.maxSize 1 in
open_top hd for PySem.Challenge.rw_pa0049_01
end
/-! B0 -/
section
/-- a goal that the walk leaves as it is -/
structure Hold (p : Prop) : Prop where
  out : p
/-- the contract of a def of the text that hands back a plain value and keeps what stood; k frames of room -/
def Tell (k : Nat) (w : World) (loose : List Str) (mean : ExcName → Option Value) (mg mb : Str → Option Value) (f : Addr) (news : List (Addr × Obj)) (vs : List Value) (kw : List (Str × Value)) (R : Tok → Value) : Prop :=
  ∀ (dp un : Nat) (cn : Str) (cs : Scope) (a : Addr) (ccd : Value) (cl : List (Str × Addr)) (outer : List Env) (A₀ : Around) (base h₀ : Heap) (L : Addr) (m : Str → Option Value) (s : Shared) (Q E : Value → Shared → Prop),
    Below A₀ base outer h₀ → Fr h₀ L s.heap m → (hd.heap_1 w.params).In h₀ → News h₀ L s.heap news → Top hd.view_1 loose mean mg mb h₀ → cs.kind = .function →
    dp + k < recursionLimit → un + 100 * k < cLine →
    (∀ (t : Tok) (h' : Heap) (tk' : Nat), Fr h₀ L h' m → News h₀ L h' news → Q (R t) { s with heap := h', toks := tk' }) →
      wpAny (model Challenge.rw_pa0049_01.row.prog w) (ktrTop dp un (some []) cn cs L a ccd cl outer) (call (.ref f) vs kw) Q E s

/-- the same, of a def that hands back a new list -/
def TellL (k : Nat) (w : World) (loose : List Str) (mean : ExcName → Option Value) (mg mb : Str → Option Value) (f : Addr) (news : List (Addr × Obj)) (vs : List Value) (R : List Value → Prop) : Prop :=
  ∀ (dp un : Nat) (cn : Str) (cs : Scope) (a : Addr) (ccd : Value) (cl : List (Str × Addr)) (outer : List Env) (A₀ : Around) (base h₀ : Heap) (L : Addr) (m : Str → Option Value) (s : Shared) (Q E : Value → Shared → Prop),
    Below A₀ base outer h₀ → Fr h₀ L s.heap m → (hd.heap_1 w.params).In h₀ → News h₀ L s.heap news → Top hd.view_1 loose mean mg mb h₀ → cs.kind = .function →
    dp + k < recursionLimit → un + 100 * k < cLine →
    (∀ (l : Addr) (us : List Value) (c : Nat) (h' : Heap) (tk' : Nat), R us → (∀ p ∈ news, p.1 < l) → Fr h₀ L h' m → News h₀ L h' ((l, listOf us.toArray c) :: news) → Q (.ref l) { s with heap := h', toks := tk' }) →
      wpAny (model Challenge.rw_pa0049_01.row.prog w) (ktrTop dp un (some []) cn cs L a ccd cl outer) (call (.ref f) vs) Q E s

section
variable {k : Nat} {w : World} {loose : List Str} {mean : ExcName → Option Value} {mg mb : Str → Option Value} {f : Addr} {news : List (Addr × Obj)} {vs : List Value} {kw : List (Str × Value)} {R : Tok → Value} {RL : List Value → Prop}
  {dp un : Nat} {cn : Str} {cs : Scope} {a : Addr} {ccd : Value} {cl : List (Str × Addr)} {outer : List Env} {A₀ : Around} {base h₀ : Heap} {L : Addr} {m : Str → Option Value} {s : Shared} {Q E : Value → Shared → Prop}
theorem Tell.use (C : Tell k w loose mean mg mb f news vs kw R) (B : Below A₀ base outer h₀) (F : Fr h₀ L s.heap m) (X : (hd.heap_1 w.params).In h₀) (N : News h₀ L s.heap news) (T : Top hd.view_1 loose mean mg mb h₀) (hk : cs.kind = .function)
    (hd : dp + k < recursionLimit) (hu : un + 100 * k < cLine) (ret : ∀ (t : Tok) (h' : Heap) (tk' : Nat), Fr h₀ L h' m → News h₀ L h' news → Q (R t) { s with heap := h', toks := tk' }) :
    wpAny (model Challenge.rw_pa0049_01.row.prog w) (ktrTop dp un (some []) cn cs L a ccd cl outer) (call (.ref f) vs kw) Q E s :=
  C _ _ _ _ _ _ _ _ _ _ _ _ _ _ _ _ B F X N T hk hd hu ret
theorem TellL.use (C : TellL k w loose mean mg mb f news vs RL) (B : Below A₀ base outer h₀) (F : Fr h₀ L s.heap m) (X : (hd.heap_1 w.params).In h₀) (N : News h₀ L s.heap news) (T : Top hd.view_1 loose mean mg mb h₀) (hk : cs.kind = .function)
    (hd : dp + k < recursionLimit) (hu : un + 100 * k < cLine)
    (ret : ∀ (l : Addr) (us : List Value) (c : Nat) (h' : Heap) (tk' : Nat), RL us → (∀ p ∈ news, p.1 < l) → Fr h₀ L h' m → News h₀ L h' ((l, listOf us.toArray c) :: news) → Q (.ref l) { s with heap := h', toks := tk' }) :
    wpAny (model Challenge.rw_pa0049_01.row.prog w) (ktrTop dp un (some []) cn cs L a ccd cl outer) (call (.ref f) vs) Q E s :=
  C _ _ _ _ _ _ _ _ _ _ _ _ _ _ _ _ B F X N T hk hd hu ret
end
section
variable {h₀ h' : Heap} {L : Addr} {m : Str → Option Value} {news : List (Addr × Obj)} {s : Shared} {Q : Value → Shared → Prop} {t : Tok} {tk' : Nat}
theorem retI {R : Tok → Value} {y : Int} (hret : ∀ (t : Tok) (h' : Heap) (tk' : Nat), Fr h₀ L h' m → News h₀ L h' news → Q (R t) { s with heap := h', toks := tk' }) (e : ∀ t, R t = .int y t) (F : Fr h₀ L h' m) (N : News h₀ L h' news) : Q (.int y t) { s with heap := h', toks := tk' } := e t ▸ hret t h' tk' F N
theorem retS {R : Tok → Value} {y : Str} (hret : ∀ (t : Tok) (h' : Heap) (tk' : Nat), Fr h₀ L h' m → News h₀ L h' news → Q (R t) { s with heap := h', toks := tk' }) (e : ∀ t, R t = .str y t) (F : Fr h₀ L h' m) (N : News h₀ L h' news) : Q (.str y t) { s with heap := h', toks := tk' } := e t ▸ hret t h' tk' F N
theorem retY {R : Tok → Value} {y : Array UInt8} (hret : ∀ (t : Tok) (h' : Heap) (tk' : Nat), Fr h₀ L h' m → News h₀ L h' news → Q (R t) { s with heap := h', toks := tk' }) (e : ∀ t, R t = .bytes y t) (F : Fr h₀ L h' m) (N : News h₀ L h' news) : Q (.bytes y t) { s with heap := h', toks := tk' } := e t ▸ hret t h' tk' F N
theorem retN {R : Tok → Value} (hret : ∀ (t : Tok) (h' : Heap) (tk' : Nat), Fr h₀ L h' m → News h₀ L h' news → Q (R t) { s with heap := h', toks := tk' }) (e : ∀ t, R t = .none) (F : Fr h₀ L h' m) (N : News h₀ L h' news) : Q .none { s with heap := h', toks := tk' } := e 0 ▸ hret 0 h' tk' F N
theorem retB {R : Tok → Value} {b : Bool} (hret : ∀ (t : Tok) (h' : Heap) (tk' : Nat), Fr h₀ L h' m → News h₀ L h' news → Q (R t) { s with heap := h', toks := tk' }) (e : ∀ t, R t = .bool b) (F : Fr h₀ L h' m) (N : News h₀ L h' news) : Q (.bool b) { s with heap := h', toks := tk' } := e 0 ▸ hret 0 h' tk' F N
end
theorem fr_names {h₀ h : Heap} {L : Addr} {m : Str → Option Value} (F : Fr h₀ L h m) : ∃ g m', g = h₀ ∧ m' = m ∧ Fr g L h m' := ⟨_, _, rfl, rfl, F⟩
theorem led_names {h₀ h : Heap} {L l : Addr} {o : Obj} {news : List (Addr × Obj)} (N : News h₀ L h ((l, o) :: news)) : ∃ l', l' = l ∧ News h₀ L h ((l', o) :: news) := ⟨_, rfl, N⟩
theorem ltUp {news : List (Addr × Obj)} {L : Addr} (k : Nat) (h : ∀ p ∈ news, p.1 < L) : ∀ p ∈ news, p.1 < L + k := fun p hp => Nat.lt_of_lt_of_le (h p hp) (Nat.le_add_right _ _)
theorem ne_up1 (n : Nat) : n ≠ n + 1 := Nat.ne_of_lt (Nat.lt_succ_self n)
theorem ne_up2 (n : Nat) : n ≠ n + 1 + 1 := Nat.ne_of_lt (Nat.lt_add_of_pos_right (by decide : 0 < 2))
theorem ne_up3 (n : Nat) : n ≠ n + 1 + 1 + 1 := Nat.ne_of_lt (Nat.lt_add_of_pos_right (by decide : 0 < 3))
theorem ne_up4 (n : Nat) : n ≠ n + 1 + 1 + 1 + 1 := Nat.ne_of_lt (Nat.lt_add_of_pos_right (by decide : 0 < 4))
theorem and2 {a b c : Prop} (h : a ∧ b ∧ c) : c := h.2.2
theorem and3 {a b c d : Prop} (h : a ∧ b ∧ c ∧ d) : d := h.2.2.2
theorem and4 {a b c d e : Prop} (h : a ∧ b ∧ c ∧ d ∧ e) : e := h.2.2.2.2
end
local macro_rules | `(tactic| k_room) => `(tactic| ktr_room)
local macro_rules | `(tactic| k_units) => `(tactic| ktr_units)
local macro_rules | `(tactic| walk_at "my enter") => `(tactic| first
  | (refine' code_def ?k1 ?k2 ?k3 ?k4 ?k5 ?kA ?kF ?kK ?k6 ?k7 ?k8 ?k9 ?kB ?_ ?c2 ?c3 ?c4 ?c5; (case kA => exact rfl); (case kF => exact rfl); (case kK => assumption); (case k1 => k_asm); (case k2 => k_asm); (case k3 => k_asm); (case k4 => k_asm); (case k5 => k_asm); (case k6 => k_is); (case k7 => k_is); (case k8 => ktr_room); (case k9 => first | exact BindsTo.of_eq rfl | exact binds_K (by k_in) rfl (by k_is) rfl rfl rfl); (case c5 => decide); (case kB => exact locs rfl); (case c2 => exact rfl); (case c3 => exact rfl); (case c4 => exact rfl); k_whole; intro g' L' h' FG' F' N' B' X' T'; (try dsimp only); (try k_lift B'); (try k_fold))
  | (refine' code_defC ?k1 ?k2 ?k3 ?k4 ?k5 ?kA ?kF ?kK ?k6 ?k7 ?k8 ?k9 ?kB ?kD ?_ ?c2 ?c3 ?c4; (case kA => exact rfl); (case kF => exact rfl); (case kK => assumption); (case k1 => k_asm); (case k2 => k_asm); (case k3 => k_asm); (case k4 => k_asm); (case k5 => k_asm); (case k6 => k_is); (case k7 => k_is); (case k8 => ktr_room); (case k9 => first | exact BindsTo.of_eq rfl | exact binds_K (by k_in) rfl (by k_is) rfl rfl rfl); (case kB => exact rfl); (case kD => decide +kernel); (case c2 => exact rfl); (case c3 => exact rfl); (case c4 => exact rfl); k_whole; intro g' L' h' tk' cells' FG' F' N' Y' B' X' T' l1; (have l2 := ltUp 1 l1); (have l3 := ltUp 2 l1); (have l4 := ltUp 3 l1); (try k_lt l1); k_cells Y'; (try simp only [List.cons_append, List.nil_append] at N'); (try dsimp only); (try k_lift B'); (try k_fold)))
local macro_rules | `(tactic| walk_at "my goals") => `(tactic| (
  (case k1 => first | k_asm | fail "use: the frames below")
  (case k2 => first | k_asm | fail "use: the frame")
  (case k3 => first | k_asm | fail "use: the written part")
  (case k4 => first | k_asm | fail "use: the ledger")
  (case k5 => first | k_asm | fail "use: the top's facts")
  (case kK => first | exact rfl | assumption | fail "use: the caller is no def")
  (case kd => first | ktr_room | fail "use: the frames' room")
  (case ku => first | ktr_units | fail "use: the C units")))
local macro_rules | `(tactic| walk_at "one") => `(tactic| (first | (k_unfold; (try dsimp only)) | (k_end; wrow_close) | walk1 | (dsimp only; walk1) | (leave1; walk_say "STEP leave1"; try dsimp only) | fail "no step"))
local macro_rules | `(tactic| walk_at "InvEndN") => `(tactic| (refine Hold.out ?_))
local macro_rules | `(tactic| walk_at "my and") => `(tactic| first
  | with_reducible assumption
  | exact And.right (by with_reducible assumption)
  | exact and2 (by with_reducible assumption)
  | exact and3 (by with_reducible assumption))
local macro_rules | `(tactic| walk_at "my fact") => `(tactic| first
  | with_reducible assumption
  | exact And.left (by walk_at "my and")
  | exact And.left (and4 (by walk_at "my and"))
  | exact And.left (and4 (and4 (by walk_at "my and"))))
local macro_rules | `(tactic| k_ne) => `(tactic| (refine neN ?_; (try dsimp only); first
  | exact ne_up1 _
  | exact Ne.symm (ne_up1 _)
  | exact ne_up2 _
  | exact Ne.symm (ne_up2 _)
  | exact ne_up3 _
  | exact Ne.symm (ne_up3 _)
  | exact Nat.ne_of_lt (by walk_at "my fact")
  | exact Nat.ne_of_gt (by walk_at "my fact")
  | walk_at "my fact"
  | exact Ne.symm (by walk_at "my fact")
  | omega))
local macro_rules | `(tactic| walk_at "my size") => `(tactic| ((repeat (rename _ ∧ _ => hX9; clear hX9)); omega))
/-! L_enc -/
section
theorem forIn_none {β : Type} {f : Nat → β → Sem (ForInStep β)} {b0 : β} : forIn [:0] b0 f = pure b0 := by
  rw [Std.Legacy.Range.forIn_eq_forIn_range']
  rfl
theorem forIn_two {β : Type} {n : Nat} {f : Nat → β → Sem (ForInStep β)} {b0 b1 : β} (hn : 1 ≤ n) (h0 : ∀ k, f k b0 = pure (.yield b1)) (h1 : ∀ k, f k b1 = pure (.done b1)) :
    forIn [:n] b0 f = pure b1 := by
  rw [Std.Legacy.Range.forIn_eq_forIn_range']
  obtain ⟨m, rfl⟩ : ∃ m, n = m + 1 := ⟨n - 1, by omega⟩
  have e : [:m + 1].size = m + 1 := by simp [Std.Legacy.Range.size]
  rw [e]
  show forIn (List.range' 0 (m + 1) 1) b0 f = pure b1
  rw [List.range'_succ, List.forIn_cons, h0]
  rw [pure_bind]
  dsimp only
  cases m with
  | zero => rfl
  | succ m => rw [List.range'_succ, List.forIn_cons, h1, pure_bind]
theorem foldl_bytes (l : List Nat) (out : Array UInt8) : l.foldl (fun acc y => acc ++ ([y.toUInt8] : List UInt8).toArray) out = out ++ (l.map (·.toUInt8)).toArray := by
  induction l generalizing out with
  | nil => simp
  | cons a l ih => rw [List.foldl_cons, ih]; apply Array.ext'; simp
open Builtin in
theorem encodeNarrow_ascii {id : String} {self : Value} {x : Str} (hx : ∀ c ∈ x.cps.toList, c < 128) (hl : x.length ≤ sizeLine) :
    _codecs.encodeNarrow id _codecs.asciiCodec none self x = pure (x.cps.map (·.toUInt8)) := by
  by_cases hn : x.length = 0
  · have hc : x.cps = #[] := by
      have : x.cps.size = 0 := hn
      exact Array.eq_empty_of_size_eq_zero this
    unfold _codecs.encodeNarrow
    dsimp only
    rw [hn, forIn_none, pure_bind, hc]
    simp
  · unfold _codecs.encodeNarrow
    dsimp only
    rw [forIn_two (b1 := (x.cps.size, x.cps.map (·.toUInt8), ({} : _codecs.Faults)))]
    · rw [pure_bind]
    · omega
    · intro k
      have hsz : x.cps.size ≠ 0 := hn
      obtain ⟨c, hc⟩ : ∃ c, x.cps[0]? = some c := ⟨x.cps[0], by simp [Nat.pos_of_ne_zero hsz]⟩
      have hcl : c < 128 := hx c (by simpa using Array.mem_of_getElem? hc)
      have hbad : _codecs.asciiCodec.bad c = false := by simp [_codecs.asciiCodec]; omega
      have hfind : Array.findIdx? _codecs.asciiCodec.bad (x.cps.extract 0) = none := by
        rw [Array.findIdx?_eq_none_iff]
        intro y hy
        have : y ∈ x.cps.toList := by simpa using hy
        have := hx y this
        simp [_codecs.asciiCodec]; omega
      have h0 : ¬ (#[] : Array UInt8).size > sizeLine := by simp
      rw [if_neg h0]
      dsimp only
      rw [hc]
      dsimp only
      rw [hbad]
      rw [if_pos (by rfl), hfind]
      simp only [Option.getD_none]
      have hf : Array.foldl (fun acc y => acc ++ (_codecs.asciiCodec.bytesOf y).toArray) #[] ((x.cps.extract 0).extract 0 (x.cps.extract 0).size) = x.cps.map (·.toUInt8) := by
        rw [← Array.foldl_toList]
        have := foldl_bytes x.cps.toList #[]
        have e1 : ((x.cps.extract 0).extract 0 (x.cps.extract 0).size).toList = x.cps.toList := by simp
        rw [e1]
        show x.cps.toList.foldl (fun acc y => acc ++ ([y.toUInt8] : List UInt8).toArray) #[] = _
        rw [this]
        apply Array.ext'; simp
      rw [hf]
      simp
    · intro k
      have hs : ¬ (x.cps.map (·.toUInt8)).size > sizeLine := by
        rw [Array.size_map]
        exact Nat.not_lt.mpr hl
      rw [if_neg hs]
      have : x.cps[x.cps.size]? = none := by simp
      dsimp only
      rw [this]
open Builtin in
theorem codecArg_none (id f which : String) : Str.codecArg id f which none = pure none := rfl
open Builtin in
theorem codecArg_ascii (id f which : String) (u : Tok) : Str.codecArg id f which (some (.str (Str.ofString "ascii") u)) = pure (some (Str.ofString "ascii")) := by
  unfold Str.codecArg
  have h : Str.strArg id f which (.str (Str.ofString "ascii") u) = pure (Str.ofString "ascii") := rfl
  dsimp only
  rw [h, pure_bind, if_neg (by decide +kernel), if_neg (by decide +kernel)]
open Builtin in
theorem encode_tree {x : Str} {t u : Tok} : «str.encode» ⟨[.str x t, .str (Str.ofString "ascii") u], []⟩ = (do ret (← _codecs.encodeRoad "str.encode" (.str x t) x (Str.ofString "ascii") none)) := by
  have h1 : Str.bindOptional "str.encode" "encode" 0 ["encoding", "errors"] [.str (Str.ofString "ascii") u] [] = pure [some (.str (Str.ofString "ascii") u), none] := by
    first | rfl | kernel_rfl
  unfold «str.encode»
  have h0 : Str.strSelf ⟨[.str x t, .str (Str.ofString "ascii") u], []⟩ = pure (.str x t, x, [.str (Str.ofString "ascii") u]) := rfl
  rw [h0, pure_bind]
  dsimp only
  rw [h1]
  rw [pure_bind]
  dsimp only
  rw [codecArg_ascii, pure_bind, codecArg_none, pure_bind]
  rfl
open Builtin in
theorem encodeRoad_ascii (id : String) (self : Value) (x : Str) (errors : Option Str) : _codecs.encodeRoad id self x (Str.ofString "ascii") errors = (do mkBytes (← _codecs.encodeNarrow id _codecs.asciiCodec errors self x)) := by
  first | rfl | (unfold _codecs.encodeRoad; rfl) | (unfold _codecs.encodeRoad; simp only []; rfl) | decide
section
variable {prog : Program} {w : World} {A : Around} {E : Value → Shared → Prop} {s : Shared} {x : Str} {t u : Tok}
theorem meets_encode (hx : ∀ c ∈ x.cps.toList, c < 128) : Meets (Builtin.«str.encode» ⟨[.str x t, .str (Str.ofString "ascii") u], []⟩) (fun _ R s => x.length ≤ sizeLine ∧ R (.ok (.ret (.bytes (x.cps.map (·.toUInt8)) s.toks))) { s with toks := s.toks + 1 }) := by
  refine .of_wp fun prog w A R s hS => ?_
  obtain ⟨hsz, h⟩ := hS
  rw [encode_tree, encodeRoad_ascii, encodeNarrow_ascii hx hsz]
  refine wpAny_bind (wpAny_bind (wpAny_pure ?_))
  exact wpAny_mkBytes (wpAny_pure ⟨_, rfl, h⟩) (by rw [Array.size_map]; exact hsz)
/-- a text of plain signs as its octets -/
def octs (x : Str) : List UInt8 := x.cps.toList.map (·.toUInt8)
theorem encode_ascii {Q : Value → Shared → Prop} (hx : ∀ c ∈ x.cps.toList, c < 128) (hl : x.length ≤ sizeLine) (h : Q (.bytes (octs x).toArray s.toks) { s with toks := s.toks + 1 }) :
    wpAny (model prog w) A (call (.builtin "str.encode") [.str x t, .str (Str.ofString "ascii") u]) Q E s := by
  have e : x.cps.map (·.toUInt8) = (octs x).toArray := by apply Array.ext'; simp [octs]
  exact call_meets F.slot_str_encode (typeIs_str _ _ _) F.entry_str_encode (F.args_str_encode_2 _ _) (meets_encode hx) ⟨hl, by rw [e]; exact h⟩
theorem method_encode {M : Model} {pl : Sem Bool} {Q : Value × List Value → Shared → Prop} (h : Q (.builtin "str.encode", [.str x t]) s) : wpAny M A (getMethod (.str x t) "encode" pl) Q E s := by
  with_reducible exact GM.of (.str x t) (typeIs_str _ _ _) F.slot_str_encode F.type_str_encode GM.noRef h
end
end
local macro_rules | `(tactic| walk_at "call type:type") => `(tactic| ((with_reducible show wpAny _ _ (call _ [Value.bytes _ _]) _ _ _); refine call_type_of (Tx := "bytes") rfl (by decide +kernel) ?_))
local macro_rules | `(tactic| walk_at "getMethod str") => `(tactic| (k_here; (with_reducible refine method_encode ?_)))
local macro_rules | `(tactic| walk_at "call builtin:str.encode") => `(tactic| (k_here; (with_reducible show wpAny _ _ (call (Value.builtin "str.encode") [Value.str _ _, Value.str _ _]) _ _ _); (refine encode_ascii (by assumption) (by (rw [sizeLine_eq]; (try simp only [Str.length_append] at *); omega)) ?_)))
/-! P_val -/
section
theorem top_off_P_val : True := by
  w_top off
  trivial
def b64v (c : Int) : Int := if 65 ≤ c ∧ c ≤ 90 then c - 65 else if 97 ≤ c ∧ c ≤ 122 then c - 71 else if 48 ≤ c ∧ c ≤ 57 then c + 4 else if c = 43 then 62 else if c = 47 then 63 else 64
theorem val_tell {w loose mean mg mb news} (c : Int) (tc : Tok) : Tell 1 w loose mean mg mb 78 news [.int c tc] [] (fun t => .int (b64v c) t) := by
  unfold Tell
  k_fill
  intro dp un cn cs a ccd cl outer A₀ base h₀ L m s Q E B F X N T hk hd hu hret
  refine wpAny_call ?_
  k_dflt walk_at "my enter"
  k_steps
  all_goals (refine retI hret ?_ (by k_asm) (by k_asm))
  all_goals (intro t; unfold b64v; simp_all <;> omega)

theorem truth_tell {w loose mean mg mb news} (b : Bool) : Tell 1 w loose mean mg mb 71 news [.bool b] [] (fun _ => .bool b) := by
  unfold Tell
  k_fill
  intro dp un cn cs a ccd cl outer A₀ base h₀ L m s Q E B F X N T hk hd hu hret
  refine wpAny_call ?_
  k_dflt walk_at "my enter"
  k_steps
  all_goals (refine retB hret ?_ (by k_asm) (by k_asm))
  all_goals (intro t; simp_all)
theorem buffer_tell {w loose mean mg mb news} (b : Array UInt8) (t : Tok) : Tell 1 w loose mean mg mb 64 news [.bytes b t] [] (fun _ => .bytes b t) := by
  unfold Tell
  k_fill
  intro dp un cn cs a ccd cl outer A₀ base h₀ L m s Q E B F X N T hk hd hu hret
  refine wpAny_call ?_
  k_dflt walk_at "my enter"
  k_steps
  all_goals exact hret 0 _ _ (by k_asm) (by k_asm)
theorem abuffer_tell {w loose mean mg mb news} (b : Array UInt8) (t : Tok) : Tell 1 w loose mean mg mb 57 news [.bytes b t] [] (fun _ => .bytes b t) := by
  unfold Tell
  k_fill
  intro dp un cn cs a ccd cl outer A₀ base h₀ L m s Q E B F X N T hk hd hu hret
  refine wpAny_call ?_
  k_dflt walk_at "my enter"
  k_steps
  all_goals exact hret 0 _ _ (by k_asm) (by k_asm)
theorem bfdd_tell {w loose mean mg mb news} (x : Str) (tx : Tok) (hasc : ∀ c ∈ x.cps.toList, c < 128) (hl : x.length ≤ 10000) : Tell 1 w loose mean mg mb 37 news [.str x tx] [] (fun t => .bytes (octs x).toArray t) := by
  unfold Tell
  k_fill
  intro dp un cn cs a ccd cl outer A₀ base h₀ L m s Q E B F X N T hk hd hu hret
  refine wpAny_call ?_
  k_dflt walk_at "my enter"
  k_steps
  all_goals exact hret _ _ _ (by k_asm) (by k_asm)
end
/-! L_bits -/
section
theorem bitOr_nat (x y : Nat) : Builtin.bitOr (x : Int) (y : Int) = ((x ||| y : Nat) : Int) := by
  unfold Builtin.bitOr Builtin.bitAnd Builtin.bitNot
  have h1 : decide (0 ≤ (-(x : Int) - 1)) = false := by simp; omega
  have h2 : decide (0 ≤ (-(y : Int) - 1)) = false := by simp; omega
  rw [h1, h2]
  dsimp only
  have e1 : (-(-(x : Int) - 1) - 1).toNat = x := by omega
  have e2 : (-(-(y : Int) - 1) - 1).toNat = y := by omega
  rw [e1, e2]
  omega
/-- bits apart: or is plus -/
theorem bitOr_apart {a b : Int} (k : Nat) (ha : 0 ≤ a) (hb : 0 ≤ b) (hk : b < 2 ^ k) : Builtin.bitOr (a * 2 ^ k) b = a * 2 ^ k + b := by
  obtain ⟨x, rfl⟩ := Int.eq_ofNat_of_zero_le ha
  obtain ⟨y, rfl⟩ := Int.eq_ofNat_of_zero_le hb
  have hy : y < 2 ^ k := by
    have : ((y : Nat) : Int) < ((2 ^ k : Nat) : Int) := by rw [kbt_cast]; exact hk
    omega
  have e : (x : Int) * 2 ^ k = ((2 ^ k * x : Nat) : Int) := by
    rw [← kbt_cast, Int.natCast_mul, Int.mul_comm]
  rw [e, bitOr_nat, ← Nat.two_pow_add_eq_or_of_lt hy]
  omega
def b64L : List Int := [65, 66, 67, 68, 69, 70, 71, 72, 73, 74, 75, 76, 77, 78, 79, 80, 81, 82, 83, 84, 85, 86, 87, 88, 89, 90, 97, 98, 99, 100, 101, 102, 103, 104, 105, 106, 107, 108, 109, 110, 111, 112, 113, 114, 115, 116, 117, 118, 119, 120, 121, 122, 48, 49, 50, 51, 52, 53, 54, 55, 56, 57, 43, 47]
/-- the sign of a figure -/
def b64c (k : Int) : Int := b64L.getD k.toNat 0
theorem b64L_in : ∀ v ∈ b64L, 0 ≤ v ∧ v < 256 := by decide +kernel
theorem b64c_in (k : Int) : 0 ≤ b64c k ∧ b64c k < 256 := by
  unfold b64c
  rw [List.getD_eq_getElem?_getD]
  cases h : b64L[k.toNat]? with
  | none => simp
  | some v => exact b64L_in v (List.mem_of_getElem? h)
end
local macro_rules | `(tactic| walk_at "my use") => `(tactic| (walk_at "my goals"; intro t9 h9 tk9 F9 N9; (try dsimp only); (try k_fold)))
local macro_rules | `(tactic| walk_at "call ref") => `(tactic| (k_here; (with_reducible show wpAny _ _ (call (Value.ref 78) [Value.int _ _] _) _ _ _); k_dflt (refine' Tell.use (val_tell _ _) ?k1 ?k2 ?k3 ?k4 ?k5 ?kK ?kd ?ku ?_; walk_at "my use")))
local macro_rules | `(tactic| walk_at "call ref") => `(tactic| (k_here; (with_reducible show wpAny _ _ (call (Value.ref 71) [Value.bool _] _) _ _ _); k_dflt (refine' Tell.use (truth_tell _) ?k1 ?k2 ?k3 ?k4 ?k5 ?kK ?kd ?ku ?_; walk_at "my use")))
local macro_rules | `(tactic| walk_at "call ref") => `(tactic| (k_here; (with_reducible show wpAny _ _ (call (Value.ref 64) [Value.bytes _ _] _) _ _ _); k_dflt (refine' Tell.use (buffer_tell _ _) ?k1 ?k2 ?k3 ?k4 ?k5 ?kK ?kd ?ku ?_; walk_at "my use")))
local macro_rules | `(tactic| walk_at "call ref") => `(tactic| (k_here; (with_reducible show wpAny _ _ (call (Value.ref 57) [Value.bytes _ _] _) _ _ _); k_dflt (refine' Tell.use (abuffer_tell _ _) ?k1 ?k2 ?k3 ?k4 ?k5 ?kK ?kd ?ku ?_; walk_at "my use")))
local macro_rules | `(tactic| walk_at "call ref") => `(tactic| (k_here; (with_reducible show wpAny _ _ (call (Value.ref 37) [Value.str _ _] _) _ _ _); k_dflt (refine' Tell.use (bfdd_tell _ _ (by assumption) (by omega)) ?k1 ?k2 ?k3 ?k4 ?k5 ?kK ?kd ?ku ?_; walk_at "my use")))
local macro_rules | `(tactic| walk_at "subscriptTail") => `(tactic| (k_here; (with_reducible show wpAny _ _ (subscriptTail _ _ (Value.bytes _ _) (Value.int (Builtin.bitAnd _ 63) _)) _ _ _); (refine KBw.item_K (ks := b64L) (by decide +kernel) (by decide) (by (rw [bitAnd_m6]; omega)) (by (rw [bitAnd_m6]; show _ < (64 : Int); omega)) ?_); intro _ _ kbaLo kbaHi))
/-! P_b2a -/
section
theorem top_off_P_b2a : True := by
  w_top off
  trivial
/-- one octet more: the letters written, the bits left, the last two octets -/
def estep (st : List Int × Int × Int) (b : Int) : List Int × Int × Int :=
  let lc := (st.2.2 * 256 + b) % 65536
  if st.2.1 = 0 then (st.1 ++ [b64c (lc / 4 % 64)], 2, lc)
  else if st.2.1 = 2 then (st.1 ++ [b64c (lc / 16 % 64)], 4, lc)
  else (st.1 ++ [b64c (lc / 64 % 64)] ++ [b64c (lc % 64)], 0, lc)
def InvB2a (pre : List Int) (out : List Int) (lb lc : Int) : Prop :=
  (out, lb, lc) = pre.foldl estep ([], 0, 0) ∧ (lb = 0 ∨ lb = 2 ∨ lb = 4) ∧ 0 ≤ lc ∧ lc < 65536 ∧ out.length ≤ 2 * pre.length
theorem InvB2a.start : InvB2a [] [] 0 0 := ⟨rfl, .inl rfl, by decide, by decide, Nat.le_refl _⟩
theorem InvB2a.next0 {pre out : List Int} {lc n : Int} (h : InvB2a pre out 0 lc) (h0 : 0 ≤ n) (h1 : n < 256) :
    InvB2a (pre ++ [n]) (out ++ [b64L.getD (Builtin.bitAnd ((Builtin.bitAnd (Builtin.bitOr (lc * 2 ^ Int.toNat 8) n) 65535).fdiv (2 ^ (0 + 8 - 6 : Int).toNat)) 63).toNat 0]) (0 + 8 - 6)
      (Builtin.bitAnd (Builtin.bitOr (lc * 2 ^ Int.toNat 8) n) 65535) := by
  obtain ⟨hst, hlb, hl0, hl1, hlen⟩ := h
  have e8 : Int.toNat 8 = 8 := rfl
  have e2 : (0 + 8 - 6 : Int).toNat = 2 := rfl
  rw [e8, e2, bitOr_apart 8 hl0 h0 (by simpa using h1), bitAnd_m16, bitAnd_m6, Int.fdiv_eq_ediv_of_nonneg _ (by decide)]
  refine ⟨?_, .inr (.inl rfl), by omega, by omega, by simp only [List.length_append, List.length_cons, List.length_nil]; omega⟩
  rw [List.foldl_append, ← hst]
  rfl
theorem InvB2a.next2 {pre out : List Int} {lc n : Int} (h : InvB2a pre out 2 lc) (h0 : 0 ≤ n) (h1 : n < 256) :
    InvB2a (pre ++ [n]) (out ++ [b64L.getD (Builtin.bitAnd ((Builtin.bitAnd (Builtin.bitOr (lc * 2 ^ Int.toNat 8) n) 65535).fdiv (2 ^ (2 + 8 - 6 : Int).toNat)) 63).toNat 0]) (2 + 8 - 6)
      (Builtin.bitAnd (Builtin.bitOr (lc * 2 ^ Int.toNat 8) n) 65535) := by
  obtain ⟨hst, hlb, hl0, hl1, hlen⟩ := h
  have e8 : Int.toNat 8 = 8 := rfl
  have e2 : (2 + 8 - 6 : Int).toNat = 4 := rfl
  rw [e8, e2, bitOr_apart 8 hl0 h0 (by simpa using h1), bitAnd_m16, bitAnd_m6, Int.fdiv_eq_ediv_of_nonneg _ (by decide)]
  refine ⟨?_, .inr (.inr rfl), by omega, by omega, by simp only [List.length_append, List.length_cons, List.length_nil]; omega⟩
  rw [List.foldl_append, ← hst]
  rfl
theorem InvB2a.next4 {pre out : List Int} {lc n : Int} (h : InvB2a pre out 4 lc) (h0 : 0 ≤ n) (h1 : n < 256) :
    InvB2a (pre ++ [n]) (out ++ [b64L.getD (Builtin.bitAnd ((Builtin.bitAnd (Builtin.bitOr (lc * 2 ^ Int.toNat 8) n) 65535).fdiv (2 ^ (4 + 8 - 6 : Int).toNat)) 63).toNat 0] ++
        [b64L.getD (Builtin.bitAnd ((Builtin.bitAnd (Builtin.bitOr (lc * 2 ^ Int.toNat 8) n) 65535).fdiv (2 ^ (4 + 8 - 6 - 6 : Int).toNat)) 63).toNat 0]) (4 + 8 - 6 - 6)
      (Builtin.bitAnd (Builtin.bitOr (lc * 2 ^ Int.toNat 8) n) 65535) := by
  obtain ⟨hst, hlb, hl0, hl1, hlen⟩ := h
  have e8 : Int.toNat 8 = 8 := rfl
  have e2 : (4 + 8 - 6 : Int).toNat = 6 := rfl
  have e3 : (4 + 8 - 6 - 6 : Int).toNat = 0 := rfl
  have e4 : (2 : Int) ^ 0 = 1 := rfl
  rw [e8, e2, e3, e4, bitOr_apart 8 hl0 h0 (by simpa using h1), bitAnd_m16, bitAnd_m6, bitAnd_m6, Int.fdiv_eq_ediv_of_nonneg _ (by decide), Int.fdiv_eq_ediv_of_nonneg _ (by decide), Int.ediv_one]
  refine ⟨?_, .inl rfl, by omega, by omega, by simp only [List.length_append, List.length_cons, List.length_nil]; omega⟩
  rw [List.foldl_append, ← hst]
  rfl
theorem estep_bits (l : List Int) : ∀ st : List Int × Int × Int, (st.2.1 = 0 ∨ st.2.1 = 2 ∨ st.2.1 = 4) → (l.foldl estep st).2.1 = (st.2.1 + 2 * (l.length : Int)) % 6 := by
  induction l with
  | nil => intro st h; simp only [List.foldl_nil, List.length_nil]; omega
  | cons a l ih =>
    intro st h
    rw [List.foldl_cons, ih]
    · rcases h with h | h | h <;> simp [estep, h] <;> omega
    · rcases h with h | h | h <;> simp [estep, h]
theorem InvB2a.whole {pre out : List Int} {lb lc : Int} (h : InvB2a pre out lb lc) (h3 : pre.length % 3 = 0) : lb = 0 := by
  have e := estep_bits pre ([], 0, 0) (.inl rfl)
  rw [← h.1] at e
  dsimp only at e
  omega
theorem estep_in (l : List Int) : ∀ st : List Int × Int × Int, (∀ v ∈ st.1, 0 ≤ v ∧ v < 256) → ∀ v ∈ (l.foldl estep st).1, 0 ≤ v ∧ v < 256 := by
  induction l with
  | nil => intro st h; exact h
  | cons a l ih =>
    intro st h
    rw [List.foldl_cons]
    refine ih _ ?_
    unfold estep
    dsimp only
    split
    · intro v hv
      rcases List.mem_append.mp hv with hv | hv
      · exact h v hv
      · rw [List.mem_singleton.mp hv]; exact b64c_in _
    · split
      · intro v hv
        rcases List.mem_append.mp hv with hv | hv
        · exact h v hv
        · rw [List.mem_singleton.mp hv]; exact b64c_in _
      · intro v hv
        rcases List.mem_append.mp hv with hv | hv
        · rcases List.mem_append.mp hv with hv | hv
          · exact h v hv
          · rw [List.mem_singleton.mp hv]; exact b64c_in _
        · rw [List.mem_singleton.mp hv]; exact b64c_in _
theorem InvB2a.range {pre out : List Int} {lb lc : Int} (h : InvB2a pre out lb lc) : ∀ v ∈ out, 0 ≤ v ∧ v < 256 := by
  have e := estep_in pre ([], 0, 0) (fun v hv => nomatch hv)
  rw [← h.1] at e
  exact e
/-- an octets' ints -/
def intsOf (x : List UInt8) : List Int := x.map fun c => (c.toNat : Int)
theorem b2a_tell {w loose mean mg mb news} (x : List UInt8) (tx : Tok) (hx : x.length ≤ 10000) (h3 : x.length % 3 = 0) : Tell 3 w loose mean mg mb 94 news [.bytes x.toArray tx] [(Str.ofString "newline", .bool false)] (fun t => .bytes (byteArr ((intsOf x).foldl estep ([], 0, 0)).1) t) := by
  unfold Tell
  k_fill
  intro dp un cn cs a ccd cl outer A₀ base h₀ L m s Q E B F X N T hk hd hu hret
  have hMk := kstMark
  refine wpAny_call ?_
  k_dflt walk_at "my enter"
  k_steps
  (rename Fr _ _ _ _ => lF'); (rename News _ _ _ _ => lN')
  refine' KStb.kst_bytes (σ := Int × Nat × Int × Nat × List Value × List Int × Nat) (fun c => (_, listOf c.2.2.2.2.1.toArray c.2.2.2.2.2.2) :: news) (fun c => [(Str.ofString "leftbits", .int c.1 c.2.1), (Str.ofString "leftchar", .int c.2.2.1 c.2.2.2.1)]) (fun c => IntsAre c.2.2.2.2.1 c.2.2.2.2.2.1) [] (fun pre c => InvB2a pre c.2.2.2.2.2.1 c.1 c.2.2.1) ⟨0, _, 0, _, [], [], 0⟩ (KBw.ints_list _) rfl (by rfl) lF' ?kn ?kf ?kk ?kp ?_ ?_
  case kn => exact lN'
  case kf => dsimp only; exact IntsAre.nil
  case kk => kst_all
  case kp => exact InvB2a.start
  all_goals (clear lF' lN')
  · rintro ⟨lb, tlb, lc, tlc, vs, ns, cn'⟩ pre post n t u h tk own e hlt h0 h1 hoff hf ⟨hst, hlb, hl0, hl1, hlen⟩ F' N'
    dsimp only at hoff hf hlb hl0 hl1 hlen N'
    dsimp only [kstB] at F'
    simp only [List.cons_append, List.nil_append, List.append_nil] at N'
    simp only [List.map_cons, List.map_nil] at hoff
    have hvl := hf.length
    have hpl : pre.length < 10000 := by simp only [List.length_map] at hlt; omega
    clear hlt
    try k_fold
    have hI : InvB2a pre ns lb lc := ⟨hst, hlb, hl0, hl1, hlen⟩
    clear hst
    rcases hlb with rfl | rfl | rfl
    · k_steps
      refine ⟨?_⟩
      (rename News _ _ _ _ => nE'); (try simp only [List.push_toArray] at nE')
      refine' kst_end (P := fun (pre : List Int) (c : Int × Nat × Int × Nat × List Value × List Int × Nat) => InvB2a pre c.2.2.2.2.2.1 c.1 c.2.2.1) (⟨_, _, _, _, _, _, _⟩ : Int × Nat × Int × Nat × List Value × List Int × Nat) ?eF nE' ?eN ?eO ?eA ?eI ?eK ?eS ?_
      case eF => assumption
      case eN => kst_in
      case eO => (intro p hp; kst_mem)
      case eA => rfl
      case eI => k_intsEnd
      case eK => kst_all
      case eS => kst_same
      exact hI.next0 h0 h1
    · k_steps
      refine ⟨?_⟩
      (rename News _ _ _ _ => nE'); (try simp only [List.push_toArray] at nE')
      refine' kst_end (P := fun (pre : List Int) (c : Int × Nat × Int × Nat × List Value × List Int × Nat) => InvB2a pre c.2.2.2.2.2.1 c.1 c.2.2.1) (⟨_, _, _, _, _, _, _⟩ : Int × Nat × Int × Nat × List Value × List Int × Nat) ?eF nE' ?eN ?eO ?eA ?eI ?eK ?eS ?_
      case eF => assumption
      case eN => kst_in
      case eO => (intro p hp; kst_mem)
      case eA => rfl
      case eI => k_intsEnd
      case eK => kst_all
      case eS => kst_same
      exact hI.next2 h0 h1
    · k_steps
      refine ⟨?_⟩
      (rename News _ _ _ _ => nE'); (try simp only [List.push_toArray] at nE')
      refine' kst_end (P := fun (pre : List Int) (c : Int × Nat × Int × Nat × List Value × List Int × Nat) => InvB2a pre c.2.2.2.2.2.1 c.1 c.2.2.1) (⟨_, _, _, _, _, _, _⟩ : Int × Nat × Int × Nat × List Value × List Int × Nat) ?eF nE' ?eN ?eO ?eA ?eI ?eK ?eS ?_
      case eF => assumption
      case eN => kst_in
      case eO => (intro p hp; kst_mem)
      case eA => rfl
      case eI => exact IntsAre.append (IntsAre.append hf (.cons _ _ .nil)) (.cons _ _ .nil)
      case eK => kst_all
      case eS => kst_same
      exact hI.next4 h0 h1
  · rintro ⟨lb, tlb, lc, tlc, vs, ns, cn'⟩ u h tk hlen0 hf hI F' N'
    dsimp only at hf hI N'
    dsimp only [kstB] at F'
    have hlb : lb = 0 := hI.whole (by simpa using h3)
    have hlen : ns.length ≤ 20000 := by
      have := hI.2.2.2.2
      simp only [List.length_map] at this
      omega
    have hrg := hI.range
    have hvl := hf.length
    subst hlb
    try k_fold
    k_steps
    refine retY hret ?_ (by k_asm) (cb_drop (by assumption) (by intro p hp; kst_mem))
    intro t
    have e : ns = ((intsOf x).foldl estep ([], 0, 0)).1 := congrArg Prod.fst hI.1
    rw [← e]
end
/-! P_enc -/
section
theorem top_off_P_enc : True := by
  w_top off
  trivial
local macro_rules | `(tactic| walk_at "call ref") => `(tactic| (k_here; (with_reducible show wpAny _ _ (call (Value.ref 94) [Value.bytes _ _] _) _ _ _); k_dflt (refine' Tell.use (b2a_tell _ _ (by assumption) (by assumption)) ?k1 ?k2 ?k3 ?k4 ?k5 ?kK ?kd ?ku ?_; walk_at "my use")))
theorem encode_tell {w loose mean mg mb news} (x : List UInt8) (tx : Tok) (hx : x.length ≤ 10000) (h3 : x.length % 3 = 0) : Tell 5 w loose mean mg mb 102 news [.bytes x.toArray tx] [] (fun t => .bytes (byteArr ((intsOf x).foldl estep ([], 0, 0)).1) t) := by
  unfold Tell
  k_fill
  intro dp un cn cs a ccd cl outer A₀ base h₀ L m s Q E B F X N T hk hd hu hret
  have hMk := kstMark
  refine wpAny_call ?_
  k_dflt walk_at "my enter"
  k_steps
  all_goals exact hret _ _ _ (by k_asm) (by k_asm)
end
/-! L_loop -/
section
section
variable {prog : Program} {w : World} {A : Around} {E : Value → Shared → Prop} {s : Shared} {env : Env} {h₀ : Heap} {target : Expr} {body orelse : List Stmt} {Q : Flow → Shared → Prop}
/-- a for with an else, by a word over the turn's number, the frame and the ledger -/
theorem loopE {I : Addr} {fp wr : List Addr} {n : Nat} {P Md : Nat → Value → Heap → Prop} {St : Nat → Heap → Prop} {m : Str → Option Value} {news : List (Addr × Obj)} (W : KTurns prog w A target I fp wr n P Md St)
    (hLf : env.locals ∉ fp) (hwr : ∀ b ∈ wr, h₀.get? b = none) (hnf : ∀ p ∈ news, p.1 ∉ fp) (hst : St 0 s.heap) (F : Fr h₀ env.locals s.heap m) (N : News h₀ env.locals s.heap news)
    (J : Nat → (Str → Option Value) → List (Addr × Obj) → Prop) (h0 : J 0 m news)
    (step : ∀ i v m₁ news₁ h tk own, i < n → P i v h → news₁.map (·.1) = news.map (·.1) → OwnOff own (news.map (·.1)) → J i m₁ news₁ → Fr h₀ env.locals h m₁ → News h₀ env.locals h (news₁ ++ own) →
      wpAny (model prog w) A (assign target env v) (fun _ s₂ => wpAny (model prog w) A (execs body env) (InvPostN h₀ env.locals (J (i + 1)) own (news.map (·.1)) { s with heap := h, toks := tk } Q) E s₂) E { s with heap := h, toks := tk })
    (done : ∀ m₁ news₁ h tk, J n m₁ news₁ → Fr h₀ env.locals h m₁ → News h₀ env.locals h news₁ → wpAny (model prog w) A (execs orelse env) Q E { s with heap := h, toks := tk })
    (hE : PassesOwn (model prog w) A env E := by passes_own) :
    codeAny (model prog w) A (.forLoop target (.ref I) body orelse env) (fun r s' => match r with | .ok f => Q f s' | .error e => cameBackBy (model prog w) A env E e s') s := by
  have hLw : env.locals ∉ wr := fun h => hLf (W.sub _ h)
  have old : ∀ b o, h₀.get? b = some o → b ∉ wr := fun b o e hb => by rw [hwr b hb] at e; cases e
  refine codeAny_forLoop_any
    (fun k s' => ∃ h' tk m' news' i, s' = { s with heap := h', toks := tk } ∧ St i h' ∧ Fr h₀ env.locals h' m' ∧ News h₀ env.locals h' news' ∧ news'.map (·.1) = news.map (·.1) ∧ J i m' news' ∧ i ≤ n ∧ k = n + 1 - i) ?_ (n + 1)
    ⟨s.heap, s.toks, m, news, 0, rfl, hst, F, N, rfl, h0, Nat.zero_le _, rfl⟩
  rintro k s' ⟨h', tk, m', news', i, rfl, hst', F', N', hadr, hJ, hi, rfl⟩
  have off : ∀ p ∈ news', p.1 ∉ fp := fun p hp hf => by
    have h1 : p.1 ∈ news.map (·.1) := by rw [← hadr]; exact List.mem_map.mpr ⟨p, hp, rfl⟩
    obtain ⟨q, hq, e⟩ := List.mem_map.mp h1
    exact hnf q hq (e ▸ hf)
  have moved : ∀ h₁ : Heap, (∀ b o, b ∉ wr → h'.get? b = some o → h₁.get? b = some o) → Fr h₀ env.locals h₁ m' ∧ News h₀ env.locals h₁ news' := fun h₁ hk₁ =>
    ⟨⟨F'.ns.at' fun o e => hk₁ _ o hLw e, fun b o e => hk₁ b o (old b o e) (F'.keep b o e), F'.above⟩, fun p hp => ⟨hk₁ _ _ (fun hb => off p hp (W.sub _ hb)) (N' p hp).1, (N' p hp).2⟩⟩
  by_cases hlt : i < n
  · refine W.item i _ _ _ hlt hst' fun v h₁ tk₁ hMd hk₁ => ?_
    refine W.go i v _ _ _ hMd fun h₂ hP hst₂ hk₂ => ?_
    obtain ⟨F₂, N₂⟩ := moved h₂ fun b o hb x => hk₂ b o hb (hk₁ b o hb x)
    have Nown : News h₀ env.locals h₂ (PyProof.Rows.ownOf h₀ fp h₂) := news_ownOf hLf
    have hoff : OwnOff (PyProof.Rows.ownOf h₀ fp h₂) (news.map (·.1)) := fun p hp b hb e => by
      obtain ⟨q, hq, rfl⟩ := List.mem_map.mp hb
      exact hnf q hq (e ▸ ownOf_sub p hp)
    have both : News h₀ env.locals h₂ (news' ++ PyProof.Rows.ownOf h₀ fp h₂) := fun p hp => (List.mem_append.mp hp).elim (N₂ p) (Nown p)
    refine wpAny_mono (step i v m' news' h₂ tk₁ _ hlt hP hadr hoff hJ F₂ both) (fun _ s₂ h₂' => wpAny_mono h₂' (fun f s₃ h₃ => ?_) hE) hE
    have fin : InvEndN h₀ env.locals (J (i + 1)) (PyProof.Rows.ownOf h₀ fp h₂) (news.map (·.1)) { s with heap := h₂, toks := tk₁ } s₃ →
        ∃ k, k < n + 1 - i ∧ ∃ h' tk m' news' i, s₃ = { s with heap := h', toks := tk } ∧ St i h' ∧ Fr h₀ env.locals h' m' ∧ News h₀ env.locals h' news' ∧ news'.map (·.1) = news.map (·.1) ∧ J i m' news' ∧ i ≤ n ∧ k = n + 1 - i := by
      rintro ⟨h₃', tk₃, m₂, news₂, nx, rfl, F₃, N₃, hn, ho, ha, hJ₃⟩
      refine ⟨n + 1 - (i + 1), by omega, h₃', tk₃, m₂, nx, i + 1, rfl, ?_, F₃, fun p hp => N₃ p (hn p hp), ha, hJ₃, hlt, rfl⟩
      refine W.frame _ _ _ hst₂ fun b hb o e => ?_
      cases hq : h₀.get? b with
      | some o₀ =>
        have : o₀ = o := by have q := F₂.keep b o₀ hq; rw [e] at q; exact (Option.some.inj q).symm
        exact this ▸ F₃.keep b o₀ hq
      | none => exact (N₃ _ (ho _ (mem_ownOf hb hq e))).1
    cases f with
    | ret v => exact h₃
    | brk => exact h₃
    | cont => exact fin h₃
    | next => exact fin h₃
  · have hin : i = n := by omega
    subst hin
    refine W.done _ _ _ hst' fun h₁ tk₁ hk₁ => ?_
    obtain ⟨F₁, N₁⟩ := moved h₁ hk₁
    exact wpAny_mono (done m' news' h₁ tk₁ hJ F₁ N₁) (fun _ _ x => x) hE

/-- over a tuple that stood ahead of the frame -/
theorem iter_tupE {ax : Addr} {vs : List Value} {m : Str → Option Value} {news : List (Addr × Obj)} (J : Nat → (Str → Option Value) → List (Addr × Obj) → Prop)
    (hh : A.handled = none) (ht : IsTup h₀ ax vs.toArray) (F : Fr h₀ env.locals s.heap m) (N : News h₀ env.locals s.heap news) (h0 : J 0 m news)
    (step : ∀ i v m₁ news₁ h tk own, vs[i]? = some v → news₁.map (·.1) = news.map (·.1) → OwnOff own (news.map (·.1)) → J i m₁ news₁ → Fr h₀ env.locals h m₁ → News h₀ env.locals h (news₁ ++ own) →
      wpAny (model prog w) A (assign target env v) (fun _ s₂ => wpAny (model prog w) A (execs body env) (InvPostN h₀ env.locals (J (i + 1)) own (news.map (·.1)) { s with heap := h, toks := tk } Q) E s₂) E { s with heap := h, toks := tk })
    (done : ∀ m₁ news₁ h tk, J vs.length m₁ news₁ → Fr h₀ env.locals h m₁ → News h₀ env.locals h news₁ → wpAny (model prog w) A (execs orelse env) Q E { s with heap := h, toks := tk })
    (hE : PassesOwn (model prog w) A env E := by passes_own) :
    wpAny (model prog w) A (pyIter (.ref ax)) (fun it s₂ => codeAny (model prog w) A (.forLoop target it body orelse env) (fun r s' => match r with | .ok f => Q f s' | .error e => cameBackBy (model prog w) A env E e s') s₂) E s := by
  have hts : s.heap.IsTuple ax vs.toArray := let ⟨o, ho, r⟩ := ht; ⟨o, F.keep _ _ ho, r⟩
  obtain ⟨ot, hot, _⟩ := id ht
  have hlt : ax < h₀.objs.size := Heap.lt_size hot
  have hne : ax ≠ s.heap.objs.size := Nat.ne_of_lt (Nat.lt_trans (Nat.lt_of_lt_of_le hlt F.above) F.ns.lt)
  refine wpAny_pyIter_tuple hts ?_
  have W := KTurns.ofWalks (target := target) (Walks.tuple (prog := prog) (w := w) (A := A) hh s.heap.objs.size ax hne vs.toArray) fun i v s Q E st q => letGo_tupleiter st.1 q
  refine loopE W ?_ ?_ ?_ ⟨⟨_, Heap.get?_push_size _ rfl, rfl, rfl⟩, hts.at fun o e => Heap.get?_push_of_some _ e⟩ (F.push _) (fun p hp => ⟨Heap.get?_push_of_some _ (N p hp).1, (N p hp).2⟩) J h0 ?_ ?_ hE
  · intro hm
    rcases List.mem_cons.mp hm with e | hm
    · exact absurd F.ns.lt (e ▸ Nat.lt_irrefl _)
    · exact absurd (Nat.lt_of_lt_of_le hlt F.above) ((List.mem_singleton.mp hm) ▸ Nat.lt_irrefl _)
  · intro b hb
    rw [List.mem_singleton.mp hb]
    exact next_is_new F
  · intro p hp hm
    rcases List.mem_cons.mp hm with e | hm
    · exact absurd (Heap.lt_size (N p hp).1) (e ▸ Nat.lt_irrefl _)
    · have h3 := (N p hp).2.2
      rw [List.mem_singleton.mp hm, hot] at h3
      cases h3
  · intro i v m₁ news₁ h tk own _ hP ha hoff hJ F₁ N₁
    exact step i v m₁ news₁ h tk own (by simpa using hP) ha hoff hJ F₁ N₁
  · intro m₁ news₁ h tk hJ F₁ N₁
    exact done m₁ news₁ h tk (by simpa using hJ) F₁ N₁
end
end
/-! L_enum -/
section
section
variable {prog : Program} {w : World} {A : Around} {E : Value → Shared → Prop} {s : Shared}
theorem nextOf_tup_item {it t : Addr} {i : Nat} {items : Array Value} {x : Value} {Q : Value → Shared → Prop} (hit : s.heap.IsTupleIter it t i) (ht : s.heap.IsTuple t items) (hx : items[i]? = some x)
    (hQ : ∀ h', h'.IsTupleIter it t (i + 1) → Heap.SameBut it s.heap h' → Q x { s with heap := h' }) : wpAny (model prog w) A (Builtin.SmallTypes.nextOf (.ref it)) Q E s := by
  obtain ⟨o, ho, hc, hd⟩ := id hit
  obtain ⟨ol, hol, _, nl, hdl⟩ := ht
  unfold Builtin.SmallTypes.nextOf
  refine wpAny_bind (wpAny_callSpecial?_slot (name := Str.ofString "__next__") hit.typeIs F.slot_tuple_iterator_next
    (wpAny_call_entry F.slot_tuple_iterator_next hit.typeIs F.entry_tuple_iterator_next ?_ (F.args_tuple_iterator_next_1 _)))
  show wpAny _ _ (field (.ref it) 0 >>= _) _ _ s
  refine wpAny_bind (wpAny_field ho hd (x := .ref t) rfl ?_)
  show wpAny _ _ (if (Value.ref t == Value.none) = true then _ else _) _ _ s
  rw [if_neg (show ¬ ((Value.ref t == Value.none) = true) from Bool.false_ne_true)]
  show wpAny _ _ (field (.ref it) 1 >>= _) _ _ s
  refine wpAny_bind (wpAny_field ho hd (x := .int i 0) rfl ?_)
  show wpAny _ _ (seqItems? (.ref t) >>= _) _ _ s
  refine wpAny_bind (wpAny_seqItems hol hdl ?_)
  simp only [Int.toNat_natCast, hx]
  refine wpAny_bind (wpAny_setField ho hd (by simp) (wpAny_pure ⟨x, rfl, wpAny_pure (hQ _ ?_ (Heap.SameBut.update ..))⟩))
  exact ⟨_, Heap.get?_update_self _ ho (Obj.isFreed_of_fields (Obj.data_mapFields hd _)), (Obj.cls_mapFields ..).trans hc, by
    rw [Obj.data_mapFields hd]; simp [rawInt]⟩
theorem nextOf_tup_end {it t : Addr} {i : Nat} {items : Array Value} {Q : Value → Shared → Prop} (hh : A.handled = none) (hit : s.heap.IsTupleIter it t i) (ht : s.heap.IsTuple t items) (hx : items[i]? = none)
    (hE : ∀ h' e, Heap.ExtBut it s.heap h' → (∃ o, h'.get? e = some o ∧ o.cls = .type "StopIteration") → E (.ref e) { s with heap := h' }) : wpAny (model prog w) A (Builtin.SmallTypes.nextOf (.ref it)) Q E s := by
  obtain ⟨o, ho, hc, hd⟩ := id hit
  obtain ⟨ol, hol, _, nl, hdl⟩ := ht
  unfold Builtin.SmallTypes.nextOf
  refine wpAny_bind (wpAny_callSpecial?_slot (name := Str.ofString "__next__") hit.typeIs F.slot_tuple_iterator_next
    (wpAny_call_entry F.slot_tuple_iterator_next hit.typeIs F.entry_tuple_iterator_next ?_ (F.args_tuple_iterator_next_1 _)))
  show wpAny _ _ (field (.ref it) 0 >>= _) _ _ s
  refine wpAny_bind (wpAny_field ho hd (x := .ref t) rfl ?_)
  show wpAny _ _ (if (Value.ref t == Value.none) = true then _ else _) _ _ s
  rw [if_neg (show ¬ ((Value.ref t == Value.none) = true) from Bool.false_ne_true)]
  show wpAny _ _ (field (.ref it) 1 >>= _) _ _ s
  refine wpAny_bind (wpAny_field ho hd (x := .int i 0) rfl ?_)
  show wpAny _ _ (seqItems? (.ref t) >>= _) _ _ s
  refine wpAny_bind (wpAny_seqItems hol hdl ?_)
  simp only [Int.toNat_natCast, hx]
  refine wpAny_bind (wpAny_rule (wpAny_bind (wpAny_setField ho hd (by simp) ?_)))
  show wpAny _ _ (newExc (.type "StopIteration") [] >>= _) _ _ _
  refine wpAny_bind ?_
  simp only [newExc, newTuple]
  refine wpAny_bind (wpAny_newObj_type ?_ (by size_fits))
  refine wpAny_bind (m := firstArgMember _ _) (wpAny_of_eq (a := Value.none) (by first | rfl | (simp only [firstArgMember]; rfl)) ?_)
  refine wpAny_newObj_type ?_ (by size_fits)
  simp only [raiseNew]
  refine wpAny_bind (wpAny_handled ?_)
  first | rw [show A.in1.handled = none from hh] | rw [hh]
  refine wpAny_bind (wpAny_pure (wpAny_throw ?_))
  exact hE _ _ (((Heap.SameBut.update ..).extBut.push _).push _) ⟨_, Heap.get?_push_size _ rfl, rfl⟩
end
theorem drawsTup {prog : Program} {w : World} {A : Around} (hh : A.handled = none) (it l : Addr) (hne : l ≠ it) (items : Array Value) :
    Draws prog w A it [it, l] items.size (fun i v => items[i]? = some v) (fun i h => h.IsTupleIter it l i ∧ h.IsTuple l items) where
  live := fun _ _ st => let ⟨o, ho, _⟩ := st.1; ⟨o, ho⟩
  frame := fun _ _ _ st hk => ⟨st.1.at fun o e => hk it (by simp) o e, st.2.at fun o e => hk l (by simp) o e⟩
  item := fun i s Q E hi st hQ => by
    refine nextOf_tup_item st.1 st.2 (x := items[i]) (by simp [hi]) fun h' hit' hs' => ?_
    exact hQ _ h' s.toks (by simp [hi]) ⟨hit', st.2.extBut hs'.extBut hne⟩ hs'
  done := fun s Q E st hE => nextOf_tup_end hh st.1 st.2 (by simp) hE
theorem meets_enum_newT (l : Addr) (items : Array Value) (n : Nat) (dct : Option Addr) (sl : Array (Option Value)) :
    Meets (Builtin.«enumerate.__new__» ⟨[.type "enumerate", .ref l], []⟩) (fun _ R s => s.heap.get? l = some { cls := .type "tuple", dict := dct, data := .seq items n, slots := sl } ∧
      R (.ok (.ret (.ref (s.heap.push { cls := .type "tuple_iterator", data := .fields #[.ref l, .int 0 0] }).objs.size)))
        { s with heap := (s.heap.push { cls := .type "tuple_iterator", data := .fields #[.ref l, .int 0 0] }).push { cls := .type "enumerate", data := .fields #[.none, .bool false, .ref s.heap.objs.size, rawInt 0, .none, .none] } }) :=
  .of_wp fun prog w A R s h => by
    obtain ⟨hp, g, d, tk, os⟩ := s; obtain ⟨hl, h⟩ := h
    have hsub := sub_enumerate
    have hL : Heap.IsTuple (Shared.heap ⟨hp, g, d, tk, os⟩) l items := ⟨_, hl, rfl, n, rfl⟩
    wp_walk using AutoSeq1.wpAny_loadPart' hl
    refine wpAny_stack_any fun st => wpAny_pure ?_
    split
    · rename_i c _ _ _ _ _
      cases (c == Value.type "enumerate")
      · wp_walk using AutoSeq1.wpAny_loadPart' hl, wpAny_pyIter_tuple hL
        exact ⟨_, rfl, h⟩
      · wp_walk using AutoSeq1.wpAny_loadPart' hl, wpAny_pyIter_tuple hL
        exact ⟨_, rfl, h⟩
    · wp_walk using AutoSeq1.wpAny_loadPart' hl, wpAny_pyIter_tuple hL
      exact ⟨_, rfl, h⟩
section
variable {prog : Program} {w : World} {A : Around} {E : Value → Shared → Prop} {s : Shared} {env : Env} {h₀ : Heap} {elts : List Expr} {kk : Nat} {tpos : Pos} {body orelse : List Stmt} {Q : Flow → Shared → Prop}
theorem call_enumT {l : Addr} {items : Array Value} {Q : Value → Shared → Prop} (hL : s.heap.IsTuple l items)
    (h : ∀ h', IsEnum h' (s.heap.objs.size + 1) s.heap.objs.size 0 .none → h'.IsTupleIter s.heap.objs.size l 0 → h'.objs.size = s.heap.objs.size + 2 →
      (∀ b o, s.heap.get? b = some o → h'.get? b = some o) → Q (.ref (s.heap.objs.size + 1)) { s with heap := h' }) :
    wpAny (model prog w) A (call (.type "enumerate") [.ref l]) Q E s := by
  obtain ⟨⟨c, dct, dt, sl⟩, hl, hc, n, hd⟩ := hL
  replace hc : c = .type "tuple" := hc
  replace hd : dt = .seq items n := hd
  subst hc hd
  refine callType_new F.called_enumerate (by decide) (F.typeCall_enumerate_1 _) (F.newCall_enumerate_1 _) (fun obj => F.args_object_init_2 obj _) F.entry_enumerate_new
    (meets_enum_newT l items n dct sl) ⟨hl, ?_⟩
  have hz : (s.heap.push { cls := .type "tuple_iterator", data := .fields #[.ref l, .int 0 0] }).objs.size = s.heap.objs.size + 1 := Heap.size_push ..
  show _ ∧ _
  rw [hz]
  have he : IsEnum ((s.heap.push { cls := .type "tuple_iterator", data := .fields #[.ref l, .int 0 0] }).push
      { cls := .type "enumerate", data := .fields #[.none, .bool false, .ref s.heap.objs.size, rawInt 0, .none, .none] }) (s.heap.objs.size + 1) s.heap.objs.size 0 .none := by
    have := Heap.get?_push_size (s.heap.push { cls := .type "tuple_iterator", data := .fields #[.ref l, .int 0 0] })
      (o := { cls := .type "enumerate", data := .fields #[.none, .bool false, .ref s.heap.objs.size, rawInt 0, .none, .none] }) rfl
    rw [hz] at this; exact this
  refine ⟨⟨_, he, rfl⟩, h _ he ⟨_, Heap.get?_push_of_some _ (Heap.get?_push_size _ rfl), rfl, rfl⟩ (by rw [Heap.size_push, hz]) fun b o x => Heap.get?_push_of_some _ (Heap.get?_push_of_some _ x)⟩
/-- an enumerate over a tuple that stood ahead of the frame, made and walked -/
theorem iter_enumE {ax : Addr} {vs : List Value} {m : Str → Option Value} {news : List (Addr × Obj)} (J : Nat → (Str → Option Value) → List (Addr × Obj) → Prop)
    (hh : A.handled = none) (ht : IsTup h₀ ax vs.toArray) (F : Fr h₀ env.locals s.heap m) (N : News h₀ env.locals s.heap news) (h0 : J 0 m news)
    (step : ∀ (i : Nat) v t T m₁ news₁ h tk own, vs[i]? = some v → IsTup h T #[.int (i : Int) t, v] → news₁.map (·.1) = news.map (·.1) → OwnOff own (news.map (·.1)) → J i m₁ news₁ → Fr h₀ env.locals h m₁ → News h₀ env.locals h (news₁ ++ own) →
      wpAny (model prog w) A (assign (.Tuple elts kk tpos) env (.ref T)) (fun _ s₂ => wpAny (model prog w) A (execs body env) (InvPostN h₀ env.locals (J (i + 1)) own (news.map (·.1)) { s with heap := h, toks := tk } Q) E s₂) E { s with heap := h, toks := tk })
    (done : ∀ m₁ news₁ h tk, J vs.length m₁ news₁ → Fr h₀ env.locals h m₁ → News h₀ env.locals h news₁ → wpAny (model prog w) A (execs orelse env) Q E { s with heap := h, toks := tk })
    (hE : PassesOwn (model prog w) A env E := by passes_own) :
    wpAny (model prog w) A (call (.type "enumerate") [.ref ax]) (fun xv s₁ => wpAny (model prog w) A (pyIter xv) (fun it s₂ => codeAny (model prog w) A (.forLoop (.Tuple elts kk tpos) it body orelse env) (fun r s' => match r with | .ok f => Q f s' | .error e => cameBackBy (model prog w) A env E e s') s₂) E s₁) E s := by
  have hts : s.heap.IsTuple ax vs.toArray := let ⟨o, ho, r⟩ := ht; ⟨o, F.keep _ _ ho, r⟩
  obtain ⟨ot, hot, _⟩ := id ht
  have hlt : ax < h₀.objs.size := Heap.lt_size hot
  have hLs : env.locals < s.heap.objs.size := F.ns.lt
  have hab : h₀.objs.size ≤ env.locals := F.above
  have hl2 : ax < s.heap.objs.size := Nat.lt_trans (Nat.lt_of_lt_of_le hlt hab) hLs
  refine call_enumT hts fun h' he hit hsz hk => ?_
  have F' : Fr h₀ env.locals h' m := ⟨F.ns.keeps hk, fun b o e => hk b o (F.keep b o e), F.above⟩
  have N' : News h₀ env.locals h' news := fun p hp => ⟨hk _ _ (N p hp).1, (N p hp).2⟩
  refine wpAny_pyIter_enum he ?_
  have WT := WalksT.enumerateD (drawsTup (prog := prog) (w := w) (A := A.in1) hh s.heap.objs.size ax (Nat.ne_of_lt hl2) vs.toArray) (s.heap.objs.size + 1) (Nat.succ_ne_self _) (by
    intro hm
    rcases List.mem_cons.mp hm with e | hm
    · exact Nat.succ_ne_self _ e
    · exact Nat.ne_of_gt (Nat.lt_succ_of_lt hl2) (List.mem_singleton.mp hm)) (by simp)
  have W := KTurns.ofWalksU (elts := elts) (k := kk) (pos := tpos) WT.toU
  refine loopE W ?_ ?_ ?_ ⟨⟨_, he⟩, hit, hts.at fun o e => hk _ o e⟩ F' N' J h0 ?_ ?_ hE
  · intro hm
    rcases List.mem_cons.mp hm with e | hm
    · exact Nat.ne_of_lt (Nat.lt_succ_of_lt hLs) e
    · rcases List.mem_cons.mp hm with e | hm
      · exact Nat.ne_of_lt hLs e
      · exact Nat.ne_of_gt (Nat.lt_of_lt_of_le hlt hab) (List.mem_singleton.mp hm)
  · intro b hb
    rcases List.mem_cons.mp hb with e | hb
    · rw [e]; exact Heap.get?_none_of_le (Nat.le_trans hab (Nat.le_of_lt (Nat.lt_succ_of_lt hLs)))
    · rw [List.mem_singleton.mp hb]; exact Heap.get?_none_of_le (Nat.le_trans hab (Nat.le_of_lt hLs))
  · intro p hp hm
    have hq1 : p.1 < s.heap.objs.size := Heap.lt_size (N p hp).1
    rcases List.mem_cons.mp hm with e | hm
    · exact Nat.ne_of_lt (Nat.lt_succ_of_lt hq1) e
    · rcases List.mem_cons.mp hm with e | hm
      · exact Nat.ne_of_lt hq1 e
      · have h3 := (N p hp).2.2
        rw [List.mem_singleton.mp hm, hot] at h3
        cases h3
  · rintro i v m₁ news₁ h tk own _ ⟨T, vals, rfl, ⟨t, x, hx, rfl⟩, hT⟩ ha hoff hJ F₁ N₁
    exact step i x t T m₁ news₁ h tk own (by simpa using hx) hT ha hoff hJ F₁ N₁
  · intro m₁ news₁ h tk hJ F₁ N₁
    exact done m₁ news₁ h tk (by simpa using hJ) F₁ N₁
end
end
/-! P_tab -/
section
/-- the table of the signs: the rows' addresses, each with its pairs' addresses, bits and signs -/
def tab : List (Addr × List (Addr × Int × Str)) := [
  (125, [(118, 40960, Str.ofString "l"), (119, 49152, Str.ofString "s"), (120, 32768, Str.ofString "-"), (121, 24576, Str.ofString "b"), (122, 16384, Str.ofString "d"), (123, 8192, Str.ofString "c"), (124, 4096, Str.ofString "p")]),
  (127, [(126, 256, Str.ofString "r")]),
  (129, [(128, 128, Str.ofString "w")]),
  (133, [(130, 2112, Str.ofString "s"), (131, 2048, Str.ofString "S"), (132, 64, Str.ofString "x")]),
  (135, [(134, 32, Str.ofString "r")]),
  (137, [(136, 16, Str.ofString "w")]),
  (141, [(138, 1032, Str.ofString "s"), (139, 1024, Str.ofString "S"), (140, 8, Str.ofString "x")]),
  (143, [(142, 4, Str.ofString "r")]),
  (145, [(144, 2, Str.ofString "w")]),
  (149, [(146, 513, Str.ofString "t"), (147, 512, Str.ofString "T"), (148, 1, Str.ofString "x")])]
section
variable {w : World} {h : Heap}
theorem tab_tup (X : (hd.heap_1 w.params).In h) : IsTup h 150 (tab.map fun r => Value.ref r.1).toArray := by
  revert X
  have : Challenge.rw_pa0049_01.row.prog = Challenge.rw_pa0049_01.row.prog := rfl
  revert this
  k_fill
  intro _ X
  exact tupK (l := [.ref 125, .ref 127, .ref 129, .ref 133, .ref 135, .ref 137, .ref 141, .ref 143, .ref 145, .ref 149]) X (by k_is)
theorem tab_rows (X : (hd.heap_1 w.params).In h) : ∀ r ∈ tab, IsTup h r.1 (r.2.map fun e => Value.ref e.1).toArray := by
  revert X
  have : Challenge.rw_pa0049_01.row.prog = Challenge.rw_pa0049_01.row.prog := rfl
  revert this
  k_fill
  intro _ X
  unfold tab
  refine List.forall_mem_cons.mpr ⟨tupK (l := [.ref 118, .ref 119, .ref 120, .ref 121, .ref 122, .ref 123, .ref 124]) X (by k_is), ?_⟩
  refine List.forall_mem_cons.mpr ⟨tupK (l := [.ref 126]) X (by k_is), ?_⟩
  refine List.forall_mem_cons.mpr ⟨tupK (l := [.ref 128]) X (by k_is), ?_⟩
  refine List.forall_mem_cons.mpr ⟨tupK (l := [.ref 130, .ref 131, .ref 132]) X (by k_is), ?_⟩
  refine List.forall_mem_cons.mpr ⟨tupK (l := [.ref 134]) X (by k_is), ?_⟩
  refine List.forall_mem_cons.mpr ⟨tupK (l := [.ref 136]) X (by k_is), ?_⟩
  refine List.forall_mem_cons.mpr ⟨tupK (l := [.ref 138, .ref 139, .ref 140]) X (by k_is), ?_⟩
  refine List.forall_mem_cons.mpr ⟨tupK (l := [.ref 142]) X (by k_is), ?_⟩
  refine List.forall_mem_cons.mpr ⟨tupK (l := [.ref 144]) X (by k_is), ?_⟩
  refine List.forall_mem_cons.mpr ⟨tupK (l := [.ref 146, .ref 147, .ref 148]) X (by k_is), ?_⟩
  exact List.forall_mem_nil _
theorem tab_pairs (X : (hd.heap_1 w.params).In h) : ∀ r ∈ tab, ∀ e ∈ r.2, ∃ t u, IsTup h e.1 #[.int e.2.1 t, .str e.2.2 u] := by
  revert X
  have : Challenge.rw_pa0049_01.row.prog = Challenge.rw_pa0049_01.row.prog := rfl
  revert this
  k_fill
  intro _ X
  unfold tab
  refine List.forall_mem_cons.mpr ⟨?_, ?_⟩
  · refine List.forall_mem_cons.mpr ⟨⟨_, _, tupK (l := [.int 40960 339, .str (Str.ofString "l") 367]) X (by k_is)⟩, ?_⟩
    refine List.forall_mem_cons.mpr ⟨⟨_, _, tupK (l := [.int 49152 341, .str (Str.ofString "s") 368]) X (by k_is)⟩, ?_⟩
    refine List.forall_mem_cons.mpr ⟨⟨_, _, tupK (l := [.int 32768 335, .str (Str.ofString "-") 369]) X (by k_is)⟩, ?_⟩
    refine List.forall_mem_cons.mpr ⟨⟨_, _, tupK (l := [.int 24576 333, .str (Str.ofString "b") 370]) X (by k_is)⟩, ?_⟩
    refine List.forall_mem_cons.mpr ⟨⟨_, _, tupK (l := [.int 16384 329, .str (Str.ofString "d") 371]) X (by k_is)⟩, ?_⟩
    refine List.forall_mem_cons.mpr ⟨⟨_, _, tupK (l := [.int 8192 331, .str (Str.ofString "c") 372]) X (by k_is)⟩, ?_⟩
    refine List.forall_mem_cons.mpr ⟨⟨_, _, tupK (l := [.int 4096 337, .str (Str.ofString "p") 373]) X (by k_is)⟩, ?_⟩
    exact List.forall_mem_nil _
  refine List.forall_mem_cons.mpr ⟨?_, ?_⟩
  · refine List.forall_mem_cons.mpr ⟨⟨_, _, tupK (l := [.int 256 349, .str (Str.ofString "r") 374]) X (by k_is)⟩, ?_⟩
    exact List.forall_mem_nil _
  refine List.forall_mem_cons.mpr ⟨?_, ?_⟩
  · refine List.forall_mem_cons.mpr ⟨⟨_, _, tupK (l := [.int 128 351, .str (Str.ofString "w") 375]) X (by k_is)⟩, ?_⟩
    exact List.forall_mem_nil _
  refine List.forall_mem_cons.mpr ⟨?_, ?_⟩
  · refine List.forall_mem_cons.mpr ⟨⟨_, _, tupK (l := [.int 2112 376, .str (Str.ofString "s") 377]) X (by k_is)⟩, ?_⟩
    refine List.forall_mem_cons.mpr ⟨⟨_, _, tupK (l := [.int 2048 343, .str (Str.ofString "S") 378]) X (by k_is)⟩, ?_⟩
    refine List.forall_mem_cons.mpr ⟨⟨_, _, tupK (l := [.int 64 353, .str (Str.ofString "x") 379]) X (by k_is)⟩, ?_⟩
    exact List.forall_mem_nil _
  refine List.forall_mem_cons.mpr ⟨?_, ?_⟩
  · refine List.forall_mem_cons.mpr ⟨⟨_, _, tupK (l := [.int 32 355, .str (Str.ofString "r") 380]) X (by k_is)⟩, ?_⟩
    exact List.forall_mem_nil _
  refine List.forall_mem_cons.mpr ⟨?_, ?_⟩
  · refine List.forall_mem_cons.mpr ⟨⟨_, _, tupK (l := [.int 16 357, .str (Str.ofString "w") 381]) X (by k_is)⟩, ?_⟩
    exact List.forall_mem_nil _
  refine List.forall_mem_cons.mpr ⟨?_, ?_⟩
  · refine List.forall_mem_cons.mpr ⟨⟨_, _, tupK (l := [.int 1032 382, .str (Str.ofString "s") 383]) X (by k_is)⟩, ?_⟩
    refine List.forall_mem_cons.mpr ⟨⟨_, _, tupK (l := [.int 1024 345, .str (Str.ofString "S") 384]) X (by k_is)⟩, ?_⟩
    refine List.forall_mem_cons.mpr ⟨⟨_, _, tupK (l := [.int 8 359, .str (Str.ofString "x") 385]) X (by k_is)⟩, ?_⟩
    exact List.forall_mem_nil _
  refine List.forall_mem_cons.mpr ⟨?_, ?_⟩
  · refine List.forall_mem_cons.mpr ⟨⟨_, _, tupK (l := [.int 4 361, .str (Str.ofString "r") 386]) X (by k_is)⟩, ?_⟩
    exact List.forall_mem_nil _
  refine List.forall_mem_cons.mpr ⟨?_, ?_⟩
  · refine List.forall_mem_cons.mpr ⟨⟨_, _, tupK (l := [.int 2 363, .str (Str.ofString "w") 387]) X (by k_is)⟩, ?_⟩
    exact List.forall_mem_nil _
  refine List.forall_mem_cons.mpr ⟨?_, ?_⟩
  · refine List.forall_mem_cons.mpr ⟨⟨_, _, tupK (l := [.int 513 388, .str (Str.ofString "t") 389]) X (by k_is)⟩, ?_⟩
    refine List.forall_mem_cons.mpr ⟨⟨_, _, tupK (l := [.int 512 347, .str (Str.ofString "T") 390]) X (by k_is)⟩, ?_⟩
    refine List.forall_mem_cons.mpr ⟨⟨_, _, tupK (l := [.int 1 365, .str (Str.ofString "x") 391]) X (by k_is)⟩, ?_⟩
    exact List.forall_mem_nil _
  exact List.forall_mem_nil _
end
end
/-! P_fm -/
section
theorem top_off_P_fm : True := by
  w_top off
  trivial
theorem ifmt_tell {w loose mean mg mb news} (n : Int) (tn : Tok) : Tell 1 w loose mean mg mb 117 news [.int n tn] [] (fun t => .int (Builtin.bitAnd n 61440) t) := by
  unfold Tell
  k_fill
  intro dp un cn cs a ccd cl outer A₀ base h₀ L m s Q E B F X N T hk hd hu hret
  refine wpAny_call ?_
  k_dflt walk_at "my enter"
  k_steps
  all_goals exact hret _ _ _ (by k_asm) (by k_asm)
local macro_rules | `(tactic| walk_at "call ref") => `(tactic| (k_here; (with_reducible show wpAny _ _ (call (Value.ref 117) [Value.int _ _] _) _ _ _); k_dflt (refine' Tell.use (ifmt_tell _ _) ?k1 ?k2 ?k3 ?k4 ?k5 ?kK ?kd ?ku ?_; walk_at "my goals"; intro t9 h9 tk9 F9 N9; (try dsimp only); (try k_fold))))
local macro_rules | `(tactic| walk_at "exec For Tuple Call cons nil") => `(tactic| (refine Hold.out ?_))
local macro_rules | `(tactic| walk_at "exec For Tuple Name") => `(tactic| (refine Hold.out ?_))
/-- does a pair of the i-th row match -/
def fmHit (i : Nat) (n : Int) (e : Addr × Int × Str) : Bool := if i = 0 then decide (Builtin.bitAnd n 61440 = e.2.1) else decide (Builtin.bitAnd n e.2.1 = e.2.1)
def fmSign (n : Int) (i : Nat) (row : List (Addr × Int × Str)) : Str := match row.find? (fmHit i n) with
  | some e => e.2.2
  | none => if i = 0 then Str.ofString "?" else Str.ofString "-"
def fmSigns (n : Int) : List Str := tab.mapIdx fun i r => fmSign n i r.2
def frm (m₀ : Str → Option Value) (vi vt vb vc : Option Value) : Str → Option Value := fun y => if y = Str.ofString "char" then vc else if y = Str.ofString "bit" then vb else if y = Str.ofString "table" then vt else if y = Str.ofString "index" then vi else m₀ y
def fm0 (lp : Addr) (n : Int) (tn : Tok) : Str → Option Value := fun y => if y = Str.ofString "perm" then some (.ref lp) else if y = Str.ofString "mode" then some (.int n tn) else none
theorem look1 {x y : Str} {v : Value} : List.lookup y [(x, v)] = if y = x then some v else none := by
  rw [List.lookup_cons]
  by_cases e : y = x
  · simp [e]
  · have : (y == x) = false := by simpa using e
    rw [this, if_neg e]
    rfl
theorem frm_same {m₀ : Str → Option Value} : m₀ = frm m₀ (m₀ (Str.ofString "index")) (m₀ (Str.ofString "table")) (m₀ (Str.ofString "bit")) (m₀ (Str.ofString "char")) := by
  funext y
  unfold frm
  (repeat' split) <;> simp_all
theorem frm_in {m₀ : Str → Option Value} {vi vt vb vc wi wt : Option Value} : (fun y => if y = Str.ofString "table" then wt else if y = Str.ofString "index" then wi else frm m₀ vi vt vb vc y) = frm m₀ wi wt vb vc := by
  funext y
  unfold frm
  have e1 : ¬ (Str.ofString "table" = Str.ofString "char") := by decide
  have e2 : ¬ (Str.ofString "table" = Str.ofString "bit") := by decide
  have e3 : ¬ (Str.ofString "index" = Str.ofString "char") := by decide
  have e4 : ¬ (Str.ofString "index" = Str.ofString "bit") := by decide
  have e5 : ¬ (Str.ofString "index" = Str.ofString "table") := by decide
  (repeat' split) <;> simp_all
theorem frm_bc {m₀ : Str → Option Value} {vi vt vb vc wb wc : Option Value} : (fun y => if y = Str.ofString "char" then wc else if y = Str.ofString "bit" then wb else frm m₀ vi vt vb vc y) = frm m₀ vi vt wb wc := by
  funext y
  unfold frm
  (repeat' split) <;> simp_all
theorem find_at {α : Type} {p : α → Bool} : ∀ {l : List α} {j : Nat} {e : α}, l[j]? = some e → p e = true → (∀ x ∈ l.take j, p x = false) → l.find? p = some e
  | [], j, e, h, _, _ => by simp at h
  | a :: l, 0, e, h, hp, _ => by
    have : a = e := by simpa using h
    subst this
    simp [List.find?_cons, hp]
  | a :: l, j + 1, e, h, hp, hn => by
    have ha : p a = false := hn a (by simp)
    rw [List.find?_cons, ha]
    exact find_at (by simpa using h) hp fun x hx => hn x (by simp [hx])
theorem fmSigns_take {n : Int} {i : Nat} {r : Addr × List (Addr × Int × Str)} (hr : tab[i]? = some r) : (fmSigns n).take (i + 1) = (fmSigns n).take i ++ [fmSign n i r.2] := by
  have h : (fmSigns n)[i]? = some (fmSign n i r.2) := by simp [fmSigns, hr]
  simp [List.take_add_one, h]
theorem fmSign_hit {n : Int} {i j : Nat} {row : List (Addr × Int × Str)} {e : Addr × Int × Str} (he : row[j]? = some e) (hp : fmHit i n e = true) (hn : ∀ x ∈ row.take j, fmHit i n x = false) : fmSign n i row = e.2.2 := by
  unfold fmSign
  rw [find_at he hp hn]
theorem fmSign_none {n : Int} {i : Nat} {row : List (Addr × Int × Str)} (hn : ∀ x ∈ row, fmHit i n x = false) : fmSign n i row = if i = 0 then Str.ofString "?" else Str.ofString "-" := by
  unfold fmSign
  have : row.find? (fmHit i n) = none := by
    rw [List.find?_eq_none]
    intro x hx
    rw [hn x hx]
    exact Bool.false_ne_true
  rw [this]
theorem take_one {α : Type} {l : List α} {j : Nat} {e : α} {P : α → Prop} (he : l[j]? = some e) (hP : P e) (hn : ∀ x ∈ l.take j, P x) : ∀ x ∈ l.take (j + 1), P x := by
  intro x hx
  rw [List.take_add_one, he] at hx
  rcases List.mem_append.mp hx with hx | hx
  · exact hn x hx
  · have : x = e := by simpa using hx
    exact this ▸ hP
def OutJ (lp : Addr) (n : Int) (tn : Tok) (news : List (Addr × Obj)) (i : Nat) (m' : Str → Option Value) (news' : List (Addr × Obj)) : Prop :=
  ∃ vi vt vb vc vs c, m' = frm (fm0 lp n tn) vi vt vb vc ∧ news' = (lp, listOf vs.toArray c) :: news ∧ StrsAre vs ((fmSigns n).take i)
def InJ (lp : Addr) (n : Int) (tn : Tok) (i : Nat) (t : Tok) (r : Addr × List (Addr × Int × Str)) (led : List (Addr × Obj)) (j : Nat) (m' : Str → Option Value) (news' : List (Addr × Obj)) : Prop :=
  ∃ vb vc, m' = frm (fm0 lp n tn) (some (.int (i : Int) t)) (some (.ref r.1)) vb vc ∧ news' = led ∧ ∀ e ∈ r.2.take j, fmHit i n e = false
section
variable {g h' : Heap} {L lp : Addr} {n : Int} {tn t : Tok} {news own news' : List (Addr × Obj)} {i : Nat} {s₁ : Shared} {tk c : Nat} {vs : List Value} {vi vt vb vc : Option Value} {x : Str} {o : Obj} {r : Addr × List (Addr × Int × Str)}
theorem out_end (eF : Fr g L h' (frm (fm0 lp n tn) vi vt vb vc)) (eN : News g L h' news') (hin : (lp, listOf (vs ++ [Value.str x t]).toArray c) ∈ news') (hn : ∀ p ∈ news, p ∈ news') (ho : ∀ p ∈ own, p ∈ news')
    (hS : StrsAre vs ((fmSigns n).take i)) (hr : tab[i]? = some r) (hx : fmSign n i r.2 = x) : InvEndN g L (OutJ lp n tn news (i + 1)) own (List.map (fun x => x.fst) ((lp, o) :: news)) s₁ { s₁ with heap := h', toks := tk } := by
  subst hx
  refine InvEndN.intro eF eN ⟨vi, vt, vb, vc, vs ++ [Value.str (fmSign n i r.2) t], c, rfl, rfl, ?_⟩ rfl (List.forall_mem_cons.mpr ⟨hin, hn⟩) ho
  rw [fmSigns_take hr]
  exact hS.append' (.cons _ _ .nil)
theorem in_end {led : List (Addr × Obj)} {j : Nat} {e : Addr × Int × Str} (eF : Fr g L h' (frm (fm0 lp n tn) (some (.int (i : Int) t)) (some (.ref r.1)) vb vc)) (eN : News g L h' news') (hn : ∀ p ∈ led, p ∈ news') (ho : ∀ p ∈ own, p ∈ news')
    (he : r.2[j]? = some e) (hp : fmHit i n e = false) (hno : ∀ x ∈ r.2.take j, fmHit i n x = false) : InvEndN g L (InJ lp n tn i t r led (j + 1)) own (List.map (fun x => x.fst) led) s₁ { s₁ with heap := h', toks := tk } :=
  InvEndN.intro eF eN ⟨vb, vc, rfl, rfl, take_one (P := fun x => fmHit i n x = false) he hp hno⟩ rfl hn ho
end
theorem fmSign_len (n : Int) (i : Nat) : ∀ r ∈ tab, (fmSign n i r.2).length = 1 := by
  intro r hr
  have hall : ∀ r ∈ tab, ∀ e ∈ r.2, e.2.2.length = 1 := by decide +kernel
  unfold fmSign
  split
  · rename_i e he
    exact hall r hr e (List.mem_of_find?_eq_some he)
  · split <;> rfl
theorem fmSigns_ones (n : Int) : ∀ x ∈ fmSigns n, x.length = 1 := by
  intro x hx
  unfold fmSigns at hx
  obtain ⟨i, hi, e⟩ := List.mem_mapIdx.mp hx
  rw [← e]
  exact fmSign_len n i _ (List.getElem_mem _)
theorem fmSigns_len (n : Int) : ((fmSigns n).map (·.length)).sum + (fmSigns n).length * (Str.ofString "").length ≤ 16777216 := by
  rw [sumLen_of_ones _ (fmSigns_ones n)]
  have h10 : (fmSigns n).length = 10 := by simp [fmSigns, tab]
  rw [h10]
  decide
theorem isL_of {h₀ h : Heap} {L l : Addr} {news : List (Addr × Obj)} {vs : Array Value} {c : Nat} (N : News h₀ L h news) (hm : (l, listOf vs c) ∈ news) : h.IsList l vs := ⟨_, (N _ hm).1, rfl, c, rfl⟩
theorem filemode_tell {w loose mean mg mb news} (n : Int) (tn : Tok) (h0 : 0 ≤ n) : Tell 3 w loose mean mg mb 157 news [.int n tn] [] (fun t => .str (Txt.join (Str.ofString "") (fmSigns n)) t) := by
  unfold Tell
  k_fill
  intro dp un cn cs a ccd cl outer A₀ base h₀ L m s Q E B F X N T hk hd hu hret
  have hMk := kstMark
  refine wpAny_call ?_
  k_dflt walk_at "my enter"
  k_steps
  refine ⟨?_⟩
  refine wpAny_For ?_
  k_steps
  (rename Fr _ _ _ _ => lF'); (rename News _ _ _ _ => lN'); rename ∀ p ∈ news, _ => l1
  obtain ⟨lp, rfl, lN⟩ := led_names lN'
  obtain ⟨g, m₀, rfl, hm0, lF⟩ := fr_names lF'
  have Xg : (Mine.hd.heap_1 w.params).In g := by assumption
  have hm : m₀ = fm0 lp n tn := by
    rw [hm0]
    funext y
    unfold fm0
    split
    · rfl
    · exact look1 (x := Str.ofString "mode") (v := .int n tn) (y := y)
  clear hm0 lF'
  subst hm
  refine' iter_enumE (vs := tab.map fun r => Value.ref r.1) (OutJ lp n tn news) rfl (tab_tup Xg) lF lN ⟨_, _, _, _, [], 0, frm_same, rfl, .nil⟩ ?_ ?_
  · rintro i v t T m₁ news₁ h tk own hv hT ha hoff ⟨vi, vt, vb, vc, vs, c, rfl, rfl, hS⟩ F' N'
    clear lF lN lN'
    simp only [List.map_cons] at hoff
    simp only [List.cons_append] at N'
    obtain ⟨r, hr, rfl⟩ : ∃ r, tab[i]? = some r ∧ Value.ref r.1 = v := by simpa using hv
    have hlen := hS.length
    have hrm : r ∈ tab := List.mem_of_getElem? hr
    have hsz : vs.length ≤ 10 := by
      have : ((fmSigns n).take i).length ≤ (fmSigns n).length := by rw [List.length_take]; exact Nat.min_le_right _ _
      have h10 : (fmSigns n).length = 10 := by simp [fmSigns, tab]
      omega
    try k_fold
    k_steps
    refine ⟨?_⟩
    refine wpAny_For ?_
    rcases Nat.eq_zero_or_pos i with hi0 | hi0
    · have hi1 : (i : Int) = 0 := by omega
      k_steps
      (rename Fr _ _ _ _ => lF2); (rename News _ _ _ _ => lN2)
      have lF3 := lF2
      rw [frm_in] at lF3
      refine' iter_tupE (vs := r.2.map fun e => Value.ref e.1) (InJ lp n tn i t r ((lp, listOf vs.toArray c) :: (news ++ own))) rfl (tab_rows Xg r hrm) lF3 lN2 ⟨vb, vc, rfl, rfl, fun e he => by simp at he⟩ ?_ ?_
      · rintro j v m₃ news₃ h₃ tk₃ own₃ hv₃ ha₃ hoff₃ ⟨vb₃, vc₃, rfl, rfl, hno⟩ F₃ N₃
        clear lF2 lN2 lF3
        simp only [List.map_cons] at hoff₃
        simp only [List.cons_append] at N₃
        obtain ⟨e, he, rfl⟩ : ∃ e, r.2[j]? = some e ∧ Value.ref e.1 = v := by simpa using hv₃
        obtain ⟨tb, tc, hTe⟩ := tab_pairs Xg r hrm e (List.mem_of_getElem? he)
        have hTe' := hTe.keeps F₃.keep
        try k_fold
        k_steps
        all_goals first
          | (exfalso; simp_all; done)
          | (refine ⟨?_⟩; (rename Fr _ _ _ _ => eF); (rename News _ _ _ _ => eN); (try simp only [List.push_toArray] at eN); (try rw [frm_bc] at eF); exact out_end eF eN (.head _) (by intro p hp; simp [hp]) (by intro p hp; simp [hp]) hS hr (fmSign_hit he (by simp_all [fmHit]) hno))
          | (refine ⟨?_⟩; (rename Fr _ _ _ _ => eF); (rename News _ _ _ _ => eN); (try simp only [List.push_toArray] at eN); (try rw [frm_bc] at eF); exact in_end eF eN (by intro p hp; simp only [List.mem_cons, List.mem_append] at hp ⊢; rcases hp with hp | hp | hp <;> simp [hp]) (by intro p hp; simp [hp]) he (by simp_all [fmHit]) hno)
      · rintro m₃ news₃ h₃ tk₃ ⟨vb₃, vc₃, rfl, rfl, hno⟩ F₃ N₃
        clear lF2 lN2 lF3
        have hno' : ∀ x ∈ r.2, fmHit i n x = false := by
          have e9 : r.2.take (List.map (fun e => Value.ref e.1) r.2).length = r.2 := by rw [List.length_map, List.take_length]
          rwa [e9] at hno
        try k_fold
        k_steps
        all_goals first
          | (exfalso; simp_all; done)
          | (refine ⟨?_⟩; (rename Fr _ _ _ _ => eF); (rename News _ _ _ _ => eN); (try simp only [List.push_toArray] at eN); (try rw [frm_bc] at eF); exact out_end eF eN (.head _) (by intro p hp; simp [hp]) (by intro p hp; simp [hp]) hS hr (by rw [fmSign_none hno']; simp_all))
    · have hi1 : ¬ ((i : Int) = 0) := by omega
      k_steps
      (rename Fr _ _ _ _ => lF2); (rename News _ _ _ _ => lN2)
      have lF3 := lF2
      rw [frm_in] at lF3
      refine' iter_tupE (vs := r.2.map fun e => Value.ref e.1) (InJ lp n tn i t r ((lp, listOf vs.toArray c) :: (news ++ own))) rfl (tab_rows Xg r hrm) lF3 lN2 ⟨vb, vc, rfl, rfl, fun e he => by simp at he⟩ ?_ ?_
      · rintro j v m₃ news₃ h₃ tk₃ own₃ hv₃ ha₃ hoff₃ ⟨vb₃, vc₃, rfl, rfl, hno⟩ F₃ N₃
        clear lF2 lN2 lF3
        simp only [List.map_cons] at hoff₃
        simp only [List.cons_append] at N₃
        obtain ⟨e, he, rfl⟩ : ∃ e, r.2[j]? = some e ∧ Value.ref e.1 = v := by simpa using hv₃
        obtain ⟨tb, tc, hTe⟩ := tab_pairs Xg r hrm e (List.mem_of_getElem? he)
        have hTe' := hTe.keeps F₃.keep
        try k_fold
        k_steps
        all_goals first
          | (exfalso; simp_all; done)
          | (refine ⟨?_⟩; (rename Fr _ _ _ _ => eF); (rename News _ _ _ _ => eN); (try simp only [List.push_toArray] at eN); (try rw [frm_bc] at eF); exact out_end eF eN (.head _) (by intro p hp; simp [hp]) (by intro p hp; simp [hp]) hS hr (fmSign_hit he (by simp_all [fmHit]) hno))
          | (refine ⟨?_⟩; (rename Fr _ _ _ _ => eF); (rename News _ _ _ _ => eN); (try simp only [List.push_toArray] at eN); (try rw [frm_bc] at eF); exact in_end eF eN (by intro p hp; simp only [List.mem_cons, List.mem_append] at hp ⊢; rcases hp with hp | hp | hp <;> simp [hp]) (by intro p hp; simp [hp]) he (by simp_all [fmHit]) hno)
      · rintro m₃ news₃ h₃ tk₃ ⟨vb₃, vc₃, rfl, rfl, hno⟩ F₃ N₃
        clear lF2 lN2 lF3
        have hno' : ∀ x ∈ r.2, fmHit i n x = false := by
          have e9 : r.2.take (List.map (fun e => Value.ref e.1) r.2).length = r.2 := by rw [List.length_map, List.take_length]
          rwa [e9] at hno
        try k_fold
        k_steps
        all_goals first
          | (exfalso; simp_all; done)
          | (refine ⟨?_⟩; (rename Fr _ _ _ _ => eF); (rename News _ _ _ _ => eN); (try simp only [List.push_toArray] at eN); (try rw [frm_bc] at eF); exact out_end eF eN (.head _) (by intro p hp; simp [hp]) (by intro p hp; simp [hp]) hS hr (by rw [fmSign_none hno']; simp_all))
  · rintro m₁ news₁ h tk ⟨vi, vt, vb, vc, vs, c, rfl, rfl, hS⟩ F' N'
    clear lF lN lN'
    have e9 : (fmSigns n).take (List.map (fun r => Value.ref r.1) tab).length = fmSigns n := by
      rw [List.take_of_length_le]; simp [fmSigns]
    rw [e9] at hS
    have hlen := fmSigns_len n
    try k_fold
    k_steps
    refine join_list (x := Str.ofString "") (isL_of N' (.head _)) (by simpa using hS) hlen ?_
    intro t9 k9
    try dsimp only
    k_steps
    exact hret _ _ _ (by k_asm) (cb_drop (by assumption) (by intro p hp; exact .tail _ hp))
end
/-! L_range -/
section
section
variable {prog : Program} {w : World} {A : Around} {E : Value → Shared → Prop} {s : Shared} {env : Env} {h₀ : Heap} {x : Str} {px : Pos} {body orelse : List Stmt} {Q : Flow → Shared → Prop}
/-- over a range, any step -/
theorem iter_rangeE {r : Addr} {a₀ b₀ c₀ : Int} {t₀ u₀ v₀ : Tok} {n : Nat} {m : Str → Option Value} {news : List (Addr × Obj)} (J : Nat → (Str → Option Value) → List (Addr × Obj) → Prop)
    (hh : A.handled = none) (hr : IsRange s.heap r a₀ b₀ c₀ t₀ u₀ v₀) (hsmall : Builtin.Range.small a₀ b₀ c₀ = true) (hn : Builtin.Range.rangeSize a₀ b₀ c₀ = (n : Int)) (F : Fr h₀ env.locals s.heap m) (N : News h₀ env.locals s.heap news) (h0 : J 0 m news)
    (step : ∀ (i : Nat) t m₁ news₁ h tk own, i < n → news₁.map (·.1) = news.map (·.1) → OwnOff own (news.map (·.1)) → J i m₁ news₁ → Fr h₀ env.locals h m₁ → News h₀ env.locals h (news₁ ++ own) →
      wpAny (model prog w) A (assign (.Name x px) env (.int (a₀ + i * c₀) t)) (fun _ s₂ => wpAny (model prog w) A (execs body env) (InvPostN h₀ env.locals (J (i + 1)) own (news.map (·.1)) { s with heap := h, toks := tk } Q) E s₂) E { s with heap := h, toks := tk })
    (done : ∀ m₁ news₁ h tk, J n m₁ news₁ → Fr h₀ env.locals h m₁ → News h₀ env.locals h news₁ → wpAny (model prog w) A (execs orelse env) Q E { s with heap := h, toks := tk })
    (hE : PassesOwn (model prog w) A env E := by passes_own) :
    wpAny (model prog w) A (pyIter (.ref r)) (fun it s₂ => codeAny (model prog w) A (.forLoop (.Name x px) it body orelse env) (fun r s' => match r with | .ok f => Q f s' | .error e => cameBackBy (model prog w) A env E e s') s₂) E s := by
  refine wpAny_pyIter_range hr hsmall ?_
  have W : Walks prog w A s.heap.objs.size [s.heap.objs.size] [s.heap.objs.size] n (fun i v => ∃ t, v = .int (a₀ + i * c₀) t)
      (fun i h => IsRangeIter h s.heap.objs.size (a₀ + (i : Nat) * c₀) ((n : Int) - (i : Nat)) c₀) := Walks.range hh _ a₀ c₀ n
  have W' := KTurns.ofWalks (target := .Name x px) W fun i v s Q E st q => wpAny_pure q
  refine loopE W' ?_ ?_ ?_ (by show IsRangeIter _ _ _ _ _; rw [hn]; simpa using Heap.get?_push_size _ rfl) (F.push _) (fun p hp => ⟨Heap.get?_push_of_some _ (N p hp).1, (N p hp).2⟩) J h0 ?_ ?_ hE
  · intro hm
    exact absurd F.ns.lt ((List.mem_singleton.mp hm) ▸ Nat.lt_irrefl _)
  · intro b hb
    rw [List.mem_singleton.mp hb]
    exact next_is_new F
  · intro p hp hI
    exact absurd (Heap.lt_size (N p hp).1) ((List.mem_singleton.mp hI) ▸ Nat.lt_irrefl _)
  · rintro i v m₁ news₁ h tk own hi ⟨t, rfl⟩ ha hoff hJ F₁ N₁
    exact step i t m₁ news₁ h tk own hi ha hoff hJ F₁ N₁
  · intro m₁ news₁ h tk hJ F₁ N₁
    exact done m₁ news₁ h tk hJ F₁ N₁
/-- over a text's signs -/
theorem iter_strE {y : Str} {ty : Tok} {m : Str → Option Value} {news : List (Addr × Obj)} (J : Nat → (Str → Option Value) → List (Addr × Obj) → Prop)
    (hh : A.handled = none) (hy : ∀ c ∈ y.cps.toList, c < 128) (F : Fr h₀ env.locals s.heap m) (N : News h₀ env.locals s.heap news) (h0 : J 0 m news)
    (step : ∀ (i : Nat) c t m₁ news₁ h tk own, y.cps[i]? = some c → news₁.map (·.1) = news.map (·.1) → OwnOff own (news.map (·.1)) → J i m₁ news₁ → Fr h₀ env.locals h m₁ → News h₀ env.locals h (news₁ ++ own) →
      wpAny (model prog w) A (assign (.Name x px) env (.str ⟨#[c]⟩ t)) (fun _ s₂ => wpAny (model prog w) A (execs body env) (InvPostN h₀ env.locals (J (i + 1)) own (news.map (·.1)) { s with heap := h, toks := tk } Q) E s₂) E { s with heap := h, toks := tk })
    (done : ∀ m₁ news₁ h tk, J y.cps.size m₁ news₁ → Fr h₀ env.locals h m₁ → News h₀ env.locals h news₁ → wpAny (model prog w) A (execs orelse env) Q E { s with heap := h, toks := tk })
    (hE : PassesOwn (model prog w) A env E := by passes_own) :
    wpAny (model prog w) A (pyIter (.str y ty)) (fun it s₂ => codeAny (model prog w) A (.forLoop (.Name x px) it body orelse env) (fun r s' => match r with | .ok f => Q f s' | .error e => cameBackBy (model prog w) A env E e s') s₂) E s := by
  have ha : y.cps.all (· < 128) = true := by
    rw [← Array.all_toList, List.all_eq_true]
    intro c hc
    simpa using hy c hc
  refine wpAny_pyIter_ascii ha ?_
  have W := Walks.strAscii (prog := prog) (w := w) (A := A) hh s.heap.objs.size y ty
  have W' := KTurns.ofWalks (target := .Name x px) W fun i v s Q E st q => wpAny_pure q
  refine loopE W' ?_ ?_ ?_ ⟨_, Heap.get?_push_size _ rfl, rfl, rfl⟩ (F.push _) (fun p hp => ⟨Heap.get?_push_of_some _ (N p hp).1, (N p hp).2⟩) J h0 ?_ ?_ hE
  · intro hm
    exact absurd F.ns.lt ((List.mem_singleton.mp hm) ▸ Nat.lt_irrefl _)
  · intro b hb
    rw [List.mem_singleton.mp hb]
    exact next_is_new F
  · intro p hp hI
    exact absurd (Heap.lt_size (N p hp).1) ((List.mem_singleton.mp hI) ▸ Nat.lt_irrefl _)
  · rintro i v m₁ news₁ h tk own hi ⟨c, t, hc, rfl⟩ ha hoff hJ F₁ N₁
    exact step i c t m₁ news₁ h tk own hc ha hoff hJ F₁ N₁
  · intro m₁ news₁ h tk hJ F₁ N₁
    exact done m₁ news₁ h tk hJ F₁ N₁
end
end
/-! P_lst -/
section
theorem top_off_P_lst : True := by
  w_top off
  trivial
local macro_rules | `(tactic| walk_at "exec For Name Call cons nil") => `(tactic| (refine Hold.out ?_))
theorem sub_two {M : Model} {A : Around} {E : Value → Shared → Prop} {s : Shared} {Q : Value → Shared → Prop} {v sl : Expr} {T : Addr} {k : Int} {u : Tok} (h01 : k = 0 ∨ k = 1)
    (h0 : k = 0 → wpAny M A (subscriptTail v sl (.ref T) (.int 0 u)) Q E s) (h1 : k = 1 → wpAny M A (subscriptTail v sl (.ref T) (.int 1 u)) Q E s) : wpAny M A (subscriptTail v sl (.ref T) (.int k u)) Q E s := by
  rcases h01 with rfl | rfl
  · exact h0 rfl
  · exact h1 rfl
theorem fmod2 (x : Int) : x.fmod 2 = 0 ∨ x.fmod 2 = 1 := by
  have := Int.fmod_nonneg_of_pos x (b := 2) (by decide)
  have := Int.fmod_lt_of_pos x (b := 2) (by decide)
  omega
local macro_rules | `(tactic| walk_at "subscriptTail") => `(tactic| (k_here; (with_reducible show wpAny _ _ (subscriptTail (Expr.Tuple _ _ _) _ (Value.ref _) (Value.int (Int.fmod _ 2) _)) _ _ _); refine sub_two (fmod2 _) (fun hab => ?_) (fun hab => ?_)))
def lfr (n : Int) (tn : Tok) (vl vs va vg : Option Value) : Str → Option Value := fun y => if y = Str.ofString "signs" then vg else if y = Str.ofString "above" then va else if y = Str.ofString "spot" then vs else if y = Str.ofString "listing" then vl else if y = Str.ofString "mode" then some (.int n tn) else none
def lsSign (n : Int) (i : Nat) : Str := Txt.item (if (if i % 3 = 2 then (n.fdiv (2 ^ (11 - i / 3))).fmod 2 else 0) = 0 then Str.ofString "-" ++ Txt.item (Str.ofString "rwx") ((i % 3 : Nat) : Int) else if i = 8 then Str.ofString "Tt" else Str.ofString "Ss") ((n.fdiv (2 ^ (8 - i))).fmod 2)
def lsText (n : Int) : Nat → Str
  | 0 => Txt.item (Str.ofString "?pc?d?b?-?l?s???") ((n.fdiv 4096).fmod 16)
  | i + 1 => lsText n i ++ lsSign n i
def LsJ (n : Int) (tn : Tok) (news : List (Addr × Obj)) (i : Nat) (m' : Str → Option Value) (news' : List (Addr × Obj)) : Prop :=
  ∃ tl vs va vg, m' = lfr n tn (some (.str (lsText n i) tl)) vs va vg ∧ news' = news ∧ (lsText n i).length ≤ 1 + i
theorem look1' {x y : Str} {v : Value} : List.lookup y [(x, v)] = if y = x then some v else none := by
  rw [List.lookup_cons]
  by_cases e : y = x
  · simp [e]
  · have : (y == x) = false := by simpa using e
    rw [this, if_neg e]
    rfl
theorem lfr_start {n : Int} {tn : Tok} {v : Option Value} : (fun y => if y = Str.ofString "listing" then v else List.lookup y [(Str.ofString "mode", Value.int n tn)]) = lfr n tn v none none none := by
  funext y
  rw [look1']
  unfold lfr
  have e1 : ¬ (Str.ofString "signs" = Str.ofString "listing") := by decide
  have e2 : ¬ (Str.ofString "above" = Str.ofString "listing") := by decide
  have e3 : ¬ (Str.ofString "spot" = Str.ofString "listing") := by decide
  have e4 : ¬ (Str.ofString "signs" = Str.ofString "mode") := by decide
  have e5 : ¬ (Str.ofString "above" = Str.ofString "mode") := by decide
  have e6 : ¬ (Str.ofString "spot" = Str.ofString "mode") := by decide
  (repeat' split) <;> simp_all
theorem lfr_end {n : Int} {tn : Tok} {vl vs va vg wl ws wa wg : Option Value} : (fun y => if y = Str.ofString "listing" then wl else if y = Str.ofString "signs" then wg else if y = Str.ofString "above" then wa else if y = Str.ofString "spot" then ws else lfr n tn vl vs va vg y) = lfr n tn wl ws wa wg := by
  funext y
  unfold lfr
  have e1 : ¬ (Str.ofString "listing" = Str.ofString "signs") := by decide
  have e2 : ¬ (Str.ofString "listing" = Str.ofString "above") := by decide
  have e3 : ¬ (Str.ofString "listing" = Str.ofString "spot") := by decide
  (repeat' split) <;> simp_all
theorem item_len (x : Str) (k : Int) : (Txt.item x k).length ≤ 1 := Nat.le_of_eq (len_item x k)
theorem lsText_len (n : Int) : ∀ i, (lsText n i).length ≤ 1 + i
  | 0 => item_len _ _
  | i + 1 => by
    have h1 := lsText_len n i
    have h2 : (lsSign n i).length ≤ 1 := item_len _ _
    show (lsText n i ++ lsSign n i).length ≤ _
    rw [Str.length_append]
    omega
theorem ls_end {g h' : Heap} {L : Addr} {n : Int} {tn tl : Tok} {vs va vg : Option Value} {news news' own : List (Addr × Obj)} {i : Nat} {y : Str} {s₁ : Shared} {tk : Nat}
    (eF : Fr g L h' (lfr n tn (some (.str (lsText n i ++ y) tl)) vs va vg)) (eN : News g L h' news') (hn : ∀ p ∈ news, p ∈ news') (ho : ∀ p ∈ own, p ∈ news') (hy : y = lsSign n i) :
    InvEndN g L (LsJ n tn news (i + 1)) own (List.map (fun x => x.fst) news) s₁ { s₁ with heap := h', toks := tk } := by
  subst hy
  exact InvEndN.intro eF eN ⟨tl, vs, va, vg, rfl, rfl, lsText_len n (i + 1)⟩ rfl hn ho
theorem ls0 {x : Str} {k : Nat} {n e : Int} {i : Nat} (hi : ¬ i % 3 = 2) (hx : x = Str.ofString "-" ++ Txt.item (Str.ofString "rwx") ((i % 3 : Nat) : Int)) (he : e.toNat = 8 - i) : Txt.item x ((n.fdiv (2 ^ e.toNat)).fmod 2) = lsSign n i := by
  unfold lsSign
  rw [if_neg hi, if_pos rfl, hx, he]
theorem ls1 {x : Str} {n e f : Int} {i : Nat} (hi : i % 3 = 2) (hab : (n.fdiv (2 ^ f.toNat)).fmod 2 = 0) (hf : f.toNat = 11 - i / 3) (hx : x = Str.ofString "-" ++ Txt.item (Str.ofString "rwx") ((i % 3 : Nat) : Int)) (he : e.toNat = 8 - i) : Txt.item x ((n.fdiv (2 ^ e.toNat)).fmod 2) = lsSign n i := by
  unfold lsSign
  rw [if_pos hi, ← hf, hab, if_pos rfl, hx, he]
theorem ls2 {x : Str} {n e f : Int} {i : Nat} (hi : i % 3 = 2) (hab : (n.fdiv (2 ^ f.toNat)).fmod 2 = 1) (hf : f.toNat = 11 - i / 3) (hx : x = if i = 8 then Str.ofString "Tt" else Str.ofString "Ss") (he : e.toNat = 8 - i) : Txt.item x ((n.fdiv (2 ^ e.toNat)).fmod 2) = lsSign n i := by
  unfold lsSign
  rw [if_pos hi, ← hf, hab, if_neg (by decide), hx, he]
theorem nine_of : ∀ i : Nat, i < 9 → i = 0 ∨ i = 1 ∨ i = 2 ∨ i = 3 ∨ i = 4 ∨ i = 5 ∨ i = 6 ∨ i = 7 ∨ i = 8 := by decide
theorem listing_tell {w loose mean mg mb news} (n : Int) (tn : Tok) (h0 : 0 ≤ n) (h1 : n < 1000000) : Tell 3 w loose mean mg mb 164 news [.int n tn] [] (fun t => .str (lsText n 9) t) := by
  unfold Tell
  k_fill
  intro dp un cn cs a ccd cl outer A₀ base h₀ L m s Q E B F X N T hk hd hu hret
  have hMk := kstMark
  refine wpAny_call ?_
  k_dflt walk_at "my enter"
  k_steps
  refine ⟨?_⟩
  refine wpAny_For ?_
  k_steps
  (rename Fr _ _ _ _ => lF'); (rename News _ _ _ _ => lN)
  obtain ⟨g, m₀, rfl, hm0, lF⟩ := fr_names lF'
  obtain ⟨tl, hm⟩ : ∃ tl, m₀ = lfr n tn (some (.str (lsText n 0) tl)) none none none := ⟨_, hm0.trans lfr_start⟩
  clear hm0 lF'
  subst hm
  (rename IsRange _ _ _ _ _ _ _ _ => hR)
  refine' iter_rangeE (n := 9) (LsJ n tn news) rfl hR (by decide) (by decide) lF lN ⟨tl, none, none, none, rfl, rfl, lsText_len n 0⟩ ?_ ?_
  · rintro i t m₁ news₁ h tk own hi ha hoff ⟨tl, vs, va, vg, rfl, rfl, hlen⟩ F' N'
    clear lF lN
    have hcs : i = 0 ∨ i = 1 ∨ i = 2 ∨ i = 3 ∨ i = 4 ∨ i = 5 ∨ i = 6 ∨ i = 7 ∨ i = 8 := nine_of i hi
    rcases hcs with rfl | rfl | rfl | rfl | rfl | rfl | rfl | rfl | rfl
    · try k_fold
      k_steps
      all_goals (refine ⟨?_⟩; (rename Fr _ _ _ _ => eF); (rename News _ _ _ _ => eN); (rw [lfr_end] at eF); refine ls_end eF eN (by intro p hp; simp [hp]) (by intro p hp; simp [hp]) ?_; first | exact ls0 (k := 0) (by decide) (by decide +kernel) (by decide) | exact ls1 (by decide) (by assumption) (by decide) (by decide +kernel) (by decide) | exact ls2 (by decide) (by assumption) (by decide) (by decide +kernel) (by decide))
    · try k_fold
      k_steps
      all_goals (refine ⟨?_⟩; (rename Fr _ _ _ _ => eF); (rename News _ _ _ _ => eN); (rw [lfr_end] at eF); refine ls_end eF eN (by intro p hp; simp [hp]) (by intro p hp; simp [hp]) ?_; first | exact ls0 (k := 0) (by decide) (by decide +kernel) (by decide) | exact ls1 (by decide) (by assumption) (by decide) (by decide +kernel) (by decide) | exact ls2 (by decide) (by assumption) (by decide) (by decide +kernel) (by decide))
    · try k_fold
      k_steps
      all_goals (refine ⟨?_⟩; (rename Fr _ _ _ _ => eF); (rename News _ _ _ _ => eN); (rw [lfr_end] at eF); refine ls_end eF eN (by intro p hp; simp [hp]) (by intro p hp; simp [hp]) ?_; first | exact ls0 (k := 0) (by decide) (by decide +kernel) (by decide) | exact ls1 (by decide) (by assumption) (by decide) (by decide +kernel) (by decide) | exact ls2 (by decide) (by assumption) (by decide) (by decide +kernel) (by decide))
    · try k_fold
      k_steps
      all_goals (refine ⟨?_⟩; (rename Fr _ _ _ _ => eF); (rename News _ _ _ _ => eN); (rw [lfr_end] at eF); refine ls_end eF eN (by intro p hp; simp [hp]) (by intro p hp; simp [hp]) ?_; first | exact ls0 (k := 0) (by decide) (by decide +kernel) (by decide) | exact ls1 (by decide) (by assumption) (by decide) (by decide +kernel) (by decide) | exact ls2 (by decide) (by assumption) (by decide) (by decide +kernel) (by decide))
    · try k_fold
      k_steps
      all_goals (refine ⟨?_⟩; (rename Fr _ _ _ _ => eF); (rename News _ _ _ _ => eN); (rw [lfr_end] at eF); refine ls_end eF eN (by intro p hp; simp [hp]) (by intro p hp; simp [hp]) ?_; first | exact ls0 (k := 0) (by decide) (by decide +kernel) (by decide) | exact ls1 (by decide) (by assumption) (by decide) (by decide +kernel) (by decide) | exact ls2 (by decide) (by assumption) (by decide) (by decide +kernel) (by decide))
    · try k_fold
      k_steps
      all_goals (refine ⟨?_⟩; (rename Fr _ _ _ _ => eF); (rename News _ _ _ _ => eN); (rw [lfr_end] at eF); refine ls_end eF eN (by intro p hp; simp [hp]) (by intro p hp; simp [hp]) ?_; first | exact ls0 (k := 0) (by decide) (by decide +kernel) (by decide) | exact ls1 (by decide) (by assumption) (by decide) (by decide +kernel) (by decide) | exact ls2 (by decide) (by assumption) (by decide) (by decide +kernel) (by decide))
    · try k_fold
      k_steps
      all_goals (refine ⟨?_⟩; (rename Fr _ _ _ _ => eF); (rename News _ _ _ _ => eN); (rw [lfr_end] at eF); refine ls_end eF eN (by intro p hp; simp [hp]) (by intro p hp; simp [hp]) ?_; first | exact ls0 (k := 0) (by decide) (by decide +kernel) (by decide) | exact ls1 (by decide) (by assumption) (by decide) (by decide +kernel) (by decide) | exact ls2 (by decide) (by assumption) (by decide) (by decide +kernel) (by decide))
    · try k_fold
      k_steps
      all_goals (refine ⟨?_⟩; (rename Fr _ _ _ _ => eF); (rename News _ _ _ _ => eN); (rw [lfr_end] at eF); refine ls_end eF eN (by intro p hp; simp [hp]) (by intro p hp; simp [hp]) ?_; first | exact ls0 (k := 0) (by decide) (by decide +kernel) (by decide) | exact ls1 (by decide) (by assumption) (by decide) (by decide +kernel) (by decide) | exact ls2 (by decide) (by assumption) (by decide) (by decide +kernel) (by decide))
    · try k_fold
      k_steps
      all_goals (refine ⟨?_⟩; (rename Fr _ _ _ _ => eF); (rename News _ _ _ _ => eN); (rw [lfr_end] at eF); refine ls_end eF eN (by intro p hp; simp [hp]) (by intro p hp; simp [hp]) ?_; first | exact ls0 (k := 0) (by decide) (by decide +kernel) (by decide) | exact ls1 (by decide) (by assumption) (by decide) (by decide +kernel) (by decide) | exact ls2 (by decide) (by assumption) (by decide) (by decide +kernel) (by decide))
  · rintro m₁ news₁ h tk ⟨tl, vs, va, vg, rfl, rfl, hlen⟩ F' N'
    clear lF lN
    try k_fold
    k_steps
    exact hret _ _ _ (by k_asm) (by k_asm)
end
/-! L_comp -/
section
/-- a list of values made of the data, one by one -/
inductive Made {α : Type} (mk : α → Tok → Value) : List Value → List α → Prop
  | nil : Made mk [] []
  | cons (a : α) (t : Tok) {vs : List Value} {as : List α} : Made mk vs as → Made mk (mk a t :: vs) (a :: as)
theorem Made.snoc {α : Type} {mk : α → Tok → Value} {a : α} {t : Tok} : ∀ {vs : List Value} {as : List α}, Made mk vs as → Made mk (vs ++ [mk a t]) (as ++ [a])
  | _, _, .nil => .cons a t .nil
  | _, _, .cons b u r => .cons b u r.snoc
theorem Made.length {α : Type} {mk : α → Tok → Value} : ∀ {vs : List Value} {as : List α}, Made mk vs as → vs.length = as.length
  | _, _, .nil => rfl
  | _, _, .cons _ _ r => by simp [r.length]
theorem Made.strs : ∀ {vs : List Value} {as : List Str}, Made Value.str vs as → StrsAre vs as
  | _, _, .nil => .nil
  | _, _, .cons a t r => .cons a t r.strs
theorem Made.ofStrs : ∀ {vs : List Value} {as : List Str}, StrsAre vs as → Made Value.str vs as
  | _, _, .nil => .nil
  | _, _, .cons a t r => .cons a t (Made.ofStrs r)
theorem Made.ints : ∀ {vs : List Value} {as : List Int}, Made Value.int vs as → IntsAre vs as
  | _, _, .nil => .nil
  | _, _, .cons a t r => .cons a t r.ints
theorem Made.ofInts : ∀ {vs : List Value} {as : List Int}, IntsAre vs as → Made Value.int vs as
  | _, _, .nil => .nil
  | _, _, .cons a t r => .cons a t (Made.ofInts r)
def mkSign (c : Nat) (t : Tok) : Value := .str ⟨#[c]⟩ t
theorem Made.signs : ∀ {vs : List Value} {as : List Nat}, Made mkSign vs as → StrsAre vs (as.map fun c => ⟨#[c]⟩)
  | _, _, .nil => .nil
  | _, _, .cons a t r => .cons ⟨#[a]⟩ t r.signs
theorem Made.at {α : Type} {mk : α → Tok → Value} : ∀ {vs : List Value} {as : List α}, Made mk vs as → ∀ (i : Nat) (v : Value), vs[i]? = some v → ∃ a t, as[i]? = some a ∧ v = mk a t
  | _, _, .nil, i, v, h => by simp at h
  | _, _, .cons a t r, 0, v, h => ⟨a, t, rfl, by simpa using h.symm⟩
  | _, _, .cons a t r, i + 1, v, h => by
    obtain ⟨b, u, hb, e⟩ := r.at i v (by simpa using h)
    exact ⟨b, u, by simpa using hb, e⟩
section
variable {prog : Program} {w : World} {A : Around} {E : Value → Shared → Prop} {s : Shared} {h₀ : Heap} {L : Addr} {m : Str → Option Value} {env : Env} {ct elt : Expr} {x : Str} {scope : Scope} {cl : List (Str × Addr)} {S : List (Addr × Obj) → Prop} {P : Nat → Value → Prop} {Fin : List Value → List (Addr × Obj) → Prop} {news : List (Addr × Obj)}
  {α β : Type} {mk : α → Tok → Value} {mkb : β → Tok → Value} {as : List α} {n : Nat}
/-- a comprehension's turns: each item by its own -/
theorem rest_map (g : α → β) (hn : as.length = n) (hP : ∀ i v, i < n → P i v → ∃ a t, as[i]? = some a ∧ v = mk a t)
    (turn : ∀ a t I oI C oC D m₂ ys h tk (E' : Value → Shared → Prop), a ∈ as → LCg.NsObj oC m₂ → m₂ x = some (mk a t) → Fr h₀ L h m → News h₀ L h ((I, oI) :: (C, oC) :: (D, LCg.lst ys) :: news) → LCg.Off3 I C D news → ((@Ne Nat I C) ∧ (@Ne Nat I D) ∧ (@Ne Nat C D)) →
      wpAny (model prog w) A (eval elt (compEnvC scope cl C env)) (LCg.CompEnd h₀ L m { s with heap := h, toks := tk } I oI C oC D (LCg.lst ys) S (fun y news' => news' = news ∧ ∃ u, y = mkb (g a) u)) E' { s with heap := h, toks := tk })
    (fin : ∀ ys, Made mkb ys (as.map g) → Fin ys news) : LCg.CompRest prog w A h₀ L m env elt x scope cl s S P Fin n 0 [] news := by
  have key : ∀ (j i : Nat) (ys : List Value), i + j = n → Made mkb ys ((as.take i).map g) → LCg.CompRest prog w A h₀ L m env elt x scope cl s S P Fin j i ys news := by
    intro j
    induction j with
    | zero =>
      intro i ys hi hy
      have e : i = as.length := by omega
      subst e
      rw [List.take_length] at hy
      exact LCg.CompRest.zero (fin ys hy)
    | succ j ih =>
      intro i ys hi hy
      refine LCg.CompRest.succ ?_
      intro v I oI C oC D m₂ h tk E' hv hC hx F N off ne
      obtain ⟨a, t, ha, hv'⟩ := hP i v (by omega) hv
      rw [hv'] at hx
      refine wpAny_mono (turn a t I oI C oC D m₂ ys h tk E' (List.mem_of_getElem? ha) hC hx F N off ne) (fun y s₂ hq => ?_) fun _ _ e => e
      obtain ⟨h', tk', nw, e, F', N', off', hS, hn, u, hy'⟩ := hq
      rw [hn] at N' off' hS
      refine ⟨h', tk', news, e, F', N', off', hS, ?_⟩
      rw [hy']
      refine ih (i + 1) _ (by omega) ?_
      rw [List.take_add_one, ha]
      simpa using hy.snoc
  exact key n 0 [] (by omega) (by simp only [List.take_zero, List.map_nil]; exact .nil)
/-- the same with a test: the items that stay -/
theorem rest_filter (p : α → Bool) (hn : as.length = n) (hP : ∀ i v, i < n → P i v → ∃ a t, as[i]? = some a ∧ v = mk a t)
    (turn : ∀ a t I oI C oC D m₂ ys h tk (E' : Value → Shared → Prop), a ∈ as → LCg.NsObj oC m₂ → m₂ x = some (mk a t) → Fr h₀ L h m → News h₀ L h ((I, oI) :: (C, oC) :: (D, LCg.lst ys) :: news) → LCg.Off3 I C D news → ((@Ne Nat I C) ∧ (@Ne Nat I D) ∧ (@Ne Nat C D)) →
      wpAny (model prog w) A (isTrue ct (compEnvC scope cl C env) (eval ct (compEnvC scope cl C env))) (fun ok s' => if ok = true then
        wpAny (model prog w) A (eval elt (compEnvC scope cl C env)) (LCg.CompEnd h₀ L m { s with heap := h, toks := tk } I oI C oC D (LCg.lst ys) S (fun y news' => news' = news ∧ p a = true ∧ ∃ u, y = mk a u)) E' s'
        else LCg.CompEnd h₀ L m { s with heap := h, toks := tk } I oI C oC D (LCg.lst ys) S (fun _ news' => news' = news ∧ p a = false) Value.none s') E' { s with heap := h, toks := tk })
    (fin : ∀ ys, Made mk ys (as.filter p) → Fin ys news) : LCt.CompRestT prog w A h₀ L m env ct elt x scope cl s S P Fin n 0 [] news := by
  have key : ∀ (j i : Nat) (ys : List Value), i + j = n → Made mk ys ((as.take i).filter p) → LCt.CompRestT prog w A h₀ L m env ct elt x scope cl s S P Fin j i ys news := by
    intro j
    induction j with
    | zero =>
      intro i ys hi hy
      have e : i = as.length := by omega
      subst e
      rw [List.take_length] at hy
      exact LCt.CompRestT.zero (fin ys hy)
    | succ j ih =>
      intro i ys hi hy
      refine LCt.CompRestT.succ ?_
      intro v I oI C oC D m₂ h tk E' hv hC hx F N off ne
      obtain ⟨a, t, ha, hv'⟩ := hP i v (by omega) hv
      rw [hv'] at hx
      refine wpAny_mono (turn a t I oI C oC D m₂ ys h tk E' (List.mem_of_getElem? ha) hC hx F N off ne) (fun ok s₂ hq => ?_) fun _ _ e => e
      cases ok with
      | true =>
        simp only [if_true] at hq ⊢
        refine wpAny_mono hq (fun y s₃ hq => ?_) fun _ _ e => e
        obtain ⟨h', tk', nw, e, F', N', off', hS, hn, hp, u, hy'⟩ := hq
        rw [hn] at N' off' hS
        refine ⟨h', tk', news, e, F', N', off', hS, ?_⟩
        rw [hy']
        refine ih (i + 1) _ (by omega) ?_
        rw [List.take_add_one, ha, List.filter_append]
        simpa [hp] using hy.snoc
      | false =>
        simp only [Bool.false_eq_true, if_false] at hq ⊢
        obtain ⟨h', tk', nw, e, F', N', off', hS, hn, hp⟩ := hq
        rw [hn] at N' off' hS
        refine ⟨h', tk', news, e, F', N', off', hS, ?_⟩
        refine ih (i + 1) _ (by omega) ?_
        rw [List.take_add_one, ha, List.filter_append]
        simpa [hp] using hy
  exact key n 0 [] (by omega) (by simp only [List.take_zero, List.filter_nil]; exact .nil)
end
/-- the source is a text -/
def SrcS (prog : Program) (w : World) (A : Around) (h₀ : Heap) (L : Addr) (m : Str → Option Value) (env : Env) (elt : Expr) (x : Str) (scope : Scope) (cl : List (Str × Addr)) (Fin : Shared → List Value → List (Addr × Obj) → Prop) (xv : Value) (s₁ : Shared) : Prop :=
  ∃ y ty news, xv = .str y ty ∧ A.handled = none ∧ Fr h₀ L s₁.heap m ∧ News h₀ L s₁.heap news ∧ (∀ c ∈ y.cps.toList, c < 128) ∧ y.cps.size ≤ sizeLine ∧
    ∀ s₂ : Shared, (∃ h, s₂ = { s₁ with heap := h }) → LCg.CompRest prog w A h₀ L m env elt x scope cl s₂ (fun _ => True) (fun i v => ∃ c t, y.cps.toList[i]? = some c ∧ v = mkSign c t) (Fin s₂) y.cps.size 0 [] news
def SrcST (prog : Program) (w : World) (A : Around) (h₀ : Heap) (L : Addr) (m : Str → Option Value) (env : Env) (ct elt : Expr) (x : Str) (scope : Scope) (cl : List (Str × Addr)) (Fin : Shared → List Value → List (Addr × Obj) → Prop) (xv : Value) (s₁ : Shared) : Prop :=
  ∃ y ty news, xv = .str y ty ∧ A.handled = none ∧ Fr h₀ L s₁.heap m ∧ News h₀ L s₁.heap news ∧ (∀ c ∈ y.cps.toList, c < 128) ∧ y.cps.size ≤ sizeLine ∧
    ∀ s₂ : Shared, (∃ h, s₂ = { s₁ with heap := h }) → LCt.CompRestT prog w A h₀ L m env ct elt x scope cl s₂ (fun _ => True) (fun i v => ∃ c t, y.cps.toList[i]? = some c ∧ v = mkSign c t) (Fin s₂) y.cps.size 0 [] news
section
variable {prog : Program} {w : World} {A : Around} {E : Value → Shared → Prop} {s : Shared} {h₀ : Heap} {L : Addr} {m : Str → Option Value} {env : Env}
theorem walksS (hh : A.handled = none) (I : Addr) (y : Str) (t : Tok) : Walks prog w A I [I] [I] y.cps.size (fun i v => ∃ c t, y.cps.toList[i]? = some c ∧ v = mkSign c t) (fun i h => h.IsStrIter I "str_ascii_iterator" y t i) :=
  let W := Walks.strAscii (prog := prog) (w := w) (A := A) hh I y t
  { sub := W.sub, frame := W.frame, done := W.done, self := W.self,
    item := fun i s Q E hi st hQ => W.item i s Q E hi st fun v h' tk hP => hQ v h' tk (by obtain ⟨c, t, hc, rfl⟩ := hP; exact ⟨c, t, by simpa using hc, rfl⟩) }
theorem ListComp_S {elt iter : Expr} {x : Str} {px : Pos} {scope : Scope} {cl : List (Str × Addr)} {pos : Pos} {Q : Value → Shared → Prop} (F₀ : Fr h₀ L s.heap m)
    (hclos : closureFor scope env = pure cl) (hcell : ∀ y ∈ scope.names, y.2 ≠ .cell) (hkind : scope.kind = .function)
    (hnames : ∀ y ∈ scope.names, y.2 = .local → scope.names.lookup y.1 = some .local) (hx : scope.names.lookup x = some .local)
    (h : wpAny (model prog w) A (eval iter env) (SrcS prog w A h₀ L m env elt x scope cl (fun s₂ => LCg.FinE h₀ L m s₂ Q)) E s)
    (hs : ∀ x, foldedSetIterable iter env x = pure x := by intro _; rfl) :
    wpAny (model prog w) A (eval (.ListComp elt [⟨.Name x px, iter, [], 0⟩] scope pos) env) Q E s := by
  rw [eval_ListComp]
  refine wpAny_comprehension_free (use := none) rfl hs hclos hkind hnames (wpAny_mono h (fun xv s₁ h₁ => ?_) fun _ _ e => e)
  obtain ⟨y, ty, news, rfl, hh, F, N, ha, hsz, R⟩ := h₁
  have ha' : y.cps.all (· < 128) = true := by
    rw [← Array.all_toList, List.all_eq_true]
    intro c hc
    simpa using ha c hc
  refine wpAny_pyIter_ascii ha' ?_
  refine LCg.block_U (walksS hh s₁.heap.objs.size y ty) hsz (fun i h st => by obtain ⟨o, e, _⟩ := st; exact ⟨o, e⟩) (fun i h h' o nw st e e' _ _ _ => by obtain ⟨o', q, r⟩ := st; rw [e] at q; cases q; exact ⟨o, e', r⟩) hcell hkind hx ⟨_, Heap.get?_push_size _ rfl, rfl, rfl⟩ (fun b hb => ?_)
    (F.keeps fun _ _ e => Heap.get?_push_of_some _ e) (N.grown fun _ _ e => Heap.get?_push_of_some _ e) (Nat.ne_of_lt F.ns.lt) (next_is_new F) (fun p hp => Nat.ne_of_lt (Heap.lt_size (N p hp).1)) trivial (R _ ⟨_, rfl⟩) ?_
  · rw [List.mem_singleton.mp hb]
    show s₁.heap.objs.size < (s₁.heap.push _).objs.size
    rw [Heap.size_push]; exact Nat.lt_succ_self _
  · intro D C h tk m' ys news' F' N' o1 hn hC₀ hD₀ hCL hDL hCD offC fin
    refine ⟨m', hn, fun h'' hs'' => fin D h'' tk (F'.change hs'' hCL hC₀) (fun p hp => ?_) o1⟩
    refine ⟨hs''.extBut _ _ ?_ (N' p hp).1, (N' p hp).2⟩
    rcases List.mem_cons.mp hp with rfl | hp
    · exact Ne.symm hCD
    · exact offC p hp
theorem ListComp_ST {ct elt iter : Expr} {x : Str} {px : Pos} {scope : Scope} {cl : List (Str × Addr)} {pos : Pos} {Q : Value → Shared → Prop} (F₀ : Fr h₀ L s.heap m)
    (hclos : closureFor scope env = pure cl) (hcell : ∀ y ∈ scope.names, y.2 ≠ .cell) (hkind : scope.kind = .function)
    (hnames : ∀ y ∈ scope.names, y.2 = .local → scope.names.lookup y.1 = some .local) (hx : scope.names.lookup x = some .local)
    (h : wpAny (model prog w) A (eval iter env) (SrcST prog w A h₀ L m env ct elt x scope cl (fun s₂ => LCg.FinE h₀ L m s₂ Q)) E s)
    (hs : ∀ x, foldedSetIterable iter env x = pure x := by intro _; rfl) :
    wpAny (model prog w) A (eval (.ListComp elt [⟨.Name x px, iter, [ct], 0⟩] scope pos) env) Q E s := by
  rw [eval_ListComp]
  refine wpAny_comprehension_free (use := none) rfl hs hclos hkind hnames (wpAny_mono h (fun xv s₁ h₁ => ?_) fun _ _ e => e)
  obtain ⟨y, ty, news, rfl, hh, F, N, ha, hsz, R⟩ := h₁
  have ha' : y.cps.all (· < 128) = true := by
    rw [← Array.all_toList, List.all_eq_true]
    intro c hc
    simpa using ha c hc
  refine wpAny_pyIter_ascii ha' ?_
  refine LCt.block_T (walksS hh s₁.heap.objs.size y ty) hsz (fun i h st => by obtain ⟨o, e, _⟩ := st; exact ⟨o, e⟩) (fun i h h' o nw st e e' _ _ _ => by obtain ⟨o', q, r⟩ := st; rw [e] at q; cases q; exact ⟨o, e', r⟩) hcell hkind hx ⟨_, Heap.get?_push_size _ rfl, rfl, rfl⟩ (fun b hb => ?_)
    (F.keeps fun _ _ e => Heap.get?_push_of_some _ e) (N.grown fun _ _ e => Heap.get?_push_of_some _ e) (Nat.ne_of_lt F.ns.lt) (next_is_new F) (fun p hp => Nat.ne_of_lt (Heap.lt_size (N p hp).1)) trivial (R _ ⟨_, rfl⟩) ?_
  · rw [List.mem_singleton.mp hb]
    show s₁.heap.objs.size < (s₁.heap.push _).objs.size
    rw [Heap.size_push]; exact Nat.lt_succ_self _
  · intro D C h tk m' ys news' F' N' o1 hn hC₀ hD₀ hCL hDL hCD offC fin
    refine ⟨m', hn, fun h'' hs'' => fin D h'' tk (F'.change hs'' hCL hC₀) (fun p hp => ?_) o1⟩
    refine ⟨hs''.extBut _ _ ?_ (N' p hp).1, (N' p hp).2⟩
    rcases List.mem_cons.mp hp with rfl | hp
    · exact Ne.symm hCD
    · exact offC p hp
end
theorem isL_led {h₀ h : Heap} {L l : Addr} {news : List (Addr × Obj)} {vs : Array Value} {c : Nat} (N : News h₀ L h news) (hm : (l, listOf vs c) ∈ news) : h.IsList l vs := ⟨_, (N _ hm).1, rfl, c, rfl⟩
theorem occ_is {y : Str} {l : List Nat} {c : Nat} {b : Bool} (h : (Builtin.Str.occurrences y ⟨#[c]⟩ 0 y.length 1).isEmpty = b) (e : y.cps.toList = l) : decide (c ∈ l) = !b := by
  rw [← e, ← StrLaws.found_one, h]
theorem off1_own {D : Addr} {news : List (Addr × Obj)} (h : LCg.Off1 D news) : OwnOff news [D] := by
  intro p hp b hb
  rw [List.mem_singleton.mp hb]
  induction news with
  | nil => nomatch hp
  | cons q r ih =>
    rcases List.mem_cons.mp hp with rfl | hp
    · exact h.1
    · exact ih h.2 hp
theorem finE_of {h₀ : Heap} {L : Addr} {m : Str → Option Value} {s : Shared} {Q : Value → Shared → Prop} {ys : List Value} {news : List (Addr × Obj)}
    (h : ∀ D h tk, Fr h₀ L h m → News h₀ L h ((D, listOf ys.toArray ys.length) :: news) → LCg.Off1 D news → Q (.ref D) { s with heap := h, toks := tk }) : LCg.FinE h₀ L m s Q ys news := h
theorem finA_of {h₀ : Heap} {L : Addr} {m : Str → Option Value} {s : Shared} {y : Str} {Q : Flow → Shared → Prop} {ys : List Value} {news : List (Addr × Obj)}
    (h : ∀ D h tk, Fr h₀ L h (fun z => if z = y then some (.ref D) else m z) → News h₀ L h ((D, listOf ys.toArray ys.length) :: news) → LCg.Off1 D news → Q .next { s with heap := h, toks := tk }) : LCg.FinA h₀ L m s y Q ys news := h
end
local macro_rules | `(tactic| walk_at "SrcST") => `(tactic| (refine Hold.out ?_))
local macro_rules | `(tactic| walk_at "SrcS") => `(tactic| (refine Hold.out ?_))
local macro_rules | `(tactic| walk_at "CompEnd") => `(tactic| (refine Hold.out ?_))
local macro_rules | `(tactic| walk_at "my fin") => `(tactic| (intro D' h' tk' F' N' o1'; (try simp only [LCg.Off1, and_true] at o1'); (first | have oo' := off1_own o1' | have oo' := off1_own (And.right o1') | have oo' := off1_own (And.right (And.right o1')) | have oo' := off1_own (And.right (And.right (And.right o1'))) | have oo' := off1_own (And.right (And.right (And.right (And.right o1')))) | have oo' := off1_own (And.right (And.right (And.right (And.right (And.right o1'))))) | have oo' := off1_own (And.right (And.right (And.right (And.right (And.right (And.right o1')))))) | have oo' := off1_own (And.right (And.right (And.right (And.right (And.right (And.right (And.right o1'))))))) | have oo' := off1_own (And.right (And.right (And.right (And.right (And.right (And.right (And.right (And.right o1')))))))) | have oo' := off1_own (And.right (And.right (And.right (And.right (And.right (And.right (And.right (And.right (And.right o1'))))))))) | have oo' := off1_own (And.right (And.right (And.right (And.right (And.right (And.right (And.right (And.right (And.right (And.right o1')))))))))) | have oo' := off1_own (And.right (And.right (And.right (And.right (And.right (And.right (And.right (And.right (And.right (And.right (And.right o1'))))))))))) | skip); (try simp only [List.nil_append, List.cons_append] at N'); (try dsimp only)))
local macro_rules | `(tactic| walk_at "FinE") => `(tactic| (refine finE_of ?_; walk_at "my fin"))
local macro_rules | `(tactic| walk_at "FinA") => `(tactic| (refine finA_of ?_; walk_at "my fin"))
local macro_rules | `(tactic| walk_at "call builtin:len") => `(tactic| (k_here; (with_reducible show wpAny _ _ (call (Value.builtin "len") [Value.ref _]) _ _ _); (refine kst_len (by k_asm) (by k_mem) (by assumption) (by omega) ?_)))
/-! L_ext -/
section
theorem noI_list : fillsInplaceSlot (.type "list") "add" (Operator.Add == .Add) = pure false := by
  unfold fillsInplaceSlot
  show (typeLookup (.type "list") (dunderI "add") >>= fun fi => pure (fi.isSome && !isSeqSlot fi)) = pure false
  have h : typeLookup (.type "list") (dunderI "add") = pure (some (.builtin "list.__iadd__")) := F.slot_list_iadd.lookup
  have hs : isSeqSlot (some (.builtin "list.__iadd__")) = true := by decide +kernel
  rw [h, pure_bind, hs]
  rfl
theorem seqI_list : seqSlot? (.type "list") (dunderI "add") = pure (some (.builtin "list.__iadd__")) := PyProof.Rows.seqSlot_of F.slot_list_iadd.lookup (by decide +kernel)
section
variable {prog : Program} {w : World} {A : Around} {E : Value → Shared → Prop} {s : Shared} {h₀ : Heap} {L : Addr} {m : Str → Option Value} {news news' : List (Addr × Obj)} {Q : Value → Shared → Prop}
theorem iadd_list {l b : Addr} {items items2 : Array Value} {n n2 : Nat} (hl : IsL s.heap l items n) (hb : IsL s.heap b items2 n2) (hz : items.size + items2.size ≤ 100000)
    (h : Q (.ref l) { s with heap := s.heap.update l (Obj.mapSeq fun x => x ++ items2) }) : wpAny (model prog w) A (inplaceOp .Add (.ref l) (.ref b)) Q E s := by
  have ha : s.TypeIs (.ref l) "list" := ⟨_, hl, rfl⟩
  have hb' : s.TypeIs (.ref b) "list" := ⟨_, hb, rfl⟩
  unfold inplaceOp
  refine wpAny_holding ?_
  refine wpAny_bind (wpAny_typeOf ha (wpAny_bind (wpAny_of_eq noI_list ?_)))
  show wpAny _ A (if false = true then _ else _) Q E s
  rw [if_neg Bool.false_ne_true]
  refine wpAny_bind (wpAny_binaryOp1_none (nm := "add") ha hb' noFill_list_add ?_)
  refine wpAny_bind (wpAny_of_eq seqI_list ?_)
  have ht : ¬(!items.isEmpty && Builtin.List.listTooLong (items.size + items2.size)) = true := by
    unfold Builtin.List.listTooLong
    have hsl := sizeLine_eq
    have : ¬ (items.size + items2.size > sizeLine) := by rw [hsl]; omega
    simp only [decide_eq_false this, Bool.and_false]
    decide
  have hsl := sizeLine_eq
  exact wpAny_bind (wpAny_rule (call_meets F.slot_list_iadd ha F.entry_list_iadd (F.args_list_iadd_2 _ _) (AutoSeq1.list___iadd___list_list_0 l items n b items2 n2 ht (by omega) (by omega)) ⟨hl, hb, h⟩))
theorem iadd_K {D b : Addr} {vs ws : List Value} {n n2 : Nat} (F : Fr h₀ L s.heap m) (N : News h₀ L s.heap news) (hb : (b, listOf ws.toArray n2) ∈ news) (hne : ws.length ≠ 0)
    (U : Upd D (listOf vs.toArray n) (listOf (vs ++ ws).toArray (n + 1)) news news') (hz : vs.length + ws.length ≤ 100000)
    (h : ∀ h', Fr h₀ L h' m → News h₀ L h' news' → Q (.ref D) { s with heap := h' }) : wpAny (model prog w) A (inplaceOp .Add (.ref D) (.ref b)) Q E s := by
  obtain ⟨pre, post, rfl, rfl, a, c⟩ := U.split
  have z := N (D, listOf vs.toArray n) (List.mem_append.mpr (.inr (.head _)))
  refine iadd_list z.1 (N _ hb).1 (by simpa using hz) (h _ (F.change (Heap.SameBut.update ..) z.2.1 z.2.2) (kl_turn _ N a c ?_ ?_))
  · apply Array.toList_inj.mp
    simp
  · simp at hne ⊢
    exact hne
end
end
/-! L_last -/
section
section
variable {prog : Program} {w : World} {A : Around} {E : Value → Shared → Prop} {s : Shared}
variable {h₀ : Heap} {L D : Addr} {m : Str → Option Value} {news news' : List (Addr × Obj)} {ws : List Value} {y v : Value} {n : Nat} {u : Tok}
theorem snoc_at {ws : List Value} {y : Value} : (ws ++ [y]).toArray[((-1 : Int) + (ws ++ [y]).toArray.size).toNat]? = some y := by
  have e : ((-1 : Int) + (ws ++ [y]).toArray.size).toNat = ws.length := by
    simp only [List.size_toArray, List.length_append, List.length_cons, List.length_nil]; omega
  rw [e]; simp
theorem getItem_snoc {Q : Value → Shared → Prop} (N : News h₀ L s.heap news) (hm : (D, listOf (ws ++ [y]).toArray n) ∈ news) (h : Q y s) : wpAny (model prog w) A (getItem (.ref D) (.int (-1) u)) Q E s :=
  wpAny_getItem_list_neg (PySem.IsL.isList (n := n) (N _ hm).1) (by decide) (by simp only [List.size_toArray, List.length_append, List.length_cons, List.length_nil]; omega) (by decide) snoc_at h
theorem setItem_snoc {Q : Unit → Shared → Prop} (F : Fr h₀ L s.heap m) (N : News h₀ L s.heap news) (U : Upd D (listOf (ws ++ [y]).toArray n) (listOf (ws ++ [v]).toArray n) news news')
    (h : ∀ h', Fr h₀ L h' m → News h₀ L h' news' → Q () { s with heap := h' }) : wpAny (model prog w) A (setItem (.ref D) (.int (-1) u) v) Q E s := by
  obtain ⟨pre, post, rfl, rfl, a, b⟩ := U.split
  have z := N (D, listOf (ws ++ [y]).toArray n) (List.mem_append.mpr (.inr (.head _)))
  have e : ((-1 : Int) + (ws ++ [y]).toArray.size).toNat = ws.length := by
    simp only [List.size_toArray, List.length_append, List.length_cons, List.length_nil]; omega
  refine ki_setBack z.1 (by decide) (by simp only [List.size_toArray, List.length_append, List.length_cons, List.length_nil]; omega) (by decide) (h _ (F.change (Heap.SameBut.update ..) z.2.1 z.2.2) (ki_turn _ N a b ?_ ?_))
  · show (ws ++ [y]).toArray.setIfInBounds _ v = _
    rw [e]
    apply Array.toList_inj.mp
    simp
  · simp
/-- an item of a tuple of texts at an open place -/
theorem item_texts {R : Addr} {vs : List Value} {xs : List Str} {k : Int} {value slice : PySem.Expr} {Q : Value → Shared → Prop} (N : News h₀ L s.heap news) (hm : (R, ({ cls := .type "tuple", data := .seq vs.toArray n } : Obj)) ∈ news) (hS : StrsAre vs xs)
    (h0 : 0 ≤ k) (h1 : k < xs.length) (hfit : k < 2 ^ 63) (h : ∀ t, Q (.str (xs.getD k.toNat Str.empty) t) s)
    (hs : subscripted slice false (.ref R) (.int k u) = operate [.ref R, .int k u] (getItem (.ref R) (.int k u)) := by with_unfolding_all rfl) :
    wpAny (model prog w) A (subscriptTail value slice (.ref R) (.int k u)) Q E s := by
  have hk : k.toNat < vs.length := by rw [hS.length]; omega
  obtain ⟨x, t, hx, e⟩ := (Made.ofStrs hS).at k.toNat _ (List.getElem?_eq_getElem hk)
  have ht : IsTup s.heap R vs.toArray := ⟨_, (N _ hm).1, rfl, n, rfl⟩
  refine item_tupleT (j := k.toNat) (x := .str x t) ht (by omega) hfit ?_ (by rw [List.getElem?_eq_getElem hk, e]) ?_ hs
  · unfold seqIndex?
    have hvl := hS.length
    have hn : ¬ k < 0 := by omega
    simp only [hn, if_false]
    rw [if_pos (by simp only [Bool.and_eq_true, decide_eq_true_eq]; omega)]
  · have := h t
    rw [List.getD_eq_getElem?_getD, hx] at this
    exact this
end
theorem add_led {prog : Program} {w : World} {A : Around} {E : Value → Shared → Prop} {s : Shared} {h₀ : Heap} {L a b : Addr} {m : Str → Option Value} {news : List (Addr × Obj)} {vs us : List Value} {c d : Nat} {Q : Value → Shared → Prop} (F : Fr h₀ L s.heap m) (N : News h₀ L s.heap news)
    (hm : (a, listOf vs.toArray c) ∈ news) (hb : (b, listOf us.toArray d) ∈ news) (hz : vs.length + us.length ≤ 100000)
    (h : ∀ D h', Fr h₀ L h' m → News h₀ L h' ((D, listOf (vs ++ us).toArray 0) :: news) → (∀ p ∈ news, p.1 < D) → Q (.ref D) { s with heap := h' }) : wpAny (model prog w) A (binaryOp .Add (.ref a) (.ref b)) Q E s :=
  add_arrays (hsz := by simp only [List.size_toArray]; rw [sizeLine_eq]; omega) F N (isL_led N hm) (isL_led N hb) fun h' F' N' => h _ h' F' N' fun p hp => Heap.lt_size (N p hp).1
theorem strs_take : ∀ {vs : List Value} {xs : List Str}, StrsAre vs xs → ∀ k, StrsAre (vs.take k) (xs.take k)
  | _, _, h, 0 => .nil
  | _, _, .nil, _ + 1 => .nil
  | _, _, .cons y t h, k + 1 => .cons y t (strs_take h k)
theorem strs_drop : ∀ {vs : List Value} {xs : List Str}, StrsAre vs xs → ∀ k, StrsAre (vs.drop k) (xs.drop k)
  | _, _, h, 0 => h
  | _, _, .nil, _ + 1 => .nil
  | _, _, .cons _ _ h, k + 1 => strs_drop h k
section
variable {prog : Program} {w : World} {A : Around} {E : Value → Shared → Prop} {s : Shared} {h₀ : Heap} {L l : Addr} {m : Str → Option Value} {news : List (Addr × Obj)} {vs : List Value} {xs : List Str} {c k : Nat} {t : Tok} {value slice : PySem.Expr} {Q : Value → Shared → Prop}
theorem take_led {j : Int} (hj : j = (k : Int)) (F : Fr h₀ L s.heap m) (N : News h₀ L s.heap news) (hm : (l, listOf vs.toArray c) ∈ news) (hS : StrsAre vs xs) (hx : xs.length ≤ 1000)
    (h : ∀ D ws h', Fr h₀ L h' m → News h₀ L h' ((D, listOf (List.toArray ws) 0) :: news) → (∀ p ∈ news, p.1 < D) → StrsAre ws (xs.take k) → ws.length ≤ xs.length → Q (.ref D) { s with heap := h' })
    (hs : subscripted slice false (.ref l) (.ref s.heap.objs.size) = operate [.ref s.heap.objs.size, .ref l] (getItem (.ref l) (.ref s.heap.objs.size))) (ht : ∀ r, letTemporaryGo value (.ref l) r = pure ()) :
    wpAny (model prog w) A (subscriptTail value slice (.ref l) (.ref s.heap.objs.size)) Q E { s with heap := s.heap.push { cls := .type "slice", data := .fields #[.none, .int j t, .none] } } := by
  subst hj
  have hl := hS.length
  refine kmk_slice F N (isL_led N hm) IsPart.none (IsPart.int _ _) (fun D h' F' N' l1 => h D (vs.take k) h' F' ?_ l1 (strs_take hS k) (by rw [List.length_take]; omega)) hs ht (by rw [sizeLine_eq, List.size_toArray]; omega)
  rw [slicePick_upto'] at N'
  exact N'
theorem drop_led {j : Int} (hj : j = (k : Int)) (F : Fr h₀ L s.heap m) (N : News h₀ L s.heap news) (hm : (l, listOf vs.toArray c) ∈ news) (hS : StrsAre vs xs) (hx : xs.length ≤ 1000)
    (h : ∀ D ws h', Fr h₀ L h' m → News h₀ L h' ((D, listOf (List.toArray ws) 0) :: news) → (∀ p ∈ news, p.1 < D) → StrsAre ws (xs.drop k) → ws.length ≤ xs.length → Q (.ref D) { s with heap := h' })
    (hs : subscripted slice false (.ref l) (.ref s.heap.objs.size) = operate [.ref s.heap.objs.size, .ref l] (getItem (.ref l) (.ref s.heap.objs.size))) (ht : ∀ r, letTemporaryGo value (.ref l) r = pure ()) :
    wpAny (model prog w) A (subscriptTail value slice (.ref l) (.ref s.heap.objs.size)) Q E { s with heap := s.heap.push { cls := .type "slice", data := .fields #[.int j t, .none, .none] } } := by
  subst hj
  have hl := hS.length
  refine kmk_slice F N (isL_led N hm) (IsPart.int _ _) IsPart.none (fun D h' F' N' l1 => h D (vs.drop k) h' F' ?_ l1 (strs_drop hS k) (by rw [List.length_drop]; omega)) hs ht (by rw [sizeLine_eq, List.size_toArray]; omega)
  rw [slicePick_from'] at N'
  exact N'
end
end
/-! P_work -/
section
theorem top_off_P_work : True := by
  w_top off
  trivial
/-- what a place's letter is worth -/
def worthZ (p : Int) (c : Nat) : Int := (if c ∈ [114, 119, 120, 115, 116] then 2 ^ (9 - p).toNat else 0) + (if c ∈ [115, 83, 116, 84] then 2 ^ (12 - p.fdiv 3).toNat else 0)
theorem worth_tell {w loose mean mg mb news} (p : Int) (tp : Tok) (c : Nat) (tx : Tok) (h0 : 0 ≤ p) (h1 : p < 10) : Tell 1 w loose mean mg mb 188 news [.int p tp, .str ⟨#[c]⟩ tx] [] (fun t => .int (worthZ p c) t) := by
  unfold Tell
  k_fill
  intro dp un cn cs a ccd cl outer A₀ base h₀ L m s Q E B F X N T hk hd hu hret
  have hx : (⟨#[c]⟩ : Str).length = 1 := rfl
  refine wpAny_call ?_
  k_dflt walk_at "my enter"
  k_steps
  all_goals (refine retI hret ?_ (by k_asm) (by k_asm))
  all_goals
    intro t
    (rename (Builtin.Str.occurrences (Str.ofString "rwxst") _ 0 _ 1).isEmpty = _ => hA)
    (rename (Builtin.Str.occurrences (Str.ofString "sStT") _ 0 _ 1).isEmpty = _ => hB)
    have eA := occ_is hA (l := [114, 119, 120, 115, 116]) (by decide +kernel)
    have eB := occ_is hB (l := [115, 83, 116, 84]) (by decide +kernel)
    congr 1
    unfold worthZ
    simp only [Bool.not_true, Bool.not_false, decide_eq_true_eq, decide_eq_false_iff_not] at eA eB
    first | rw [if_pos eA] | rw [if_neg eA]
    first | rw [if_pos eB] | rw [if_neg eB]
    try omega
end
/-! P_fill -/
section
theorem top_off_P_fill : True := by
  w_top off
  trivial
def fillT (x : Str) : Str := Txt.mul (Str.ofString "A") ((-(x.length : Int)).fmod 4)
theorem fill_tell {w loose mean mg mb news} (x : Str) (tx : Tok) (hx : x.length ≤ 1000) : Tell 1 w loose mean mg mb 176 news [.str x tx] [] (fun t => .str (fillT x) t) := by
  unfold Tell
  k_fill
  intro dp un cn cs a ccd cl outer A₀ base h₀ L m s Q E B F X N T hk hd hu hret
  refine wpAny_call ?_
  k_dflt walk_at "my enter"
  k_steps
  all_goals exact hret _ _ _ (by k_asm) (by k_asm)
end
/-! P_safe -/
section
theorem top_off_P_safe : True := by
  w_top off
  trivial
/-- the text of a list of texts -/
def lsT (xs : List Str) : Str := (PyData.list (xs.map .str)).shown
theorem repr_strs {prog : Program} {w : World} {A : Around} {E : Value → Shared → Prop} {s : Shared} {h₀ : Heap} {L l : Addr} {m : Str → Option Value} {news : List (Addr × Obj)} {Q : Value → Shared → Prop} {vs : List Value} {xs : List Str} {c : Nat}
    (F : Fr h₀ L s.heap m) (N : News h₀ L s.heap news) (hm : (l, listOf vs.toArray c) ∈ news) (hS : StrsAre vs xs) (hz : (lsT xs).length ≤ 1000) (hg : A.guards = some []) (hu : A.units + 20 < cLine)
    (h : ∀ h' u tk, Fr h₀ L h' m → News h₀ L h' news → Q (.str (lsT xs) u) { s with heap := h', toks := tk }) : wpAny (model prog w) A (call (.builtin "repr") [.ref l]) Q E s := by
  have r : Reads s.heap (.ref l) (.list (xs.map .str)) _ := Reads.list (N.get hm) rfl rfl ((hS.carried).reads s.heap)
  refine repr_HN F N r ?_ ?_ hg ?_ h ?_
  · simp only [PyData.hasDict]
    clear hz h r hm hS
    induction xs with
    | nil => rfl
    | cons x xs ih => simp only [List.map_cons, PyData.hasDictAll, PyData.hasDict, ih, Bool.or_self]
  · simp only [PyData.showable]; exact PyData.showableAll_strs _
  · have hd : (PyData.list (xs.map .str)).depth ≤ 2 := by
      clear hz h r hm hS
      simp only [PyData.depth]
      have : ∀ xs : List Str, PyData.depthAll (xs.map .str) ≤ 1 := by
        intro xs
        induction xs with
        | nil => simp [PyData.depthAll]
        | cons x xs ih => simp only [List.map_cons, PyData.depthAll, PyData.depth]; omega
      have := this xs
      omega
    omega
  · show (lsT xs).length ≤ _
    rw [sizeLine_eq]; omega
local macro_rules | `(tactic| walk_at "call builtin:repr") => `(tactic| (k_here; (with_reducible show wpAny _ _ (call (Value.builtin _) [Value.ref _]) _ _ _); (refine repr_strs (by k_asm) (by k_asm) (by assumption) (by assumption) (by assumption) (by with_unfolding_all rfl) (by units_room) ?_); intro h9 u9 tk9 F9 N9))
theorem safe_tell {w loose mean mg mb news} (l : Addr) (vs : List Value) (xs : List Str) (c : Nat) (hm : (l, listOf vs.toArray c) ∈ news) (hS : StrsAre vs xs) (hz : (lsT xs).length ≤ 1000) :
    Tell 3 w loose mean mg mb 29 news [.ref l] [] (fun t => .str (lsT xs) t) := by
  unfold Tell
  k_fill
  intro dp un cn cs a ccd cl outer A₀ base h₀ L m s Q E B F X N T hk hd hu hret
  refine wpAny_call ?_
  k_dflt walk_at "my enter"
  k_steps
  all_goals exact hret _ _ _ (by k_asm) (by k_asm)
def shT (xs : List Str) : Str := if ((lsT xs).length : Int) < 80 then lsT xs else Txt.slice (lsT xs) none (some 80) ++ Str.ofString " [truncated]..."
theorem shT_lo {xs : List Str} (h : ((lsT xs).length : Int) < 80) : shT xs = lsT xs := if_pos h
theorem shT_hi {xs : List Str} (h : ¬ ((lsT xs).length : Int) < 80) : shT xs = Txt.slice (lsT xs) none (some 80) ++ Str.ofString " [truncated]..." := if_neg h
theorem safe2_tell {w loose mean mg mb news} (l : Addr) (vs : List Value) (xs : List Str) (c : Nat) (hm : (l, listOf vs.toArray c) ∈ news) (hS : StrsAre vs xs) (hz : (lsT xs).length ≤ 1000) :
    Tell 3 w loose mean mg mb 29 news [.ref l, .bool true] [] (fun t => .str (shT xs) t) := by
  unfold Tell
  k_fill
  intro dp un cn cs a ccd cl outer A₀ base h₀ L m s Q E B F X N T hk hd hu hret
  refine wpAny_call ?_
  k_dflt walk_at "my enter"
  k_steps
  · rw [← shT_lo (by assumption)]
    exact hret _ _ _ (by k_asm) (by k_asm)
  · rw [← shT_hi (by assumption)]
    exact hret _ _ _ (by k_asm) (by k_asm)
end
/-! P_let -/
section
theorem top_off_P_let : True := by
  w_top off
  trivial
local macro_rules | `(tactic| walk_at "eval ListComp") => `(tactic| (refine Hold.out ?_))
local macro_rules | `(tactic| walk_at "call builtin:str.join") => `(tactic| (k_here; (with_reducible show wpAny _ _ (call (Value.builtin _) [Value.str _ _, Value.ref _]) _ _ _); first | (refine join_list (isL_led (by k_asm) (by assumption)) (by assumption) (by assumption) ?_; intro t9 k9) | (refine Hold.out ?_)))
def lettersOf (xs : List Str) : List Nat := (Txt.join (Str.ofString "") xs).cps.toList.filter fun c => !decide (c ∈ [45, 63])
def signsT (l : List Nat) : Str := Txt.join (Str.ofString "") (l.map fun c => (⟨#[c]⟩ : Str))
theorem letters_tell {w loose mean mg mb news} (l : Addr) (vs : List Value) (xs : List Str) (c : Nat) (hm : (l, listOf vs.toArray c) ∈ news) (hS : StrsAre vs xs) (hz : (Txt.join (Str.ofString "") xs).length ≤ 1000) (hlen : (xs.map (·.length)).sum + xs.length * (Str.ofString "").length ≤ 16777216) (ha : ∀ c ∈ (Txt.join (Str.ofString "") xs).cps.toList, c < 128) :
    Tell 3 w loose mean mg mb 169 news [.ref l] [] (fun t => .str (signsT (lettersOf xs)) t) := by
  unfold Tell
  k_fill
  intro dp un cn cs a ccd cl outer A₀ base h₀ L m s Q E B F X N T hk hd hu hret
  refine wpAny_call ?_
  k_dflt walk_at "my enter"
  k_steps
  refine ⟨?_⟩
  refine ListComp_ST (F₀ := by k_asm) (by with_unfolding_all rfl) (by decide) (by rfl) (by decide) (by rfl) ?_
  k_steps
  refine ⟨?_⟩
  refine ⟨_, _, news, rfl, rfl, by k_asm, by k_asm, ha, by rw [sizeLine_eq]; exact Nat.le_trans hz (by decide), ?_⟩
  rintro s₂ ⟨g2, rfl⟩
  refine rest_filter (as := (Txt.join (Str.ofString "") xs).cps.toList) (mk := mkSign) (fun c => !decide (c ∈ [45, 63])) (by simp) (fun i v _ h => h) ?_ ?_
  · intro a₁ t₁ I oI C oC D m₂ ys h tk E' hmem hC hx F' N' off ne
    dsimp only [mkSign] at hx
    have hl1 : (⟨#[a₁]⟩ : Str).length = 1 := rfl
    try k_fold
    k_steps
    all_goals
      refine ⟨?_⟩
      (rename (Builtin.Str.occurrences _ _ 0 _ 1).isEmpty = _ => hA)
      have eA := occ_is hA (l := [45, 63]) (by decide +kernel)
      first
        | exact LCg.CompEnd.intro (by assumption) (by assumption) news (fun p hp => hp) off trivial ⟨rfl, by rw [eA]; rfl, _, rfl⟩
        | exact LCg.CompEnd.intro (by assumption) (by assumption) news (fun p hp => hp) off trivial ⟨rfl, by rw [eA]; rfl⟩
  · intro ys hys
    have hS2 := hys.signs
    have hL2 : ((((Txt.join (Str.ofString "") xs).cps.toList.filter (fun c => !decide (c ∈ [45, 63]))).map fun c => (⟨#[c]⟩ : Str)).map (·.length)).sum + (((Txt.join (Str.ofString "") xs).cps.toList.filter (fun c => !decide (c ∈ [45, 63]))).map fun c => (⟨#[c]⟩ : Str)).length * (Str.ofString "").length ≤ 16777216 := by
      have h1 : ((Txt.join (Str.ofString "") xs).cps.toList.filter (fun c => !decide (c ∈ [45, 63]))).length ≤ 1000 := Nat.le_trans (List.length_filter_le _ _) (by rw [Array.length_toList]; exact hz)
      rw [sumLen_of_ones _ (by intro x hx; obtain ⟨c, _, rfl⟩ := List.mem_map.mp hx; rfl), List.length_map]
      have h2 : (Str.ofString "").length = 0 := by decide
      rw [h2]
      omega
    k_steps
    refine ⟨?_⟩
    refine join_list (isL_led (by assumption) (.head _)) hS2 hL2 ?_
    intro t9 k9
    try dsimp only
    k_steps
    exact hret _ _ _ (by k_asm) (cb_drop (by assumption) (by intro p hp; exact .tail _ hp))
end
/-! P_oct -/
section
theorem top_off_P_oct : True := by
  w_top off
  trivial
local macro_rules | `(tactic| walk_at "eval ListComp") => `(tactic| (refine Hold.out ?_))
local macro_rules | `(tactic| walk_at "exec For Name Call cons nil") => `(tactic| (refine Hold.out ?_))
def alphaT : Str := Str.ofString "ABCDEFGHIJKLMNOPQRSTUVWXYZabcdefghijklmnopqrstuvwxyz0123456789+/"
def figZ (c : Nat) : Int := Txt.find alphaT ⟨#[c]⟩
def quadV (fs : List Int) (i : Nat) : Int := fs.getD (4 * i) 0 * 262144 + fs.getD (4 * i + 1) 0 * 4096 + fs.getD (4 * i + 2) 0 * 64 + fs.getD (4 * i + 3) 0
def octL (fs : List Int) : Nat → List Int
  | 0 => []
  | i + 1 => octL fs i ++ [(quadV fs i).fdiv 65536, ((quadV fs i).fdiv 256).fmod 256, (quadV fs i).fmod 256]
def ofr (y : Str) (ty : Tok) (D lo : Addr) (vk vv : Option Value) : Str → Option Value := fun z => if z = Str.ofString "value" then vv else if z = Str.ofString "k" then vk else if z = Str.ofString "figures" then some (.ref D) else if z = Str.ofString "octets" then some (.ref lo) else if z = Str.ofString "letters" then some (.str y ty) else none
theorem ofr_start {mb : Str → Option Value} {y : Str} {ty : Tok} {D lo : Addr} (hb : mb = fun z => if z = Str.ofString "letters" then some (.str y ty) else none) :
    (fun z => if z = Str.ofString "figures" then some (.ref D) else if z = Str.ofString "octets" then some (.ref lo) else mb z) = ofr y ty D lo none none := by
  subst hb
  funext z
  unfold ofr
  have e1 : ¬ (Str.ofString "value" = Str.ofString "figures") := by decide
  have e2 : ¬ (Str.ofString "value" = Str.ofString "octets") := by decide
  have e3 : ¬ (Str.ofString "value" = Str.ofString "letters") := by decide
  have e4 : ¬ (Str.ofString "k" = Str.ofString "figures") := by decide
  have e5 : ¬ (Str.ofString "k" = Str.ofString "octets") := by decide
  have e6 : ¬ (Str.ofString "k" = Str.ofString "letters") := by decide
  (repeat' split) <;> simp_all
theorem led_names3 {h₀ h : Heap} {L l d : Addr} {p : Addr × Obj} {o o2 : Obj} {news : List (Addr × Obj)} (N : News h₀ L h (p :: (l, o) :: (d, o2) :: news)) : ∃ l' d', l' = l ∧ d' = d ∧ News h₀ L h (p :: (l', o) :: (d', o2) :: news) := ⟨_, _, rfl, rfl, N⟩
def OctJ (y : Str) (ty : Tok) (D lo : Addr) (fs : List Int) (p : Addr × Obj) (rest : List (Addr × Obj)) (i : Nat) (m' : Str → Option Value) (news' : List (Addr × Obj)) : Prop :=
  ∃ vk vv vs c, m' = ofr y ty D lo vk vv ∧ news' = p :: (lo, listOf vs.toArray c) :: rest ∧ IntsAre vs (octL fs i) ∧ vs.length = 3 * i
theorem octL_len (fs : List Int) : ∀ i, (octL fs i).length = 3 * i
  | 0 => rfl
  | i + 1 => by rw [octL, List.length_append, octL_len fs i]; simp only [List.length_cons, List.length_nil]; omega
theorem range4_size {n : Nat} (h : n % 4 = 0) : Builtin.Range.rangeSize 0 (n : Int) 4 = ((n / 4 : Nat) : Int) := by
  rw [rangeSize_pos (by decide) (by omega)]
  omega
theorem range4_small {n : Nat} (h : n ≤ 1000) : Builtin.Range.small 0 (n : Int) 4 = true := by
  have e := rangeSize_pos (len := (n : Int)) (c := 4) (by decide) (by omega)
  have e2 : 0 ≤ ((n : Int) + 4 - 1) / 4 := by omega
  have e3 : ((n : Int) + 4 - 1) / 4 ≤ 1003 := by omega
  unfold Builtin.Range.small
  rw [e]
  generalize ((n : Int) + 4 - 1) / 4 = q at e2 e3 ⊢
  have f : ∀ z : Int, 0 ≤ z → z ≤ 2000 → Builtin.Range.rangeFitsLong z = true := by
    intro z h1 h2
    unfold Builtin.Range.rangeFitsLong
    simp only [Bool.and_eq_true, decide_eq_true_eq]
    omega
  rw [f 0 (by decide) (by decide), f n (by omega) (by omega), f 4 (by decide) (by decide), f q e2 (by omega), if_pos (by decide), f _ (by omega) (by omega)]
  simp
theorem item_fig {prog : Program} {w : World} {A : Around} {E : Value → Shared → Prop} {s : Shared} {h₀ : Heap} {L D : Addr} {news : List (Addr × Obj)} {value slice : PySem.Expr} {Q : Value → Shared → Prop} {vs : List Value} {c : Nat} {fs : List Int} {k : Int} {u : Tok}
    (N : News h₀ L s.heap news) (hm : (D, listOf vs.toArray c) ∈ news) (hi : IntsAre vs fs) (hb : ∀ v ∈ fs, 0 ≤ v ∧ v < 64) (h0 : 0 ≤ k) (h1 : k < fs.length) (hfit : k < 2 ^ 63) (h : ∀ t, 0 ≤ fs.getD k.toNat 0 → fs.getD k.toNat 0 < 64 → Q (.int (fs.getD k.toNat 0) t) s)
    (hs : subscripted slice false (.ref D) (.int k u) = operate [.ref D, .int k u] (getItem (.ref D) (.int k u)) := by with_unfolding_all rfl) :
    wpAny (model prog w) A (subscriptTail value slice (.ref D) (.int k u)) Q E s := by
  have hl : s.heap.IsList D vs.toArray := isL_led N hm
  have hk : k.toNat < fs.length := by omega
  obtain ⟨v, hv⟩ : ∃ v, fs[k.toNat]? = some v := ⟨fs[k.toNat], by simp [hk]⟩
  have hk2 : k.toNat < vs.length := by rw [hi.length]; exact hk
  obtain ⟨n, t, e, hn⟩ := IntsAre.at hi k.toNat (vs[k.toNat]) (by simp [hk2])
  have eg : fs.getD k.toNat 0 = n := by rw [List.getD_eq_getElem?_getD, hn]; rfl
  have hbn := hb n (List.mem_of_getElem? hn)
  refine tail_any hl.typeIs slot_list_getitem.lookup (wpAny_getItem_list hl h0 hfit (x := .int n t) (by simp [hk2, e]) ?_) hs
  rw [← eg] at hbn ⊢
  exact h t hbn.1 hbn.2
local macro_rules | `(tactic| walk_at "subscriptTail") => `(tactic| (k_here; (with_reducible show wpAny _ _ (subscriptTail _ _ (Value.ref _) (Value.int _ _)) _ _ _); (refine item_fig (by k_asm) (by k_mem) (by assumption) (by assumption) (by omega) (by omega) (by omega) ?_); intro t9 hlo9 hhi9))
local macro_rules | `(tactic| walk_at "inplaceOp Add ref") => `(tactic| (k_here; (with_reducible show wpAny _ _ (inplaceOp Operator.Add (Value.ref _) (Value.ref _)) _ _ _); (refine' iadd_K ?F ?N ?b ?ne ?U ?z ?_; (case F => k_asm); (case N => k_asm); (case b => k_mem); (case ne => exact Nat.succ_ne_zero _); (case U => k_upd); (case z => ((try simp only [List.length_cons, List.length_nil]); omega))); intro h' F' N'))
theorem ofr_end {y : Str} {ty : Tok} {D lo : Addr} {vk vv wk wv : Option Value} : (fun z => if z = Str.ofString "octets" then some (.ref lo) else if z = Str.ofString "value" then wv else if z = Str.ofString "k" then wk else ofr y ty D lo vk vv z) = ofr y ty D lo wk wv := by
  funext z
  unfold ofr
  have e1 : ¬ (Str.ofString "octets" = Str.ofString "value") := by decide
  have e2 : ¬ (Str.ofString "octets" = Str.ofString "k") := by decide
  have e3 : ¬ (Str.ofString "octets" = Str.ofString "figures") := by decide
  (repeat' split) <;> simp_all
theorem quad_at {fs : List Int} {i : Nat} {a b c d : Int} (ha : a.toNat = 4 * i) (hb : b.toNat = 4 * i + 1) (hc : c.toNat = 4 * i + 2) (hd : d.toNat = 4 * i + 3) :
    fs.getD a.toNat 0 * 262144 + fs.getD b.toNat 0 * 4096 + fs.getD c.toNat 0 * 64 + fs.getD d.toNat 0 = quadV fs i := by
  rw [ha, hb, hc, hd]; rfl
theorem quad_range {fs : List Int} (hb : ∀ v ∈ fs, 0 ≤ v ∧ v < 64) (i : Nat) : 0 ≤ quadV fs i ∧ quadV fs i < 16777216 := by
  have g : ∀ j, 0 ≤ fs.getD j 0 ∧ fs.getD j 0 < 64 := by
    intro j
    rw [List.getD_eq_getElem?_getD]
    cases h : fs[j]? with
    | none => simp
    | some v => exact hb v (List.mem_of_getElem? h)
  have h0 := g (4 * i)
  have h1 := g (4 * i + 1)
  have h2 := g (4 * i + 2)
  have h3 := g (4 * i + 3)
  unfold quadV
  omega
theorem octL_range {fs : List Int} (hb : ∀ v ∈ fs, 0 ≤ v ∧ v < 64) : ∀ i, ∀ v ∈ octL fs i, 0 ≤ v ∧ v < 256
  | 0, v, h => nomatch h
  | i + 1, v, h => by
    rcases List.mem_append.mp h with h | h
    · exact octL_range hb i v h
    · have q := quad_range hb i
      simp only [Int.fdiv_eq_ediv_of_nonneg _ (show (0 : Int) ≤ 65536 by decide), Int.fdiv_eq_ediv_of_nonneg _ (show (0 : Int) ≤ 256 by decide), Int.fmod_eq_emod_of_nonneg _ (show (0 : Int) ≤ 256 by decide), List.mem_cons, List.not_mem_nil, or_false] at h
      rcases h with rfl | rfl | rfl <;> omega
theorem oct_end {g h' : Heap} {L : Addr} {y : Str} {ty : Tok} {D lo : Addr} {fs : List Int} {p : Addr × Obj} {rest own news' : List (Addr × Obj)} {i tk c : Nat} {vk vv : Option Value} {vs : List Value} {q : Int} {t1 t2 t3 : Tok} {o : Obj} {s₁ : Shared}
    (eF : Fr g L h' (ofr y ty D lo vk vv)) (eN : News g L h' news') (hin : (lo, listOf (vs ++ [Value.int (q.fdiv 65536) t1, Value.int ((q.fdiv 256).fmod 256) t2, Value.int (q.fmod 256) t3]).toArray c) ∈ news') (hp : p ∈ news') (hr : ∀ x ∈ rest, x ∈ news') (ho : ∀ x ∈ own, x ∈ news')
    (hS : IntsAre vs (octL fs i)) (hcl : vs.length = 3 * i) (hq : q = quadV fs i) : InvEndN g L (OctJ y ty D lo fs p rest (i + 1)) own (List.map (fun x => x.fst) (p :: (lo, o) :: rest)) s₁ { s₁ with heap := h', toks := tk } := by
  subst hq
  refine InvEndN.intro eF eN ⟨vk, vv, _, c, rfl, rfl, ?_, ?_⟩ rfl (List.forall_mem_cons.mpr ⟨hp, List.forall_mem_cons.mpr ⟨hin, hr⟩⟩) ho
  · exact IntsAre.append hS (.cons _ _ (.cons _ _ (.cons _ _ .nil)))
  · rw [List.length_append, hcl]; simp only [List.length_cons, List.length_nil]; omega
theorem octets_tell {w loose mean mg mb news} (y : Str) (ty : Tok) (hz : y.length ≤ 1000) (h4 : y.length % 4 = 0) (ha : ∀ c ∈ y.cps.toList, c < 128) (hfig : ∀ c ∈ y.cps.toList, 0 ≤ figZ c ∧ figZ c < 64) :
    Tell 3 w loose mean mg mb 181 news [.str y ty] [] (fun t => .bytes (byteArr (octL (y.cps.toList.map figZ) (y.length / 4))) t) := by
  unfold Tell
  k_fill
  intro dp un cn cs a ccd cl outer A₀ base h₀ L m s Q E B F X N T hk hd hu hret
  have hMk := kstMark
  refine wpAny_call ?_
  k_dflt walk_at "my enter"
  k_steps
  refine ⟨?_⟩
  refine ListComp_S (F₀ := by k_asm) (by with_unfolding_all rfl) (by decide) (by rfl) (by decide) (by rfl) ?_
  k_steps
  refine ⟨?_⟩
  refine ⟨_, _, _, rfl, rfl, by k_asm, by k_asm, ha, by rw [sizeLine_eq]; exact Nat.le_trans hz (by decide), ?_⟩
  rintro s₂ ⟨g2, rfl⟩
  refine rest_map (as := y.cps.toList) (mk := mkSign) (mkb := Value.int) figZ (by simp) (fun i v _ h => h) ?_ ?_
  · intro a₁ t₁ I oI C oC D m₂ ys h tk E' hmem hC hx F' N' off ne
    dsimp only [mkSign] at hx
    have hl1 : (⟨#[a₁]⟩ : Str).length = 1 := rfl
    try k_fold
    k_steps
    refine ⟨?_⟩
    exact LCg.CompEnd.intro (by assumption) (by assumption) _ (fun p hp => hp) off trivial ⟨rfl, _, rfl⟩
  · intro ys hys
    have hI2 := hys.ints
    have hyl : ys.length = y.length := by
      rw [hys.length, List.length_map, Array.length_toList]; rfl
    k_steps
    refine ⟨?_⟩
    refine wpAny_For ?_
    k_steps
    (rename Fr _ _ _ _ => lF'); (rename News _ _ _ _ => lN)
    obtain ⟨lo, D, rfl, rfl, lN⟩ := led_names3 lN
    obtain ⟨g, m₀, rfl, hm0, lF⟩ := fr_names lF'
    have hm := hm0.trans (ofr_start (y := y) (ty := ty) (by with_unfolding_all rfl))
    clear hm0 lF'
    subst hm
    (rename IsRange _ _ _ _ _ _ _ _ => hR)
    have hbnd : ∀ v ∈ y.cps.toList.map figZ, 0 ≤ v ∧ v < 64 := by
      intro v hv
      obtain ⟨c, hc, rfl⟩ := List.mem_map.mp hv
      exact hfig c hc
    have hfl : (y.cps.toList.map figZ).length = y.length := by rw [List.length_map, Array.length_toList]; rfl
    refine' iter_rangeE (n := y.length / 4) (OctJ y ty D lo (y.cps.toList.map figZ) _ _) rfl hR (range4_small hz) (range4_size h4) lF lN ⟨none, none, [], 0, rfl, rfl, .nil, rfl⟩ ?_ ?_
    · rintro i t m₁ news₁ h tk own hi ha₁ hoff ⟨vk, vv, vs, c, rfl, rfl, hS, hcl⟩ F' N'
      clear lF lN
      simp only [List.map_cons] at hoff
      simp only [List.cons_append] at N'
      have hvl := hS.length
      rw [octL_len] at hvl
      try k_fold
      k_steps
      refine ⟨?_⟩
      (rename Fr _ _ _ _ => eF); (rename News _ _ _ _ => eN)
      rw [ofr_end] at eF
      exact oct_end eF eN (by k_mem) (by k_mem) (by intro q hq; simp only [List.mem_cons, List.mem_append] at hq ⊢; rcases hq with hq | hq | hq <;> simp [hq]) (by intro q hq; simp [hq]) hS hcl (quad_at (by omega) (by omega) (by omega) (by omega))
    · rintro m₁ news₁ h tk ⟨vk, vv, vs, c, rfl, rfl, hS, hcl⟩ F' N'
      clear lF lN
      have hrg := octL_range hbnd (y.length / 4)
      have hlen : (octL (y.cps.toList.map figZ) (y.length / 4)).length ≤ 1000 := by rw [octL_len]; omega
      have hvl := hS.length
      try k_fold
      k_steps
      refine retY hret ?_ (by k_asm) (cb_drop (by assumption) (by intro p hp; kst_mem))
      intro t
      rfl
end
/-! P_deal -/
section
theorem top_off_P_deal : True := by
  w_top off
  trivial
local macro_rules | `(tactic| walk_at "exec For Name Name cons nil") => `(tactic| (refine Hold.out ?_))
local macro_rules | `(tactic| walk_at "exec Assign cons ListComp") => `(tactic| (refine Hold.out ?_))
local macro_rules | `(tactic| walk_at "CompSrcT") => `(tactic| (refine Hold.out ?_))
def rowsT : List Str := [Str.ofString "lsbdcp", Str.ofString "r", Str.ofString "w", Str.ofString "xsS", Str.ofString "r", Str.ofString "w", Str.ofString "xsS", Str.ofString "r", Str.ofString "w", Str.ofString "xtT"]
/-- can the place show the sign -/
def canZ (c : Nat) (k : Int) : Bool := decide (c ∈ (rowsT.getD k.toNat Str.empty).cps.toList)
def spotsZ (c : Nat) : List Int := (rangeKs 0 10).filter (canZ c)
def laterZ (c : Nat) (p : Int) : List Int := (spotsZ c).filter fun k => decide (k ≥ p)
/-- one letter more: the modes, the place behind it -/
def dealZ (st : List Int × Int) (c : Nat) : List Int × Int :=
  let ms := if laterZ c st.2 = [] then st.1 ++ [32768] else st.1
  let k := (laterZ c st.2 ++ spotsZ c).headD 0
  (ms.dropLast ++ [if k = 0 then Txt.find (Str.ofString "?pc?d?b?-?l?s???") ⟨#[c]⟩ * 4096 else ms.getLastD 0 + worthZ k c], k + 1)
def dfr (y : Str) (ty : Tok) (lm : Addr) (v1 v2 v3 : Option Value) : Str → Option Value := fun z => if z = Str.ofString "spot" then v1 else if z = Str.ofString "later" then v2 else if z = Str.ofString "spots" then v3 else if z = Str.ofString "modes" then some (.ref lm) else if z = Str.ofString "letters" then some (.str y ty) else none
theorem dfr_start {mb : Str → Option Value} {y : Str} {ty : Tok} {lm : Addr} (hb : mb = fun z => if z = Str.ofString "letters" then some (.str y ty) else none) :
    (fun z => if z = Str.ofString "modes" then some (.ref lm) else mb z) = dfr y ty lm none none none := by
  subst hb
  funext z
  unfold dfr
  have e1 : ¬ (Str.ofString "spot" = Str.ofString "modes") := by decide
  have e2 : ¬ (Str.ofString "spot" = Str.ofString "letters") := by decide
  have e3 : ¬ (Str.ofString "later" = Str.ofString "modes") := by decide
  have e4 : ¬ (Str.ofString "later" = Str.ofString "letters") := by decide
  have e5 : ¬ (Str.ofString "spots" = Str.ofString "modes") := by decide
  have e6 : ¬ (Str.ofString "spots" = Str.ofString "letters") := by decide
  (repeat' split) <;> simp_all
theorem led_names2 {h₀ h : Heap} {L l : Addr} {p : Addr × Obj} {o : Obj} {news : List (Addr × Obj)} (N : News h₀ L h (p :: (l, o) :: news)) : ∃ l', l' = l ∧ News h₀ L h (p :: (l', o) :: news) := ⟨_, rfl, N⟩
/-- between the turns -/
def DealJ (y : Str) (ty : Tok) (lm : Addr) (p q r : Addr × Obj) (aL aP : Addr) (news : List (Addr × Obj)) (i : Nat) (m' : Str → Option Value) (news' : List (Addr × Obj)) : Prop :=
  ∃ v1 v2 v3 vs c oL oP vL tP, m' = dfr y ty lm v1 v2 v3 ∧ news' = p :: (lm, listOf vs.toArray c) :: q :: (aL, oL) :: (aP, oP) :: r :: news ∧ oL.data = .cell vL ∧
    oP.data = .cell (some (.int ((y.cps.toList.take i).foldl dealZ ([], 10)).2 tP)) ∧ IntsAre vs ((y.cps.toList.take i).foldl dealZ ([], 10)).1
theorem rows_name {h₀ h : Heap} {L R : Addr} {p a : Addr × Obj} {l : List Value} {n : Nat} {rest : List (Addr × Obj)} (N : News h₀ L h (p :: a :: (R, ({ cls := .type "tuple", data := .seq l.toArray n } : Obj)) :: rest)) (hl : StrsAre l rowsT) :
    ∃ ws nw, StrsAre ws rowsT ∧ News h₀ L h (p :: a :: (R, ({ cls := .type "tuple", data := .seq ws.toArray nw } : Obj)) :: rest) := ⟨l, n, hl, N⟩
theorem rowsAre (a b c d e f g h i j : Tok) : StrsAre [.str (Str.ofString "lsbdcp") a, .str (Str.ofString "r") b, .str (Str.ofString "w") c, .str (Str.ofString "xsS") d, .str (Str.ofString "r") e, .str (Str.ofString "w") f, .str (Str.ofString "xsS") g, .str (Str.ofString "r") h, .str (Str.ofString "w") i, .str (Str.ofString "xtT") j] rowsT :=
  .cons _ _ (.cons _ _ (.cons _ _ (.cons _ _ (.cons _ _ (.cons _ _ (.cons _ _ (.cons _ _ (.cons _ _ (.cons _ _ .nil)))))))))
theorem rangeAt {a : Int} {n : Nat} (i : Nat) (v : Value) (hi : i < n) (hv : ∃ t, v = .int (a + (i : Int)) t) : ∃ b t, (rangeKs a n)[i]? = some b ∧ v = .int b t := by
  obtain ⟨t, e⟩ := hv
  exact ⟨a + (i : Int), t, by simp [rangeKs, hi], e⟩
local macro_rules | `(tactic| walk_at "subscriptTail") => `(tactic| (k_here; (with_reducible show wpAny _ _ (subscriptTail _ _ (Value.ref _) (Value.int _ _)) _ _ _); (refine item_texts (by k_asm) (by k_mem) (by assumption) (by assumption) (by assumption) (by omega) ?_); intro t9))
theorem spots_in {c : Nat} {k : Int} (h : k ∈ spotsZ c) : 0 ≤ k ∧ k < 10 := mem_rangeKs (List.mem_filter.mp h).1
theorem later_nil {c : Nat} : laterZ c 10 = [] := by
  unfold laterZ
  rw [List.filter_eq_nil_iff]
  intro k hk
  have := spots_in hk
  simp; omega
theorem deal_head {c : Nat} {p : Int} (hg : spotsZ c ≠ []) : ∃ k r, laterZ c p ++ spotsZ c = k :: r ∧ k ∈ spotsZ c ∧ (laterZ c p ≠ [] → p ≤ k) := by
  cases hl : laterZ c p with
  | nil =>
    cases hs : spotsZ c with
    | nil => exact absurd hs hg
    | cons k r => exact ⟨k, r, rfl, .head _, fun h => absurd rfl h⟩
  | cons k r =>
    have hm : k ∈ laterZ c p := by rw [hl]; exact .head _
    have := List.mem_filter.mp hm
    exact ⟨k, r ++ spotsZ c, rfl, this.1, fun _ => by simpa using this.2⟩
theorem deal_inv : ∀ (l : List Nat), (∀ c ∈ l, spotsZ c ≠ []) → 1 ≤ (l.foldl dealZ ([], 10)).2 ∧ (l.foldl dealZ ([], 10)).2 ≤ 10 ∧ ((l.foldl dealZ ([], 10)).1 = [] → (l.foldl dealZ ([], 10)).2 = 10) := by
  intro l hl
  have key : ∀ (l : List Nat) (st : List Int × Int), (∀ c ∈ l, spotsZ c ≠ []) → (1 ≤ st.2 ∧ st.2 ≤ 10 ∧ (st.1 = [] → st.2 = 10)) → 1 ≤ (l.foldl dealZ st).2 ∧ (l.foldl dealZ st).2 ≤ 10 ∧ ((l.foldl dealZ st).1 = [] → (l.foldl dealZ st).2 = 10) := by
    intro l
    induction l with
    | nil => intro st _ h; exact h
    | cons c l ih =>
      intro st hl h
      rw [List.foldl_cons]
      refine ih _ (fun d hd => hl d (.tail _ hd)) ?_
      obtain ⟨k, r, e, hk, _⟩ := deal_head (p := st.2) (hl c (.head _))
      have := spots_in hk
      unfold dealZ
      rw [e]
      simp only [List.headD_cons]
      refine ⟨by omega, by omega, fun h => ?_⟩
      simp at h
  exact key l _ hl (by simp)
theorem deal_len : ∀ (l : List Nat) (st : List Int × Int), (l.foldl dealZ st).1.length ≤ st.1.length + l.length
  | [], st => by simp
  | c :: l, st => by
    rw [List.foldl_cons]
    have h := deal_len l (dealZ st c)
    have h2 : (dealZ st c).1.length ≤ st.1.length + 1 := by
      unfold dealZ
      simp only [List.length_append, List.length_dropLast, List.length_cons, List.length_nil]
      split <;> simp <;> omega
    simp only [List.length_cons]
    omega
theorem spots_len {c : Nat} : (spotsZ c).length ≤ 10 := Nat.le_trans (List.length_filter_le _ _) (by decide)
theorem later_len {c : Nat} {p : Int} : (laterZ c p).length ≤ 10 := Nat.le_trans (List.length_filter_le _ _) spots_len
theorem dealZ_is {c : Nat} {ms : List Int} {pl k : Int} {r : List Int} (h : laterZ c pl ++ spotsZ c = k :: r) : dealZ (ms, pl) c =
    ((if laterZ c pl = [] then ms ++ [32768] else ms).dropLast ++ [if k = 0 then Txt.find (Str.ofString "?pc?d?b?-?l?s???") ⟨#[c]⟩ * 4096 else (if laterZ c pl = [] then ms ++ [32768] else ms).getLastD 0 + worthZ k c], k + 1) := by
  unfold dealZ
  simp only [h, List.headD_cons]
theorem head_led {prog : Program} {w : World} {A : Around} {E : Value → Shared → Prop} {s : Shared} {h₀ : Heap} {L D : Addr} {news : List (Addr × Obj)} {value slice : PySem.Expr} {Q : Value → Shared → Prop} {vs : List Value} {c : Nat} {ns : List Int} {k : Int} {r : List Int} {u : Tok}
    (N : News h₀ L s.heap news) (hm : (D, listOf vs.toArray c) ∈ news) (hi : IntsAre vs ns) (hk : ns = k :: r) (h : ∀ t, Q (.int k t) s)
    (hs : subscripted slice false (.ref D) (.int 0 u) = operate [.ref D, .int 0 u] (getItem (.ref D) (.int 0 u)) := by with_unfolding_all rfl) :
    wpAny (model prog w) A (subscriptTail value slice (.ref D) (.int 0 u)) Q E s := by
  subst hk
  have hl : s.heap.IsList D vs.toArray := isL_led N hm
  cases hi with
  | cons a t hr => exact tail_any hl.typeIs slot_list_getitem.lookup (wpAny_getItem_list hl (by decide) (by decide) (x := .int k t) (by simp) (h t)) hs
local macro_rules | `(tactic| walk_at "binaryOp Add ref ref") => `(tactic| (k_here; (refine add_led (by k_asm) (by k_asm) (by k_mem) (by k_mem) (by first | walk_at "my size" | omega) ?_); intro D' h' F' N' l1; (try k_lt l1)))
local macro_rules | `(tactic| walk_at "subscriptTail") => `(tactic| (k_here; (with_reducible show wpAny _ _ (subscriptTail _ _ (Value.ref _) (Value.int 0 _)) _ _ _); (refine head_led (by k_asm) (by k_mem) (by assumption) (by assumption) ?_); intro t9))
theorem snoc_of : ∀ {vs : List Value} {ms : List Int}, IntsAre vs ms → ms ≠ [] → ∃ ws x t ms', vs = ws ++ [Value.int x t] ∧ ms = ms' ++ [x] ∧ IntsAre ws ms'
  | _, _, .nil, h => absurd rfl h
  | _, _, .cons a t (vs := vs) (ns := ns) r, _ => by
    cases r with
    | nil => exact ⟨[], a, t, [], rfl, rfl, .nil⟩
    | cons b u r =>
      obtain ⟨ws, x, t', ms', e1, e2, hr⟩ := snoc_of (.cons b u r) (by simp)
      exact ⟨_, x, t', _, by rw [e1]; rfl, by rw [e2]; rfl, .cons a t hr⟩
local macro_rules | `(tactic| walk_at "call builtin:list.append") => `(tactic| (k_here; (with_reducible show wpAny _ _ (call (Value.builtin _) [Value.ref _, _]) _ _ _); k_dflt (refine' append_K ?k1 ?k2 ?k3 ?_ ?z; (case k1 => k_asm); (case k2 => k_asm); (case k3 => k_upd); (case z => size_fits); k_whole); intro h' F' N'; (try simp only [List.push_toArray] at N'); (try k_sweep)))
local macro_rules | `(tactic| walk_at "getItem ref int") => `(tactic| (k_here; (with_reducible show wpAny _ _ (getItem (Value.ref _) (Value.int (-1) _)) _ _ _); (refine getItem_snoc (by k_asm) (by k_mem) ?_)))
local macro_rules | `(tactic| walk_at "setItem ref int") => `(tactic| (k_here; (with_reducible show wpAny _ _ (setItem (Value.ref _) (Value.int (-1) _) _) _ _ _); (refine' setItem_snoc ?F ?N ?U ?_; (case F => k_asm); (case N => k_asm); (case U => k_upd)); intro h' F' N'; (try k_sweep)))
local macro_rules | `(tactic| walk_at "call ref") => `(tactic| (k_here; (with_reducible show wpAny _ _ (call (Value.ref 188) [Value.int _ _, Value.str _ _] _) _ _ _); k_dflt (refine' Tell.use (worth_tell _ _ _ _ (by assumption) (by assumption)) ?k1 ?k2 ?k3 ?k4 ?k5 ?kK ?kd ?ku ?_; walk_at "my use")))
theorem dfr_end {y : Str} {ty : Tok} {lm : Addr} {v1 v2 v3 w1 w2 w3 : Option Value} : (fun z => if z = Str.ofString "spot" then w1 else if z = Str.ofString "later" then w2 else if z = Str.ofString "spots" then w3 else dfr y ty lm v1 v2 v3 z) = dfr y ty lm w1 w2 w3 := by
  funext z
  unfold dfr
  (repeat' split) <;> simp_all
theorem deal_end {g h' : Heap} {L : Addr} {y : Str} {ty : Tok} {lm aL aP : Addr} {p q r : Addr × Obj} {news own news' : List (Addr × Obj)} {i tk c : Nat} {v1 v2 v3 vL : Option Value} {vs : List Value} {ms : List Int} {pl : Int} {tP : Tok} {oL oP o o1 o2 : Obj} {s₁ : Shared}
    (eF : Fr g L h' (dfr y ty lm v1 v2 v3)) (eN : News g L h' news') (hin : (lm, listOf vs.toArray c) ∈ news') (hp : p ∈ news') (hq : q ∈ news') (hL : (aL, oL) ∈ news') (hP : (aP, oP) ∈ news') (hr : r ∈ news') (hn : ∀ x ∈ news, x ∈ news') (ho : ∀ x ∈ own, x ∈ news')
    (dL : oL.data = .cell vL) (dP : oP.data = .cell (some (.int pl tP))) (hI : IntsAre vs ms) (he : (y.cps.toList.take (i + 1)).foldl dealZ ([], 10) = (ms, pl)) :
    InvEndN g L (DealJ y ty lm p q r aL aP news (i + 1)) own (List.map (fun x => x.fst) (p :: (lm, o) :: q :: (aL, o1) :: (aP, o2) :: r :: news)) s₁ { s₁ with heap := h', toks := tk } :=
  InvEndN.intro eF eN ⟨v1, v2, v3, vs, c, oL, oP, vL, tP, rfl, rfl, dL, by rw [he]; exact dP, by rw [he]; exact hI⟩ rfl
    (List.forall_mem_cons.mpr ⟨hp, List.forall_mem_cons.mpr ⟨hin, List.forall_mem_cons.mpr ⟨hq, List.forall_mem_cons.mpr ⟨hL, List.forall_mem_cons.mpr ⟨hP, List.forall_mem_cons.mpr ⟨hr, hn⟩⟩⟩⟩⟩⟩) ho
theorem allLt_all {d : Addr} : ∀ {l : List (Addr × Obj)}, AllLt d l → ∀ p ∈ l, p.1 < d
  | [], _, _, h => nomatch h
  | _ :: _, x, p, h => by
    rcases List.mem_cons.mp h with rfl | h
    · exact x.1
    · exact allLt_all x.2 p h
theorem eq_nil_t {prog : Program} {w : World} {A : Around} {E : Value → Shared → Prop} {s : Shared} {h₀ : Heap} {L a b : Addr} {news : List (Addr × Obj)} {vs : List Value} {ns : List Int} {c d : Nat} {Q : Value → Shared → Prop} (N : News h₀ L s.heap news) (hm : (a, listOf vs.toArray c) ∈ news) (hb : (b, listOf #[] d) ∈ news) (hi : IntsAre vs ns)
    (hn : ns = []) (hu : A.units + 64 < cLine) (h : Q (.bool true) s) : wpAny (model prog w) A (compareOp .Eq (.ref a) (.ref b)) Q E s :=
  eq_intsK (us := []) (isL_led N hm) hi (isL_led N hb) .nil hu (by rw [hn]; exact h)
theorem eq_nil_f {prog : Program} {w : World} {A : Around} {E : Value → Shared → Prop} {s : Shared} {h₀ : Heap} {L a b : Addr} {news : List (Addr × Obj)} {vs : List Value} {ns : List Int} {c d : Nat} {Q : Value → Shared → Prop} (N : News h₀ L s.heap news) (hm : (a, listOf vs.toArray c) ∈ news) (hb : (b, listOf #[] d) ∈ news) (hi : IntsAre vs ns)
    (hn : ¬ ns = []) (hu : A.units + 64 < cLine) (h : Q (.bool false) s) : wpAny (model prog w) A (compareOp .Eq (.ref a) (.ref b)) Q E s :=
  eq_intsK (us := []) (isL_led N hm) hi (isL_led N hb) .nil hu (by rw [decide_eq_false hn]; exact h)
local macro_rules | `(tactic| walk_at "compareOp Eq ref ref") => `(tactic| (k_here; (first | (refine eq_nil_t (by k_asm) (by k_mem) (by k_mem) (by assumption) (by assumption) (by units_room) ?_) | (refine eq_nil_f (by k_asm) (by k_mem) (by k_mem) (by assumption) (by assumption) (by units_room) ?_))))
theorem dealt_tell {w loose mean mg mb news} (y : Str) (ty : Tok) (hz : y.length ≤ 1000) (ha : ∀ c ∈ y.cps.toList, c < 128) (hg : ∀ c ∈ y.cps.toList, spotsZ c ≠ []) :
    TellL 3 w loose mean mg mb 193 news [.str y ty] (fun us => IntsAre us (y.cps.toList.foldl dealZ ([], 10)).1) := by
  unfold TellL
  k_fill
  intro dp un cn cs a ccd cl outer A₀ base h₀ L m s Q E B F X N T hk hd hu hret
  have hMk := kstMark
  refine wpAny_call ?_
  k_dflt walk_at "my enter"
  k_steps
  refine ⟨?_⟩
  refine wpAny_For ?_
  k_steps
  (rename Fr _ _ _ _ => lF'); (rename News _ _ _ _ => lN)
  obtain ⟨lm, rfl, lN⟩ := led_names2 lN
  (rename (_ ∧ _ ∧ _ ∧ _ ∧ AllLt lm news) => hAL)
  have hlm : ∀ p ∈ news, p.1 < lm := allLt_all hAL.2.2.2.2
  obtain ⟨ws, nw, hW, lN⟩ := rows_name lN (rowsAre _ _ _ _ _ _ _ _ _ _)
  obtain ⟨g, m₀, rfl, hm0, lF⟩ := fr_names lF'
  have hm := hm0.trans (dfr_start (y := y) (ty := ty) (by with_unfolding_all rfl))
  clear hm0 lF'
  subst hm
  refine' iter_strE (DealJ y ty lm _ _ _ _ _ news) rfl ha lF lN ⟨none, none, none, [], 0, _, _, _, _, rfl, rfl, by assumption, by assumption, .nil⟩ ?_ ?_
  · rintro i c t m₁ news₁ h tk own hc ha₁ hoff ⟨v1, v2, v3, vs, n, oL, oP, vL, tP, rfl, rfl, hoL, hoP, hI⟩ F' N'
    clear lF lN
    simp only [List.map_cons] at hoff
    simp only [List.cons_append] at N'
    have hcm : c ∈ y.cps.toList := by
      have := List.mem_of_getElem? (l := y.cps.toList) (i := i) (a := c) (by simpa using hc)
      exact this
    have hgc := hg c hcm
    have hinv := deal_inv (y.cps.toList.take i) (fun d hd => hg d (List.mem_of_mem_take hd))
    have hnext : (y.cps.toList.take (i + 1)).foldl dealZ ([], 10) = dealZ ((y.cps.toList.take i).foldl dealZ ([], 10)) c := by
      rw [List.take_add_one, show y.cps.toList[i]? = some c by simpa using hc]; simp
    have hlen := deal_len (y.cps.toList.take i) ([], 10)
    generalize (y.cps.toList.take i).foldl dealZ ([], 10) = st at hoP hI hinv hnext hlen
    obtain ⟨ms, pl⟩ := st
    dsimp only at hoP hI hinv hlen
    have hvl := hI.length
    have hvb : vs.length ≤ 1000 := by
      rw [hvl]
      have h1 : (y.cps.toList.take i).length ≤ y.cps.toList.length := by rw [List.length_take]; exact Nat.min_le_right _ _
      have h2 : y.cps.toList.length ≤ 1000 := by rw [Array.length_toList]; exact hz
      have h3 : ([] : List Int).length = 0 := rfl
      omega
    clear hvl hlen
    try k_fold
    k_steps
    refine ⟨?_⟩
    refine LCt.Assign_ListComp_T (F₀ := by k_asm) (by rfl) (by with_unfolding_all rfl) (by with_unfolding_all rfl) (by decide) (by rfl) (by decide) (by rfl) (by rfl) (by rfl) ?_
    k_steps
    refine ⟨?_⟩
    refine LCt.CompSrcT.range (n := 10) (a := 0) (by rfl) (by k_asm) (by k_asm) (by assumption) (by decide) (by decide) (by rw [sizeLine_eq]; decide) ?_
    intro g'
    refine rest_filter (as := rangeKs 0 10) (mk := Value.int) (canZ c) (rangeKs_length _ _) rangeAt ?_ ?_
    · intro k t₁ I oI C oC D m₂ ys h tk E' hmem hC hx F' N' off ne
      have hk := mem_rangeKs hmem
      have hk0 : 0 ≤ k := hk.1
      have hk1 : k < rowsT.length := hk.2
      have hk2 : k < 10 := hk.2
      have hl1 : (⟨#[c]⟩ : Str).length = 1 := rfl
      clear hk
      k_steps
      all_goals
        refine ⟨?_⟩
        (rename (Builtin.Str.occurrences _ _ 0 _ 1).isEmpty = _ => hA)
        have eA := occ_is hA rfl
        first
          | exact LCg.CompEnd.intro (by assumption) (by assumption) _ (fun p hp => hp) off trivial ⟨rfl, eA, _, rfl⟩
          | exact LCg.CompEnd.intro (by assumption) (by assumption) _ (fun p hp => hp) off trivial ⟨rfl, eA⟩
    · intro sp hsp
      k_steps
      refine ⟨?_⟩
      refine LCt.Assign_ListComp_T (F₀ := by k_asm) (by rfl) (by with_unfolding_all rfl) (by with_unfolding_all rfl) (by decide) (by rfl) (by decide) (by rfl) (by rfl) (by rfl) ?_
      k_steps
      refine ⟨?_⟩
      refine LCt.CompSrcT.ledger (its := sp.toArray) (k := sp.length) (by rfl) (by k_asm) (by k_asm) (by k_mem) (by rw [sizeLine_eq, List.size_toArray, hsp.length]; exact Nat.le_trans (List.length_filter_le _ _) (by decide)) ?_
      intro g2
      refine rest_filter (as := (rangeKs 0 10).filter (canZ c)) (mk := Value.int) (fun k => decide (k ≥ pl)) (by rw [List.size_toArray, hsp.length]) (fun i v _ hv => hsp.at i v (by simpa using hv)) ?_ ?_
      · intro k t₁ I oI C oC D m₂ ys h tk E' hmem hC hx F' N' off ne
        k_steps
        all_goals
          refine ⟨?_⟩
          first
            | exact LCg.CompEnd.intro (by assumption) (by assumption) _ (fun p hp => hp) off (.inr ⟨_, .head _, rfl, _, rfl⟩) ⟨rfl, decide_eq_true (by assumption), _, rfl⟩
            | exact LCg.CompEnd.intro (by assumption) (by assumption) _ (fun p hp => hp) off (.inr ⟨_, .head _, rfl, _, rfl⟩) ⟨rfl, decide_eq_false (by assumption)⟩
      · intro lt hlt
        have hLt : IntsAre lt (laterZ c pl) := hlt.ints
        have hSp : IntsAre sp (spotsZ c) := hsp.ints
        have hLS : IntsAre (lt ++ sp) (laterZ c pl ++ spotsZ c) := hLt.append hSp
        have hlb : lt.length ≤ 10 := by rw [hLt.length]; exact later_len
        have hsb : sp.length ≤ 10 := by rw [hSp.length]; exact spots_len
        obtain ⟨k, r, hkr, hks, hkp⟩ := deal_head (p := pl) hgc
        have hkb := spots_in hks
        have hk0 : 0 ≤ k := hkb.1
        have hk9 : k < 10 := hkb.2
        have hdz := hnext.trans (dealZ_is (ms := ms) (pl := pl) hkr)
        have hl1 : (⟨#[c]⟩ : Str).length = 1 := rfl
        clear hnext hkb hks hgc
        by_cases hl0 : laterZ c pl = []
        · k_steps
          all_goals
            refine ⟨?_⟩
            (rename Fr _ _ _ _ => eF); (rename News _ _ _ _ => eN)
            rw [dfr_end] at eF
            refine deal_end (c := n + 1) eF eN (by k_mem) (by k_mem) (by k_mem) (by k_mem) (by k_mem) (by k_mem) (by intro q hq; simp only [List.mem_cons, List.mem_append]; simp [hq]) (by intro q hq; simp only [List.mem_cons, List.mem_append]; simp [hq]) (by assumption) (by assumption) (hI.append (.cons _ _ .nil)) (hdz.trans ?_)
            rw [if_pos hl0]
            first
              | (rename k = 0 => hk; rw [if_pos hk, List.dropLast_append_of_ne_nil (by simp)]; simp)
              | (rename k ≠ 0 => hk; rw [if_neg hk, List.dropLast_append_of_ne_nil (by simp)]; simp)
        · obtain ⟨ws', x, tx, ms', rfl, rfl, hI'⟩ := snoc_of hI (fun e => hl0 (by rw [hinv.2.2 e]; exact later_nil))
          have hkz : ¬ k = 0 := fun e => absurd (show (1 : Int) ≤ 0 from e ▸ Int.le_trans hinv.1 (hkp hl0)) (by decide)
          k_steps
          all_goals
            first
              | exact absurd (by assumption) hkz
              | refine ⟨?_⟩
                (rename Fr _ _ _ _ => eF); (rename News _ _ _ _ => eN)
                rw [dfr_end] at eF
                refine deal_end (c := n) eF eN (by k_mem) (by k_mem) (by k_mem) (by k_mem) (by k_mem) (by k_mem) (by intro q hq; simp only [List.mem_cons, List.mem_append]; simp [hq]) (by intro q hq; simp only [List.mem_cons, List.mem_append]; simp [hq]) (by assumption) (by assumption) (hI'.append (.cons _ _ .nil)) (hdz.trans ?_)
                rw [if_neg hl0, if_neg hkz]
                simp
  · rintro m₁ news₁ h tk ⟨v1, v2, v3, vs, n, oL, oP, vL, tP, rfl, rfl, hoL, hoP, hI⟩ F' N'
    clear lF lN
    have e9 : y.cps.toList.take y.cps.size = y.cps.toList := by rw [List.take_of_length_le]; simp
    rw [e9] at hI
    try k_fold
    k_steps
    exact hret lm vs n _ _ hI hlm (by k_asm) (cb_drop (by assumption) (by intro p hp; rcases List.mem_cons.mp hp with rfl | hp; exact .tail _ (.head _); simp only [List.mem_cons]; simp [hp]))
end
/-! L_deep -/
section
section
variable {prog : Program} {w : World} {A₀ A : Around} {s : Shared} {base h₀ g₀ : Heap} {outer : List Env} {L a : Addr} {m : Str → Option Value} {cn : Str} {cs : Scope} {ccd : Value} {cl : List (Str × Addr)} {news : List (Addr × Obj)} {K : Frag} {p : Program} {loose : List Str} {mean : ExcName → Option Value} {mg mb : Str → Option Value}
    {R : Result → Shared → Prop} {name qual : Str} {params : Arguments} {body : List Stmt} {scope : Scope} {dV kV doc pm cdv ct oc : Value} {an od : Option Addr} {osl : Array (Option Value)} {f : Addr} {args : Args} {binds : List (Str × Value)}
theorem memX {b : Addr} (hm : b ∈ (envX cn cs L a ccd cl :: outer).filterMap (·.frame)) : b = L ∨ b ∈ outer.filterMap (·.frame) := by
  obtain ⟨env, he, hf⟩ := List.mem_filterMap.mp hm
  rcases List.mem_cons.mp he with rfl | he
  · exact .inl (Option.some.inj hf).symm
  · exact .inr (List.mem_filterMap.mpr ⟨env, he, hf⟩)
theorem enterX (B : Below A₀ base outer h₀) (F : Fr h₀ L s.heap m) (N : News h₀ L s.heap news) (hA : A.frames = some (envX cn cs L a ccd cl :: outer)) (hck : cs.kind = .function) :
    ∃ oL es ep, (hideAll s.heap (news.map (·.1))).get? L = some oL ∧ oL.data = .dict es ep ∧ (∀ h', h'.get? L = some oL → Heap.Ns h' L m) ∧ (∀ (sl : Array (Option Value)) h', h'.get? L = some { oL with slots := sl } → Heap.Ns h' L m) ∧
      h₀.StaysIn (hideAll s.heap (news.map (·.1))) ∧ Below A base (envX cn cs L a ccd cl :: outer) (hideAll s.heap (news.map (·.1))) := by
  have nm : ∀ b o, h₀.get? b = some o → b ∉ news.map (·.1) := fun b o e q => by
    obtain ⟨p, hp, rfl⟩ := List.mem_map.mp q
    rw [(N p hp).2.2] at e; cases e
  have st : h₀.StaysIn (hideAll s.heap (news.map (·.1))) := fun b o e => hideAll_get _ (F.keep b o e) (nm b o e)
  obtain ⟨oL, es, ep, hL, hLd, hLk, hLf⟩ := F.ns
  have nL : L ∉ news.map (·.1) := fun q => by
    obtain ⟨p, hp, e⟩ := List.mem_map.mp q
    exact (N p hp).2.1 e
  have hLg := hideAll_get (news.map (·.1)) hL nL
  have B₁ := pushX (A := A₀) (env := envX cn cs L a ccd cl) B F rfl hck
  exact ⟨oL, es, ep, hLg, hLd, fun h' e => ⟨oL, es, ep, e, hLd, hLk, hLf⟩, fun sl h' e => ⟨_, es, ep, e, hLd, hLk, hLf⟩, st, ⟨hA, fun b o e => st b o (B.stays b o e), funFrames_hideAll B₁.frames fun env he b hb hf => by
    cases he with
    | head => exact nL ((Option.some.inj hf : L = b) ▸ hb)
    | tail _ he =>
      obtain ⟨L₁, o₁, hf₁, ho₁⟩ := funFrames_in B.frames env he
      rw [hf₁] at hf
      exact nm L₁ o₁ ho₁ ((Option.some.inj hf : L₁ = b) ▸ hb)⟩⟩
/-- a def with a try, called by the law's own frame (with cells) -/
theorem code_defT (B : Below A₀ base [] h₀) (F : Fr h₀ L s.heap m) (X₀ : K.In h₀) (N : News h₀ L s.heap news) (T : Top p loose mean mg mb h₀) (hA : A.frames = some [envX cn cs L a ccd cl])
    (ho : K.lookup f = some ⟨oc, od, .func (fnOf name qual params body scope dV kV doc pm an cdv ct), osl⟩) (hcd : codeIn K cdv qual = true) (hroom : A.depth < recursionLimit)
    (hbind : BindsTo s (fnOf name qual params body scope dV kV doc pm an cdv ct) args binds) (hloc : ∀ y ∈ binds, scope.names.lookup y.1 = some .local)
    (h : ∀ g L' h₁, Fr h₀ L g m → Fr g L' h₁ (fun y => binds.reverse.lookup y) → News g L' h₁ news → Below A base [envX cn cs L a ccd cl] g → K.In g → Top p loose mean mg mb g → KtsDicts ([envX cn cs L a ccd cl].filterMap (·.frame)) g →
      wpAny (model prog w) (A.deeper (envOf qual scope L' f cdv)) (execs body (envOf qual scope L' f cdv))
        (fun fl s' => LeaveS0 ([envX cn cs L a ccd cl].filterMap (·.frame)) h₀ L m g R (match fl with | .ret v => v | _ => .none) s')
        (fun e s' => wpAny (model prog w) (A.deeper (envOf qual scope L' f cdv)) (leaving (envOf qual scope L' f cdv) e) (fun _ s'' => R (.error e) s'') (fun e' s'' => R (.error e') s'') s')
        { s with heap := h₁, toks := s.toks + binds.length })
    (hck : cs.kind = .function) (hco : scope.isCoroutine = false) (hgen : scope.isGenerator = false) (hk : scope.kind = .function)
    (hcell : ∀ x ∈ scope.names, x.2 ≠ .cell) : codeAny (model prog w) A (.call (.ref f) args) R s := by
  have X := X₀.keeps F.keep
  refine codeAny_call_def (fd := fnOf name qual params body scope dV kV doc pm an cdv ct) (body := body) (binds := binds) hroom (X _ _ ho) rfl (T.nolimit.keeps F.keep) (codeRec_of X hcd) rfl hbind hcell hloc (fun h₁ hns hk₁ => ?_) hco hgen hk
  obtain ⟨oL, es, ep, hLg, hLd, hN, hNs, st, B₂⟩ := enterX B F N hA hck
  refine wpAny_mono (h _ s.heap.objs.size h₁ ⟨hN _ hLg, st, F.above⟩ ⟨hns, fun b o e => hk₁ b o (of_hideAll _ e), Nat.le_of_eq (hideAll_size _ _)⟩
    (fun p hp => ⟨hk₁ _ _ (N p hp).1, Nat.ne_of_lt (Heap.lt_size (N p hp).1), hideAll_none _ (List.mem_map_of_mem hp)⟩) B₂ (X₀.keeps st) (T.keeps st) (fun b hb => by
      rcases memX hb with rfl | z
      · exact ⟨oL, es, ep, hLg, hLd⟩
      · simp at z)) (fun fl s' hl => ?_) fun _ _ y => y
  obtain ⟨g', L', m', news', T', F', N', k⟩ := hl
  have nL₀ : h₀.get? L = none := kts_self F
  obtain ⟨sl, hs⟩ := T'.up hLg
  refine k ⟨hNs sl _ (F'.keep _ _ hs), fun b o e => F'.keep b o (T'.other b o (st b o e) (fun q => by
    rcases memX q with z | z
    · rw [z, nL₀] at e
      cases e
    · simp at z)), F.above⟩ fun p hp => ⟨(N' p hp).1, fun q => ?_, ?_⟩
  · have := (N' p hp).2.2; rw [q, hs] at this; cases this
  · cases q : h₀.get? p.1 with
    | none => rfl
    | some o =>
      obtain ⟨sl', hs'⟩ := T'.up (st _ _ q)
      have := (N' p hp).2.2
      rw [hs'] at this
      cases this
end
/-- the contract of a def that catches, called by the law itself -/
def TellT (k : Nat) (w : World) (loose : List Str) (mean : ExcName → Option Value) (mg mb : Str → Option Value) (f : Addr) (news : List (Addr × Obj)) (vs : List Value) (kw : List (Str × Value)) (R : Tok → Value) : Prop :=
  ∀ (dp un : Nat) (cn : Str) (cs : Scope) (a : Addr) (ccd : Value) (cl : List (Str × Addr)) (A₀ : Around) (base h₀ : Heap) (L : Addr) (m : Str → Option Value) (s : Shared) (Q E : Value → Shared → Prop),
    Below A₀ base [] h₀ → Fr h₀ L s.heap m → (hd.heap_1 w.params).In h₀ → News h₀ L s.heap news → Top hd.view_1 loose mean mg mb h₀ → (hd.heap_1 w.params).In base → Top hd.view_1 loose mean mg mb base → cs.kind = .function →
    dp + k < recursionLimit → un + 100 * k < cLine →
    (∀ (t : Tok) (h' : Heap) (tk' : Nat), Fr h₀ L h' m → News h₀ L h' news → Q (R t) { s with heap := h', toks := tk' }) →
      wpAny (model Challenge.rw_pa0049_01.row.prog w) (ktrTop dp un (some []) cn cs L a ccd cl []) (call (.ref f) vs kw) Q E s
section
variable {k : Nat} {w : World} {loose : List Str} {mean : ExcName → Option Value} {mg mb : Str → Option Value} {f : Addr} {news : List (Addr × Obj)} {vs : List Value} {kw : List (Str × Value)} {R : Tok → Value}
  {dp un : Nat} {cn : Str} {cs : Scope} {a : Addr} {ccd : Value} {cl : List (Str × Addr)} {A₀ : Around} {base h₀ : Heap} {L : Addr} {m : Str → Option Value} {s : Shared} {Q E : Value → Shared → Prop}
theorem TellT.use (C : TellT k w loose mean mg mb f news vs kw R) (B : Below A₀ base [] h₀) (F : Fr h₀ L s.heap m) (X : (hd.heap_1 w.params).In h₀) (N : News h₀ L s.heap news) (T : Top hd.view_1 loose mean mg mb h₀) (XB : (hd.heap_1 w.params).In base) (TB : Top hd.view_1 loose mean mg mb base) (hk : cs.kind = .function)
    (hd : dp + k < recursionLimit) (hu : un + 100 * k < cLine) (ret : ∀ (t : Tok) (h' : Heap) (tk' : Nat), Fr h₀ L h' m → News h₀ L h' news → Q (R t) { s with heap := h', toks := tk' }) :
    wpAny (model Challenge.rw_pa0049_01.row.prog w) (ktrTop dp un (some []) cn cs L a ccd cl []) (call (.ref f) vs kw) Q E s :=
  C _ _ _ _ _ _ _ _ _ _ _ _ _ _ _ B F X N T XB TB hk hd hu ret
end
end
/-! P_read -/
section
theorem top_off_P_read : True := by
  w_top off
  trivial
local macro_rules | `(tactic| walk_at "pyIter bytes") => `(tactic| (refine Hold.out ?_))
/-- one sign more: the octets written, the place in the four, the bits left -/
def dstep (st : List Int × Int × Int) (ch : Int) : List Int × Int × Int :=
  let v := b64v ch
  if 64 ≤ v then st
  else if st.2.1 = 0 then (st.1, 1, v)
  else if st.2.1 = 1 then (st.1 ++ [st.2.2 * 4 + v / 16], 2, v % 16)
  else if st.2.1 = 2 then (st.1 ++ [st.2.2 * 16 + v / 4], 3, v % 4)
  else (st.1 ++ [st.2.2 * 64 + v], 0, 0)
theorem b64v_lo (c : Int) : 0 ≤ b64v c := by
  unfold b64v
  (repeat' split) <;> omega
def InvA2 (pre ns : List Int) (q l : Int) : Prop :=
  (ns, q, l) = pre.foldl dstep ([], 0, 0) ∧ (q = 0 ∨ q = 1 ∨ q = 2 ∨ q = 3) ∧ 0 ≤ l ∧ l < 64 ∧ (q = 2 → l < 16) ∧ (q = 3 → l < 4) ∧ ns.length ≤ pre.length ∧ (∀ v ∈ ns, 0 ≤ v ∧ v < 256)
theorem InvA2.start : InvA2 [] [] 0 0 := ⟨rfl, .inl rfl, by decide, by decide, by decide, by decide, Nat.le_refl _, fun v hv => nomatch hv⟩
theorem InvA2.skip {pre ns : List Int} {q l n : Int} (h : InvA2 pre ns q l) (hv : 64 ≤ b64v n) : InvA2 (pre ++ [n]) ns q l := by
  obtain ⟨hst, hq, hl0, hl1, hl2, hl3, hln, hrg⟩ := h
  refine ⟨?_, hq, hl0, hl1, hl2, hl3, by rw [List.length_append]; omega, hrg⟩
  rw [List.foldl_append, ← hst]
  simp [dstep, hv]
theorem InvA2.next0 {pre ns : List Int} {l n : Int} (h : InvA2 pre ns 0 l) (hv : b64v n < 64) : InvA2 (pre ++ [n]) ns 1 (b64v n) := by
  obtain ⟨hst, hq, hl0, hl1, hl2, hl3, hln, hrg⟩ := h
  refine ⟨?_, .inr (.inl rfl), b64v_lo n, hv, by omega, by omega, by rw [List.length_append]; omega, hrg⟩
  rw [List.foldl_append, ← hst]
  simp [dstep, show ¬ 64 ≤ b64v n by omega]
theorem a2_in {ns : List Int} {v : Int} (h : ∀ v ∈ ns, 0 ≤ v ∧ v < 256) (h0 : 0 ≤ v) (h1 : v < 256) : ∀ u ∈ ns ++ [v], 0 ≤ u ∧ u < 256 := by
  intro u hu
  rcases List.mem_append.mp hu with hu | hu
  · exact h u hu
  · rw [List.mem_singleton.mp hu]; exact ⟨h0, h1⟩
theorem InvA2.next1 {pre ns : List Int} {l n : Int} (h : InvA2 pre ns 1 l) (hv : b64v n < 64) : InvA2 (pre ++ [n]) (ns ++ [Builtin.bitOr (l * 2 ^ Int.toNat 2) ((b64v n).fdiv (2 ^ Int.toNat 4))]) 2 (Builtin.bitAnd (b64v n) 15) := by
  obtain ⟨hst, hq, hl0, hl1, hl2, hl3, hln, hrg⟩ := h
  have h0 := b64v_lo n
  have e2 : Int.toNat 2 = 2 := rfl
  have e4 : Int.toNat 4 = 4 := rfl
  have e16 : (2 : Int) ^ 4 = 16 := rfl
  have e22 : (2 : Int) ^ 2 = 4 := rfl
  rw [e2, e4, bitAnd_m4, e16, Int.fdiv_eq_ediv_of_nonneg _ (by decide), bitOr_apart 2 hl0 (by omega) (by rw [e22]; omega), e22]
  refine ⟨?_, .inr (.inr (.inl rfl)), by omega, by omega, by omega, by omega, by simp only [List.length_append, List.length_cons, List.length_nil]; omega, a2_in hrg (by omega) (by omega)⟩
  rw [List.foldl_append, ← hst]
  simp [dstep, show ¬ 64 ≤ b64v n by omega]
theorem InvA2.next2 {pre ns : List Int} {l n : Int} (h : InvA2 pre ns 2 l) (hv : b64v n < 64) : InvA2 (pre ++ [n]) (ns ++ [Builtin.bitOr (l * 2 ^ Int.toNat 4) ((b64v n).fdiv (2 ^ Int.toNat 2))]) 3 (Builtin.bitAnd (b64v n) 3) := by
  obtain ⟨hst, hq, hl0, hl1, hl2, hl3, hln, hrg⟩ := h
  have h0 := b64v_lo n
  have h16 := hl2 rfl
  have e2 : Int.toNat 2 = 2 := rfl
  have e4 : Int.toNat 4 = 4 := rfl
  have e16 : (2 : Int) ^ 4 = 16 := rfl
  have e22 : (2 : Int) ^ 2 = 4 := rfl
  rw [e2, e4, bitAnd_m2, e22, Int.fdiv_eq_ediv_of_nonneg _ (by decide), bitOr_apart 4 hl0 (by omega) (by rw [e16]; omega), e16]
  refine ⟨?_, .inr (.inr (.inr rfl)), by omega, by omega, by omega, by omega, by simp only [List.length_append, List.length_cons, List.length_nil]; omega, a2_in hrg (by omega) (by omega)⟩
  rw [List.foldl_append, ← hst]
  simp [dstep, show ¬ 64 ≤ b64v n by omega]
theorem InvA2.next3 {pre ns : List Int} {l n : Int} (h : InvA2 pre ns 3 l) (hv : b64v n < 64) : InvA2 (pre ++ [n]) (ns ++ [Builtin.bitOr (l * 2 ^ Int.toNat 6) (b64v n)]) 0 0 := by
  obtain ⟨hst, hq, hl0, hl1, hl2, hl3, hln, hrg⟩ := h
  have h0 := b64v_lo n
  have h4 := hl3 rfl
  have e6 : Int.toNat 6 = 6 := rfl
  have e64 : (2 : Int) ^ 6 = 64 := rfl
  rw [e6, bitOr_apart 6 hl0 h0 (by rw [e64]; omega), e64]
  refine ⟨?_, .inl rfl, by omega, by omega, by omega, by omega, by simp only [List.length_append, List.length_cons, List.length_nil]; omega, a2_in hrg (by omega) (by omega)⟩
  rw [List.foldl_append, ← hst]
  simp [dstep, show ¬ 64 ≤ b64v n by omega]
/-- what the reading gives: the octets, or none where the letters aren't whole fours -/
def readV (x : Str) (t : Tok) : Value := if ((intsOf (octs x)).foldl dstep ([], 0, 0)).2.1 = 0 then .bytes (byteArr ((intsOf (octs x)).foldl dstep ([], 0, 0)).1) t else .none
theorem readV_yes {x : Str} {t : Tok} {ns : List Int} {l : Int} (h : (ns, (0 : Int), l) = (intsOf (octs x)).foldl dstep ([], 0, 0)) : readV x t = .bytes (byteArr ns) t := by
  unfold readV
  rw [← h]
  rfl
theorem readV_no {x : Str} {t : Tok} {ns : List Int} {q l : Int} (h : (ns, q, l) = (intsOf (octs x)).foldl dstep ([], 0, 0)) (hq : ¬ q = 0) : readV x t = .none := by
  unfold readV
  rw [← h]
  exact if_neg hq
theorem reading_tell {w loose mean mg mb news} (x : Str) (tx : Tok) (hx : x.length ≤ 1000) (hasc : ∀ c ∈ x.cps.toList, c < 128) (h61 : ∀ n ∈ intsOf (octs x), n ≠ 61) : TellT 6 w loose mean mg mb 200 news [.str x tx] [] (fun t => readV x t) := by
  unfold TellT
  k_fill
  intro dp un cn cs a ccd cl A₀ base h₀ L m s Q E B F X N T XB TB hk hd hu hret
  have hMk := kstMark
  refine wpAny_call ?_
  k_dflt (refine' code_defT ?k1 ?k2 ?k3 ?k4 ?k5 ?kA ?k6 ?k7 ?k8 ?k9 ?kB ?_ ?cK ?c2 ?c3 ?c4 ?c5; (case kA => exact rfl); (case k2 => k_asm); (case k1 => k_asm); (case k3 => k_asm); (case k4 => k_asm); (case k5 => k_asm); (case k6 => k_is); (case k7 => k_is); (case k8 => ktr_room); (case k9 => first | exact BindsTo.of_eq rfl | exact binds_K (by k_in) rfl (by k_is) rfl rfl rfl); (case kB => exact locs rfl); (case cK => assumption); (case c2 => exact rfl); (case c3 => exact rfl); (case c4 => exact rfl); (case c5 => decide); k_whole; intro g' L' h' FG' F' N' B' X' T' D'; (try dsimp only); (try k_lift B'); (try k_fold))
  k_steps
  refine ⟨?_⟩
  (rename Fr _ _ _ _ => lF'); (rename News _ _ _ _ => lN')
  have hol : (octs x).length ≤ 1000 := by unfold octs; rw [List.length_map, Array.length_toList]; exact hx
  refine' KStb.kst_bytes (σ := Int × Nat × Int × Nat × Nat × Int × Nat × List Value × List Int × Nat) (fun c => (_, listOf c.2.2.2.2.2.2.2.1.toArray c.2.2.2.2.2.2.2.2.2) :: news) (fun c => [(Str.ofString "quad_pos", .int c.1 c.2.1), (Str.ofString "leftchar", .int c.2.2.1 c.2.2.2.1), (Str.ofString "pads", .int 0 c.2.2.2.2.1), (Str.ofString "i", .int c.2.2.2.2.2.1 c.2.2.2.2.2.2.1)]) (fun c => IntsAre c.2.2.2.2.2.2.2.1 c.2.2.2.2.2.2.2.2.1) [] (fun pre c => InvA2 pre c.2.2.2.2.2.2.2.2.1 c.1 c.2.2.1) ⟨0, _, 0, _, _, 0, _, [], [], 0⟩ (KBw.ints_list _) rfl (by rfl) lF' ?kn ?kf ?kk ?kp ?_ ?_
  case kn => exact lN'
  case kf => exact IntsAre.nil
  case kk => kst_all
  case kp => exact InvA2.start
  all_goals (clear lF' lN')
  · rintro ⟨q, tq, l, tl, tp, i, ti, vs, ns, cn'⟩ pre post n t u h tk own e hlt h0 h1 hoff hf hI F' N'
    dsimp only at hoff hf hI N'
    dsimp only [kstB] at F'
    simp only [List.cons_append, List.nil_append, List.append_nil] at N'
    simp only [List.map_cons, List.map_nil] at hoff
    have hn61 : n ≠ 61 := h61 n (by have e' : intsOf (octs x) = pre ++ n :: post := e; rw [e']; simp)
    have hvl := hf.length
    have hpl : pre.length < 1000 := by simp only [List.length_map] at hlt; omega
    have hnl := hI.2.2.2.2.2.2.1
    have hv0 := b64v_lo n
    clear hlt
    by_cases hv : 64 ≤ b64v n
    · try k_fold
      k_steps
      all_goals try (exact absurd (by assumption) hn61)
      refine ⟨?_⟩
      (rename News _ _ _ _ => nE'); (try simp only [List.push_toArray] at nE')
      refine' kst_end (P := fun (pre : List Int) (c : Int × Nat × Int × Nat × Nat × Int × Nat × List Value × List Int × Nat) => InvA2 pre c.2.2.2.2.2.2.2.2.1 c.1 c.2.2.1) (⟨_, _, _, _, _, _, _, _, _, _⟩ : Int × Nat × Int × Nat × Nat × Int × Nat × List Value × List Int × Nat) ?eF nE' ?eN ?eO ?eA ?eI ?eK ?eS ?_
      case eF => assumption
      case eN => kst_in
      case eO => (intro p hp; kst_mem)
      case eA => rfl
      case eI => k_intsEnd
      case eK => kst_all
      case eS => kst_same
      exact hI.skip hv
    · have hv9 : b64v n < 64 := by omega
      have hvn : ¬ b64v n ≥ 64 := by omega
      obtain ⟨hst, hq, hl0, hl1, hl2, hl3, hln, hrg⟩ := id hI
      clear hst hrg hln
      rcases hq with rfl | rfl | rfl | rfl
      · try k_fold
        k_steps
        all_goals try (exact absurd (by assumption) hn61)
        refine ⟨?_⟩
        (rename News _ _ _ _ => nE'); (try simp only [List.push_toArray] at nE')
        refine' kst_end (P := fun (pre : List Int) (c : Int × Nat × Int × Nat × Nat × Int × Nat × List Value × List Int × Nat) => InvA2 pre c.2.2.2.2.2.2.2.2.1 c.1 c.2.2.1) (⟨_, _, _, _, _, _, _, _, _, _⟩ : Int × Nat × Int × Nat × Nat × Int × Nat × List Value × List Int × Nat) ?eF nE' ?eN ?eO ?eA ?eI ?eK ?eS ?_
        case eF => assumption
        case eN => kst_in
        case eO => (intro p hp; kst_mem)
        case eA => rfl
        case eI => k_intsEnd
        case eK => kst_all
        case eS => kst_same
        exact hI.next0 hv9
      · try k_fold
        k_steps
        all_goals try (exact absurd (by assumption) hn61)
        refine ⟨?_⟩
        (rename News _ _ _ _ => nE'); (try simp only [List.push_toArray] at nE')
        refine' kst_end (P := fun (pre : List Int) (c : Int × Nat × Int × Nat × Nat × Int × Nat × List Value × List Int × Nat) => InvA2 pre c.2.2.2.2.2.2.2.2.1 c.1 c.2.2.1) (⟨_, _, _, _, _, _, _, _, _, _⟩ : Int × Nat × Int × Nat × Nat × Int × Nat × List Value × List Int × Nat) ?eF nE' ?eN ?eO ?eA ?eI ?eK ?eS ?_
        case eF => assumption
        case eN => kst_in
        case eO => (intro p hp; kst_mem)
        case eA => rfl
        case eI => k_intsEnd
        case eK => kst_all
        case eS => kst_same
        exact hI.next1 hv9
      · try k_fold
        k_steps
        all_goals try (exact absurd (by assumption) hn61)
        refine ⟨?_⟩
        (rename News _ _ _ _ => nE'); (try simp only [List.push_toArray] at nE')
        refine' kst_end (P := fun (pre : List Int) (c : Int × Nat × Int × Nat × Nat × Int × Nat × List Value × List Int × Nat) => InvA2 pre c.2.2.2.2.2.2.2.2.1 c.1 c.2.2.1) (⟨_, _, _, _, _, _, _, _, _, _⟩ : Int × Nat × Int × Nat × Nat × Int × Nat × List Value × List Int × Nat) ?eF nE' ?eN ?eO ?eA ?eI ?eK ?eS ?_
        case eF => assumption
        case eN => kst_in
        case eO => (intro p hp; kst_mem)
        case eA => rfl
        case eI => k_intsEnd
        case eK => kst_all
        case eS => kst_same
        exact hI.next2 hv9
      · try k_fold
        k_steps
        all_goals try (exact absurd (by assumption) hn61)
        refine ⟨?_⟩
        (rename News _ _ _ _ => nE'); (try simp only [List.push_toArray] at nE')
        refine' kst_end (P := fun (pre : List Int) (c : Int × Nat × Int × Nat × Nat × Int × Nat × List Value × List Int × Nat) => InvA2 pre c.2.2.2.2.2.2.2.2.1 c.1 c.2.2.1) (⟨_, _, _, _, _, _, _, _, _, _⟩ : Int × Nat × Int × Nat × Nat × Int × Nat × List Value × List Int × Nat) ?eF nE' ?eN ?eO ?eA ?eI ?eK ?eS ?_
        case eF => assumption
        case eN => kst_in
        case eO => (intro p hp; kst_mem)
        case eA => rfl
        case eI => k_intsEnd
        case eK => kst_all
        case eS => kst_same
        exact hI.next3 hv9
  · rintro ⟨q, tq, l, tl, tp, i, ti, vs, ns, cn'⟩ u h tk hlen0 hf hI F' N'
    dsimp only at hf hI N'
    dsimp only [kstB] at F'
    obtain ⟨hst, hq, hl0, hl1, hl2, hl3, hln, hrg⟩ := id hI
    have hnl : ns.length ≤ 1000 := by
      have e9 : (List.map (fun c : UInt8 => (c.toNat : Int)) (octs x)).length = (octs x).length := List.length_map _
      omega
    have hvl := hf.length
    clear hI
    try k_fold
    by_cases hq0 : q = 0
    · subst hq0
      k_steps
      exact retY hret (fun t => readV_yes hst) (by k_asm) (cb_drop (by assumption) (by intro p hp; first | exact hp | exact .tail _ hp | simp [hp]))
    · k_steps
      all_goals first
        | exact absurd (by assumption) hq0
        | exact retN hret (fun t => readV_no hst hq0) (by k_asm) (cb_drop (by assumption) (by intro p hp; first | exact hp | exact .tail _ hp | simp [hp]))
end
/-! L_tupn -/
section
section
variable {prog : Program} {w : World} {A : Around} {E : Value → Shared → Prop} {s : Shared} {env : Env} {h₀ : Heap} {target : Expr} {body orelse : List Stmt} {Q : Flow → Shared → Prop}
/-- over a tuple that the call has made (it stands apart from the ledger) -/
theorem iter_tupN {ax : Addr} {vs : List Value} {nt : Nat} {m : Str → Option Value} {news : List (Addr × Obj)} (J : Nat → (Str → Option Value) → List (Addr × Obj) → Prop)
    (hh : A.handled = none) (F : Fr h₀ env.locals s.heap m) (NT : News h₀ env.locals s.heap [(ax, ({ cls := .type "tuple", data := .seq vs.toArray nt } : Obj))]) (hne : ∀ p ∈ news, p.1 ≠ ax) (N : News h₀ env.locals s.heap news) (h0 : J 0 m news)
    (step : ∀ i v m₁ news₁ h tk own, vs[i]? = some v → news₁.map (·.1) = news.map (·.1) → OwnOff own (news.map (·.1)) → J i m₁ news₁ → Fr h₀ env.locals h m₁ → News h₀ env.locals h (news₁ ++ own) →
      wpAny (model prog w) A (assign target env v) (fun _ s₂ => wpAny (model prog w) A (execs body env) (InvPostN h₀ env.locals (J (i + 1)) own (news.map (·.1)) { s with heap := h, toks := tk } Q) E s₂) E { s with heap := h, toks := tk })
    (done : ∀ m₁ news₁ h tk, J vs.length m₁ news₁ → Fr h₀ env.locals h m₁ → News h₀ env.locals h news₁ → wpAny (model prog w) A (execs orelse env) Q E { s with heap := h, toks := tk })
    (hE : PassesOwn (model prog w) A env E := by passes_own) :
    wpAny (model prog w) A (pyIter (.ref ax)) (fun it s₂ => codeAny (model prog w) A (.forLoop target it body orelse env) (fun r s' => match r with | .ok f => Q f s' | .error e => cameBackBy (model prog w) A env E e s') s₂) E s := by
  have hT := NT _ (.head _)
  have hts : s.heap.IsTuple ax vs.toArray := ⟨_, hT.1, rfl, nt, rfl⟩
  have hlt : ax < s.heap.objs.size := Heap.lt_size hT.1
  have hne' : ax ≠ s.heap.objs.size := Nat.ne_of_lt hlt
  refine wpAny_pyIter_tuple hts ?_
  have W := KTurns.ofWalks (target := target) (Walks.tuple (prog := prog) (w := w) (A := A) hh s.heap.objs.size ax hne' vs.toArray) fun i v s Q E st q => letGo_tupleiter st.1 q
  refine loopE W ?_ ?_ ?_ ⟨⟨_, Heap.get?_push_size _ rfl, rfl, rfl⟩, hts.at fun o e => Heap.get?_push_of_some _ e⟩ (F.push _) (fun p hp => ⟨Heap.get?_push_of_some _ (N p hp).1, (N p hp).2⟩) J h0 ?_ ?_ hE
  · intro hm
    rcases List.mem_cons.mp hm with e | hm
    · exact absurd F.ns.lt (e ▸ Nat.lt_irrefl _)
    · exact hT.2.1 (List.mem_singleton.mp hm).symm
  · intro b hb
    rw [List.mem_singleton.mp hb]
    exact next_is_new F
  · intro p hp hm
    rcases List.mem_cons.mp hm with e | hm
    · exact absurd (Heap.lt_size (N p hp).1) (e ▸ Nat.lt_irrefl _)
    · exact hne p hp (List.mem_singleton.mp hm)
  · intro i v m₁ news₁ h tk own _ hP ha hoff hJ F₁ N₁
    exact step i v m₁ news₁ h tk own (by simpa using hP) ha hoff hJ F₁ N₁
  · intro m₁ news₁ h tk hJ F₁ N₁
    exact done m₁ news₁ h tk (by simpa using hJ) F₁ N₁
end
end
/-! D_law -/
section
def filesZ (ns : List Int) : List Int := [35232, 49197] ++ (ns.take 4).map (fun n => n.fmod 1000000)
theorem files_in {ns : List Int} : ∀ n ∈ filesZ ns, 0 ≤ n ∧ n < 1000000 := by
  intro n hn
  rcases List.mem_append.mp hn with h | h
  · simp only [List.mem_cons, List.not_mem_nil, or_false] at h
    omega
  · obtain ⟨k, _, rfl⟩ := List.mem_map.mp h
    exact ⟨Int.fmod_nonneg_of_pos _ (by decide), Int.fmod_lt_of_pos _ (by decide)⟩
theorem files_len {ns : List Int} : (filesZ ns).length = 2 + min 4 ns.length := by
  simp only [filesZ, List.length_append, List.length_cons, List.length_nil, List.length_map, List.length_take]
def fmT (n : Int) : Str := Txt.join (Str.ofString "") (fmSigns n)
def rowsZ (ns : List Int) : List Str := (filesZ ns).map fmT
def letT (ns : List Int) : Str := signsT (lettersOf (rowsZ ns))
def filT (ns : List Int) : Str := fillT (letT ns)
def toldT (ns : List Int) : Str := lsT (rowsZ ns)
/-- the octets of letters, as ints and as bytes -/
def octZ (y : Str) : List Int := octL (y.cps.toList.map figZ) (y.length / 4)
def oct8 (y : Str) : List UInt8 := (octZ y).map fun n => n.toNat.toUInt8
def cutRows (ns : List Int) (cut : Int) : List Str := (rowsZ ns).take 5 ++ ((rowsZ ns).drop 5).map fun r => Txt.slice r (some cut) (some (cut + 8))
def cutTold (ns : List Int) (cut : Int) : List Str := (rowsZ ns).take 5 ++ ((rowsZ ns).drop 5).map fun r => Txt.slice r (some cut) none
def shownT (ns : List Int) (cut : Int) : Str := if cut < 5 then signsT (lettersOf (cutRows ns cut)) ++ Str.ofString "truncated" else signsT (lettersOf (cutRows ns cut))
def dealM (ns : List Int) : List Int := ((letT ns).cps.toList.foldl dealZ ([], 10)).1
def againT (ns : List Int) : Str := lsT ((dealM ns).map fmT)
end
/-! Q_text -/
section
/-- the signs that rows are made of -/
def SG : List Nat := [45, 63, 108, 115, 98, 100, 99, 112, 114, 119, 120, 83, 116, 84]
def PlainS (x : Str) : Prop := ∀ c ∈ x.cps.toList, c ∈ SG
theorem glue_list (l : List Str) : ∀ a : Array Nat, (l.foldl (fun acc p => acc ++ (Str.ofString "").cps ++ p.cps) a).toList = a.toList ++ l.flatMap (·.cps.toList) := by
  have e : (Str.ofString "").cps = #[] := by decide +kernel
  rw [e]
  induction l with
  | nil => intro a; simp
  | cons x l ih => intro a; rw [List.foldl_cons, ih]; simp
theorem join_empty (xs : List Str) : (Txt.join (Str.ofString "") xs).cps.toList = xs.flatMap (·.cps.toList) := by
  unfold Txt.join Builtin.Str.glued
  rw [glue_list]
  cases xs with
  | nil => rfl
  | cons x xs => simp
theorem reprChar_plain : ∀ c ∈ SG, Builtin.Str.reprChar 39 c = [c] := by decide +kernel
theorem repr_fold : ∀ (l : List Nat) (a : Array Nat), (∀ c ∈ l, c ∈ SG) → (l.foldl (fun out c => out ++ (Builtin.Str.reprChar 39 c).toArray) a).toList = a.toList ++ l
  | [], a, _ => by simp
  | c :: l, a, h => by
    rw [List.foldl_cons, repr_fold l _ (fun d hd => h d (.tail _ hd)), reprChar_plain c (h c (.head _))]
    simp
theorem repr_plain {x : Str} (h : PlainS x) : (reprText x).cps.toList = 39 :: (x.cps.toList ++ [39]) := by
  have hq : reprQuote x = 39 := by
    unfold reprQuote
    have : x.cps.contains 39 = false := by
      rw [Bool.eq_false_iff]
      intro hc
      have hm : 39 ∈ x.cps.toList := by simpa using hc
      exact absurd (h 39 hm) (by decide)
    rw [this]; rfl
  unfold reprText
  rw [hq]
  show ((x.cps.foldl (fun out c => out ++ (Builtin.Str.reprChar 39 c).toArray) #[39]).push 39).toList = _
  rw [Array.toList_push, ← Array.foldl_toList, repr_fold _ _ h]
  simp
/-- texts told one behind the other -/
def joinC : List (List Nat) → List Nat
  | [] => []
  | [x] => x
  | x :: y :: r => x ++ [44, 32] ++ joinC (y :: r)
theorem join_cps : ∀ xs : List Str, (Str.join (Str.ofString ", ") xs).cps.toList = joinC (xs.map (·.cps.toList))
  | [] => rfl
  | [x] => rfl
  | x :: y :: r => by
    show ((x ++ Str.ofString ", " ++ Str.join (Str.ofString ", ") (y :: r)) : Str).cps.toList = x.cps.toList ++ [44, 32] ++ joinC ((y :: r).map (·.cps.toList))
    rw [Str.cps_append, Str.cps_append, Array.toList_append, Array.toList_append, join_cps (y :: r)]
    have e : (Str.ofString ", ").cps.toList = [44, 32] := by decide +kernel
    rw [e]
def quoC (l : List Nat) : List Nat := 39 :: (l ++ [39])
def lsC (ls : List (List Nat)) : List Nat := 91 :: (joinC (ls.map quoC) ++ [93])
theorem lsT_cps {xs : List Str} (h : ∀ x ∈ xs, PlainS x) : (lsT xs).cps.toList = lsC (xs.map (·.cps.toList)) := by
  unfold lsT
  rw [PyData.shown_list, PyData.shownAll_strs]
  show ((Str.ofString "[" ++ Str.join (Str.ofString ", ") (xs.map reprText) ++ Str.ofString "]" : Str)).cps.toList = _
  rw [Str.cps_append, Str.cps_append, Array.toList_append, Array.toList_append, join_cps]
  have e1 : (Str.ofString "[").cps.toList = [91] := by decide +kernel
  have e2 : (Str.ofString "]").cps.toList = [93] := by decide +kernel
  rw [e1, e2, List.map_map]
  have e3 : xs.map ((fun x => x.cps.toList) ∘ reprText) = (xs.map (·.cps.toList)).map quoC := by
    rw [List.map_map]
    refine List.map_congr_left fun x hx => ?_
    show (reprText x).cps.toList = quoC x.cps.toList
    rw [repr_plain (h x hx)]; rfl
  rw [e3]
  rfl
/-- is it a letter of the alphabet -/
def isB (c : Nat) : Bool := decide (b64v (c : Int) < 64)
theorem joinC_filter : ∀ ls : List (List Nat), (joinC (ls.map quoC)).filter isB = ls.flatMap (·.filter isB)
  | [] => rfl
  | [x] => by
    show (quoC x).filter isB = _
    have e : isB 39 = false := by decide
    simp [quoC, List.filter_cons, List.filter_append, e]
  | x :: y :: r => by
    show (quoC x ++ [44, 32] ++ joinC ((y :: r).map quoC)).filter isB = _
    rw [List.filter_append, List.filter_append, joinC_filter (y :: r)]
    have e : isB 39 = false := by decide
    have e2 : isB 44 = false := by decide
    have e3 : isB 32 = false := by decide
    simp [quoC, List.filter_cons, List.filter_append, e, e2, e3]
theorem lsC_filter (ls : List (List Nat)) : (lsC ls).filter isB = ls.flatMap (·.filter isB) := by
  have e1 : isB 91 = false := by decide
  have e2 : isB 93 = false := by decide
  unfold lsC
  rw [List.filter_cons, e1]
  simp only [Bool.false_eq_true, if_false, List.filter_append, joinC_filter]
  simp [List.filter_cons, e2]
theorem joinC_mem {c : Nat} : ∀ {ls : List (List Nat)}, c ∈ joinC (ls.map quoC) → c = 39 ∨ c = 44 ∨ c = 32 ∨ ∃ l ∈ ls, c ∈ l
  | [], h => nomatch h
  | [x], h => by
    have h' : c ∈ quoC x := h
    simp only [quoC, List.mem_cons, List.mem_append, List.not_mem_nil, or_false] at h'
    rcases h' with h' | h' | h'
    · exact .inl h'
    · exact .inr (.inr (.inr ⟨x, .head _, h'⟩))
    · exact .inl h'
  | x :: y :: r, h => by
    have h' : c ∈ quoC x ++ [44, 32] ++ joinC ((y :: r).map quoC) := h
    simp only [List.mem_append, quoC, List.mem_cons, List.not_mem_nil, or_false] at h'
    rcases h' with (((h' | h' | h') | h' | h') | h')
    · exact .inl h'
    · exact .inr (.inr (.inr ⟨x, .head _, h'⟩))
    · exact .inl h'
    · exact .inr (.inl h')
    · exact .inr (.inr (.inl h'))
    · rcases joinC_mem (ls := y :: r) h' with q | q | q | ⟨l, hl, hc⟩
      · exact .inl q
      · exact .inr (.inl q)
      · exact .inr (.inr (.inl q))
      · exact .inr (.inr (.inr ⟨l, .tail _ hl, hc⟩))
theorem lsC_mem {c : Nat} {ls : List (List Nat)} (h : c ∈ lsC ls) : c ∈ [39, 44, 32, 91, 93] ∨ ∃ l ∈ ls, c ∈ l := by
  simp only [lsC, List.mem_cons, List.mem_append, List.not_mem_nil, or_false] at h
  rcases h with h | h | h
  · subst h; exact .inl (by decide)
  · rcases joinC_mem h with q | q | q | q
    · subst q; exact .inl (by decide)
    · subst q; exact .inl (by decide)
    · subst q; exact .inl (by decide)
    · exact .inr q
  · subst h; exact .inl (by decide)
theorem joinC_len : ∀ {ls : List (List Nat)}, (∀ l ∈ ls, l.length ≤ 10) → (joinC (ls.map quoC)).length ≤ 14 * ls.length
  | [], _ => Nat.zero_le _
  | [x], h => by
    have := h x (.head _)
    show (quoC x).length ≤ _
    simp only [quoC, List.length_cons, List.length_append, List.length_nil]; omega
  | x :: y :: r, h => by
    have h1 := h x (.head _)
    have h2 := joinC_len (ls := y :: r) (fun l hl => h l (.tail _ hl))
    show (quoC x ++ [44, 32] ++ joinC ((y :: r).map quoC)).length ≤ _
    simp only [quoC, List.length_cons, List.length_append, List.length_nil] at h2 ⊢; omega
theorem lsC_len {ls : List (List Nat)} (h : ∀ l ∈ ls, l.length ≤ 10) : (lsC ls).length ≤ 14 * ls.length + 2 := by
  have := joinC_len h
  simp only [lsC, List.length_cons, List.length_append, List.length_nil]; omega
theorem joinC_len_eq : ∀ {ls : List (List Nat)}, (∀ l ∈ ls, l.length = 10) → ls ≠ [] → (joinC (ls.map quoC)).length + 2 = 14 * ls.length
  | [], _, h => absurd rfl h
  | [x], h, _ => by
    have := h x (.head _)
    show (quoC x).length + 2 = _
    simp only [quoC, List.length_cons, List.length_append, List.length_nil]; omega
  | x :: y :: r, h, _ => by
    have h1 := h x (.head _)
    have h2 := joinC_len_eq (ls := y :: r) (fun l hl => h l (.tail _ hl)) (by simp)
    show (quoC x ++ [44, 32] ++ joinC ((y :: r).map quoC)).length + 2 = _
    simp only [quoC, List.length_cons, List.length_append, List.length_nil] at h2 ⊢; omega
end
/-! Q_b64 -/
section
theorem fig_all : ∀ c ∈ List.range 128, isB c = true → b64v (c : Int) = figZ c ∧ 0 ≤ figZ c ∧ figZ c < 64 ∧ b64c (figZ c) = (c : Int) := by decide +kernel
theorem fig_is {c : Nat} (h : c < 128) (hb : isB c = true) : b64v (c : Int) = figZ c ∧ 0 ≤ figZ c ∧ figZ c < 64 ∧ b64c (figZ c) = (c : Int) := fig_all c (List.mem_range.mpr h) hb
theorem ints_octs {x : Str} (h : ∀ c ∈ x.cps.toList, c < 128) : intsOf (octs x) = x.cps.toList.map fun (c : Nat) => (c : Int) := by
  unfold intsOf octs
  rw [List.map_map]
  refine List.map_congr_left fun c hc => ?_
  have := h c hc
  show ((c.toUInt8.toNat : Nat) : Int) = (c : Int)
  have e : c.toUInt8.toNat = c := by
    simp [Nat.toUInt8, UInt8.toNat_ofNat']
    omega
  rw [e]
/-- the same turn upon a figure -/
def fstep (st : List Int × Int × Int) (v : Int) : List Int × Int × Int :=
  if st.2.1 = 0 then (st.1, 1, v)
  else if st.2.1 = 1 then (st.1 ++ [st.2.2 * 4 + v / 16], 2, v % 16)
  else if st.2.1 = 2 then (st.1 ++ [st.2.2 * 16 + v / 4], 3, v % 4)
  else (st.1 ++ [st.2.2 * 64 + v], 0, 0)
theorem rd_filter : ∀ (l : List Nat) (st : List Int × Int × Int), (∀ c ∈ l, c < 128) → (l.map fun (c : Nat) => (c : Int)).foldl dstep st = ((l.filter isB).map figZ).foldl fstep st
  | [], _, _ => rfl
  | c :: l, st, h => by
    have ih := fun st => rd_filter l st fun d hd => h d (.tail _ hd)
    rw [List.map_cons, List.foldl_cons, ih]
    cases hb : isB c with
    | false =>
      rw [List.filter_cons, hb]
      have hv : 64 ≤ b64v (c : Int) := by
        have : ¬ b64v (c : Int) < 64 := by simpa [isB] using hb
        omega
      have e : dstep st (c : Int) = st := by simp [dstep, hv]
      rw [e]; rfl
    | true =>
      rw [List.filter_cons, hb]
      obtain ⟨h1, h2, h3, _⟩ := fig_is (h c (.head _)) hb
      have e : dstep st (c : Int) = fstep st (figZ c) := by
        unfold dstep fstep
        simp only [h1, show ¬ 64 ≤ figZ c by omega, if_false]
      simp only [if_true, List.map_cons, List.foldl_cons, e]
theorem fstep_q : ∀ (fs : List Int) (st : List Int × Int × Int), (st.2.1 = 0 ∨ st.2.1 = 1 ∨ st.2.1 = 2 ∨ st.2.1 = 3) → (fs.foldl fstep st).2.1 = (st.2.1 + (fs.length : Int)) % 4
  | [], st, h => by simp only [List.foldl_nil, List.length_nil]; omega
  | v :: fs, st, h => by
    rw [List.foldl_cons, fstep_q fs]
    · rcases h with h | h | h | h <;> simp [fstep, h] <;> omega
    · rcases h with h | h | h | h <;> simp [fstep, h]
theorem drop4 {fs : List Int} {i : Nat} (h : 4 * (i + 1) ≤ fs.length) : fs.take (4 * (i + 1)) = fs.take (4 * i) ++ [fs.getD (4 * i) 0, fs.getD (4 * i + 1) 0, fs.getD (4 * i + 2) 0, fs.getD (4 * i + 3) 0] := by
  have g : ∀ j, j < fs.length → fs.take (j + 1) = fs.take j ++ [fs.getD j 0] := by
    intro j hj
    rw [List.take_add_one, List.getD_eq_getElem?_getD, List.getElem?_eq_getElem hj]
    rfl
  rw [show 4 * (i + 1) = 4 * i + 3 + 1 by omega, g _ (by omega), g _ (by omega), g _ (by omega), g _ (by omega)]
  simp
theorem cut1 {a b c d : Int} (hb : 0 ≤ b ∧ b < 64) (hc : 0 ≤ c ∧ c < 64) (hd : 0 ≤ d ∧ d < 64) : (a * 262144 + b * 4096 + c * 64 + d) / 65536 = a * 4 + b / 16 := by omega
theorem cut2 {a b c d : Int} (hc : 0 ≤ c ∧ c < 64) (hd : 0 ≤ d ∧ d < 64) : (a * 262144 + b * 4096 + c * 64 + d) / 256 % 256 = b % 16 * 16 + c / 4 := by omega
theorem cut3 {a b c d : Int} (hd : 0 ≤ d ∧ d < 64) : (a * 262144 + b * 4096 + c * 64 + d) % 256 = c % 4 * 64 + d := by omega
theorem quad_fold {a b c d : Int} (ha : 0 ≤ a ∧ a < 64) (hb : 0 ≤ b ∧ b < 64) (hc : 0 ≤ c ∧ c < 64) (hd : 0 ≤ d ∧ d < 64) (out : List Int) :
    [a, b, c, d].foldl fstep (out, 0, 0) = (out ++ [(a * 262144 + b * 4096 + c * 64 + d).fdiv 65536, ((a * 262144 + b * 4096 + c * 64 + d).fdiv 256).fmod 256, (a * 262144 + b * 4096 + c * 64 + d).fmod 256], 0, 0) := by
  simp only [List.foldl_cons, List.foldl_nil, fstep, if_true, show ¬ ((1 : Int) = 0) by decide, show ¬ ((2 : Int) = 0) by decide, show ¬ ((2 : Int) = 1) by decide, show ¬ ((3 : Int) = 0) by decide, show ¬ ((3 : Int) = 1) by decide, show ¬ ((3 : Int) = 2) by decide, if_false]
  rw [Int.fdiv_eq_ediv_of_nonneg _ (show (0 : Int) ≤ 65536 by decide), Int.fdiv_eq_ediv_of_nonneg _ (show (0 : Int) ≤ 256 by decide), Int.fmod_eq_emod_of_nonneg _ (show (0 : Int) ≤ 256 by decide), Int.fmod_eq_emod_of_nonneg _ (show (0 : Int) ≤ 256 by decide)]
  rw [cut1 hb hc hd, cut2 hc hd, cut3 hd]
  simp
theorem getD_in {fs : List Int} (hb : ∀ v ∈ fs, 0 ≤ v ∧ v < 64) (j : Nat) : 0 ≤ fs.getD j 0 ∧ fs.getD j 0 < 64 := by
  rw [List.getD_eq_getElem?_getD]
  cases h : fs[j]? with
  | none => simp
  | some v => exact hb v (List.mem_of_getElem? h)
theorem fold_oct {fs : List Int} (hb : ∀ v ∈ fs, 0 ≤ v ∧ v < 64) : ∀ i, 4 * i ≤ fs.length → (fs.take (4 * i)).foldl fstep ([], 0, 0) = (octL fs i, 0, 0)
  | 0, _ => rfl
  | i + 1, h => by
    rw [drop4 h, List.foldl_append, fold_oct hb i (by omega), quad_fold (getD_in hb _) (getD_in hb _) (getD_in hb _) (getD_in hb _)]
    rfl
theorem figs_in {l : List Nat} (h : ∀ c ∈ l, c < 128) (hb : ∀ c ∈ l, isB c = true) : ∀ v ∈ l.map figZ, 0 ≤ v ∧ v < 64 := by
  intro v hv
  obtain ⟨c, hc, rfl⟩ := List.mem_map.mp hv
  obtain ⟨_, h2, h3, _⟩ := fig_is (h c hc) (hb c hc)
  exact ⟨h2, h3⟩
theorem read_fold {x : Str} {l : List Nat} (h : ∀ c ∈ x.cps.toList, c < 128) (hl : x.cps.toList.filter isB = l) : (intsOf (octs x)).foldl dstep ([], 0, 0) = (l.map figZ).foldl fstep ([], 0, 0) := by
  rw [ints_octs h, rd_filter _ _ h, hl]
theorem filter_in {x : Str} {l : List Nat} (h : ∀ c ∈ x.cps.toList, c < 128) (hl : x.cps.toList.filter isB = l) : (∀ c ∈ l, c < 128) ∧ ∀ c ∈ l, isB c = true := by
  subst hl
  exact ⟨fun c hc => h c (List.mem_filter.mp hc).1, fun c hc => (List.mem_filter.mp hc).2⟩
/-- what is read depends on the letters alone -/
theorem readV_four {x : Str} {l : List Nat} (t : Tok) (h : ∀ c ∈ x.cps.toList, c < 128) (hl : x.cps.toList.filter isB = l) (h4 : l.length % 4 = 0) : readV x t = .bytes (byteArr (octL (l.map figZ) (l.length / 4))) t := by
  obtain ⟨a1, a2⟩ := filter_in h hl
  have hb := figs_in a1 a2
  have e := fold_oct hb (l.length / 4) (by rw [List.length_map]; omega)
  rw [List.take_of_length_le (by rw [List.length_map]; omega), ← read_fold h hl] at e
  exact readV_yes e.symm
theorem readV_odd {x : Str} {l : List Nat} (t : Tok) (h : ∀ c ∈ x.cps.toList, c < 128) (hl : x.cps.toList.filter isB = l) (h4 : l.length % 4 ≠ 0) : readV x t = .none := by
  have e := fstep_q (l.map figZ) ([], 0, 0) (.inl rfl)
  rw [← read_fold h hl, List.length_map] at e
  unfold readV
  rw [if_neg]
  intro q
  rw [q] at e
  simp only [Int.zero_add] at e
  omega
theorem ints_oct8 {y : Str} (hb : ∀ v ∈ y.cps.toList.map figZ, 0 ≤ v ∧ v < 64) : intsOf (oct8 y) = octZ y := by
  unfold intsOf oct8
  rw [List.map_map]
  have hr : ∀ v ∈ octZ y, 0 ≤ v ∧ v < 256 := octL_range hb _
  rw [List.map_congr_left (g := id)]
  · simp
  · intro v hv
    obtain ⟨h0, h1⟩ := hr v hv
    show ((v.toNat.toUInt8.toNat : Nat) : Int) = v
    have e : v.toNat.toUInt8.toNat = v.toNat := by
      simp [Nat.toUInt8, UInt8.toNat_ofNat']
      omega
    rw [e]
    omega
theorem low_q (lc : Int) {o : Int} (h : 0 ≤ o ∧ o < 256) : (lc * 256 + o) % 65536 % 256 = o := by omega
theorem low_n {l p o : Int} (h : l % 256 = p) (hp : 0 ≤ p ∧ p < 256) (ho : 0 ≤ o ∧ o < 256) : (l * 256 + o) % 65536 = p * 256 + o := by omega
theorem mod_lo (x : Int) : 0 ≤ x % 65536 := Int.emod_nonneg _ (by decide)
theorem w_one {l p a b : Int} (q : l % 256 = p) (hp : p = a * 4 + b / 16) (ha : 0 ≤ a ∧ a < 64) (hb : 0 ≤ b ∧ b < 64) : l / 4 % 64 = a := by omega
theorem w_two {p o a b c : Int} (hp : p = a * 4 + b / 16) (ho : o = b % 16 * 16 + c / 4) (hb : 0 ≤ b ∧ b < 64) (hc : 0 ≤ c ∧ c < 64) : (p * 256 + o) / 16 % 64 = b := by omega
theorem w_three {p o b c d : Int} (hp : p = b % 16 * 16 + c / 4) (ho : o = c % 4 * 64 + d) (hc : 0 ≤ c ∧ c < 64) (hd : 0 ≤ d ∧ d < 64) : (p * 256 + o) / 64 % 64 = c := by omega
theorem w_four {p o c d : Int} (ho : o = c % 4 * 64 + d) (hd : 0 ≤ d ∧ d < 64) : (p * 256 + o) % 64 = d := by omega
theorem r_one {a b : Int} (ha : 0 ≤ a ∧ a < 64) (hb : 0 ≤ b ∧ b < 64) : 0 ≤ a * 4 + b / 16 ∧ a * 4 + b / 16 < 256 := by omega
theorem r_two {b c : Int} (hc : 0 ≤ c ∧ c < 64) : 0 ≤ b % 16 * 16 + c / 4 ∧ b % 16 * 16 + c / 4 < 256 := by omega
theorem r_three {c d : Int} (hd : 0 ≤ d ∧ d < 64) : 0 ≤ c % 4 * 64 + d ∧ c % 4 * 64 + d < 256 := by omega
theorem enc_three {a b c d : Int} (ha : 0 ≤ a ∧ a < 64) (hb : 0 ≤ b ∧ b < 64) (hc : 0 ≤ c ∧ c < 64) (hd : 0 ≤ d ∧ d < 64) (out : List Int) {lc v : Int} (h0 : 0 ≤ lc) (hv : v = a * 262144 + b * 4096 + c * 64 + d) :
    ∃ lc', 0 ≤ lc' ∧ [v.fdiv 65536, (v.fdiv 256).fmod 256, v.fmod 256].foldl estep (out, 0, lc) = (out ++ [b64c a, b64c b, b64c c, b64c d], 0, lc') := by
  rw [Int.fdiv_eq_ediv_of_nonneg _ (show (0 : Int) ≤ 65536 by decide), Int.fdiv_eq_ediv_of_nonneg _ (show (0 : Int) ≤ 256 by decide), Int.fmod_eq_emod_of_nonneg _ (show (0 : Int) ≤ 256 by decide), Int.fmod_eq_emod_of_nonneg _ (show (0 : Int) ≤ 256 by decide)]
  rw [hv, cut1 hb hc hd, cut2 hc hd, cut3 hd]
  obtain ⟨o1, ho1⟩ : ∃ o1, o1 = a * 4 + b / 16 := ⟨_, rfl⟩
  obtain ⟨o2, ho2⟩ : ∃ o2, o2 = b % 16 * 16 + c / 4 := ⟨_, rfl⟩
  obtain ⟨o3, ho3⟩ : ∃ o3, o3 = c % 4 * 64 + d := ⟨_, rfl⟩
  have r1 : 0 ≤ o1 ∧ o1 < 256 := ho1 ▸ r_one ha hb
  have r2 : 0 ≤ o2 ∧ o2 < 256 := ho2 ▸ r_two hc
  have r3 : 0 ≤ o3 ∧ o3 < 256 := ho3 ▸ r_three hd
  rw [← ho1, ← ho2, ← ho3]
  simp only [List.foldl_cons, List.foldl_nil, estep, if_true, show ¬ ((2 : Int) = 0) by decide, show ¬ ((4 : Int) = 0) by decide, show ¬ ((4 : Int) = 2) by decide, if_false]
  have q1 := low_q lc r1
  have s1 := mod_lo (lc * 256 + o1)
  generalize (lc * 256 + o1) % 65536 = l1 at q1 s1 ⊢
  have q2 := low_n q1 r1 r2
  have q2' : (o1 * 256 + o2) % 256 = o2 := by rw [Int.add_comm, Int.add_mul_emod_self_right]; exact Int.emod_eq_of_lt r2.1 r2.2
  rw [q2, low_n q2' r2 r3, w_one q1 ho1 ha hb, w_two ho1 ho2 hb hc, w_three ho2 ho3 hc hd, w_four ho3 hd]
  exact ⟨o2 * 256 + o3, Int.add_nonneg (Int.mul_nonneg r2.1 (show (0 : Int) ≤ 256 by decide)) r3.1, by simp⟩
theorem fold_enc {fs : List Int} (hb : ∀ v ∈ fs, 0 ≤ v ∧ v < 64) : ∀ i, 4 * i ≤ fs.length → ∃ lc, 0 ≤ lc ∧ (octL fs i).foldl estep ([], 0, 0) = ((fs.take (4 * i)).map b64c, 0, lc)
  | 0, _ => ⟨0, by decide, rfl⟩
  | i + 1, h => by
    obtain ⟨lc, h0, e⟩ := fold_enc hb i (by omega)
    obtain ⟨lc', h1, e1⟩ := enc_three (getD_in hb (4 * i)) (getD_in hb (4 * i + 1)) (getD_in hb (4 * i + 2)) (getD_in hb (4 * i + 3)) ((fs.take (4 * i)).map b64c) h0 (v := quadV fs i) rfl
    refine ⟨lc', h1, ?_⟩
    rw [octL, List.foldl_append, e, e1, drop4 h, List.map_append]
    rfl
/-- the octets of letters, written again -/
theorem enc_letters {y : Str} (h : ∀ c ∈ y.cps.toList, c < 128) (hB : ∀ c ∈ y.cps.toList, isB c = true) (h4 : y.length % 4 = 0) : byteArr ((intsOf (oct8 y)).foldl estep ([], 0, 0)).1 = (octs y).toArray := by
  have hb := figs_in h hB
  rw [ints_oct8 hb]
  have hl : y.cps.toList.length = y.length := by rw [Array.length_toList]; rfl
  obtain ⟨lc, _, e⟩ := fold_enc hb (y.length / 4) (by rw [List.length_map]; omega)
  unfold octZ
  rw [e, List.take_of_length_le (by rw [List.length_map]; omega), List.map_map]
  unfold byteArr octs
  rw [List.map_map]
  congr 1
  refine List.map_congr_left fun c hc => ?_
  obtain ⟨_, _, _, h4⟩ := fig_is (h c hc) (hB c hc)
  show (b64c (figZ c)).toNat.toUInt8 = c.toUInt8
  rw [h4]
  rfl
end
/-! Q_rows -/
section
theorem bitAnd_nat (x y : Nat) : Builtin.bitAnd (x : Int) (y : Int) = ((x &&& y : Nat) : Int) := by
  unfold Builtin.bitAnd
  have h1 : decide (0 ≤ (x : Int)) = true := by simp
  have h2 : decide (0 ≤ (y : Int)) = true := by simp
  rw [h1, h2]
  rfl
theorem tb (N k : Nat) : N.testBit k = decide (N / 2 ^ k % 2 = 1) := Nat.testBit_eq_decide_div_mod_eq ..
theorem and_pow (N k : Nat) : N &&& 2 ^ k = (N.testBit k).toNat * 2 ^ k := by
  refine Nat.eq_of_testBit_eq fun i => ?_
  rw [Nat.testBit_and, Nat.testBit_two_pow]
  by_cases h : k = i
  · subst h
    cases hb : N.testBit k <;> simp
  · cases hb : N.testBit k <;> simp [h, Nat.testBit_two_pow]
theorem and_one (N k : Nat) : decide (N &&& 2 ^ k = 2 ^ k) = N.testBit k := by
  rw [and_pow]
  have := Nat.two_pow_pos k
  cases N.testBit k
  · simp; omega
  · simp
theorem and_2112 (N : Nat) : decide (N &&& 2112 = 2112) = (N.testBit 11 && N.testBit 6) := by
  rw [show (2112 : Nat) = 2 ^ 11 ||| 2 ^ 6 by decide, Nat.and_or_distrib_left, and_pow, and_pow]
  cases N.testBit 11 <;> cases N.testBit 6 <;> decide
theorem and_1032 (N : Nat) : decide (N &&& 1032 = 1032) = (N.testBit 10 && N.testBit 3) := by
  rw [show (1032 : Nat) = 2 ^ 10 ||| 2 ^ 3 by decide, Nat.and_or_distrib_left, and_pow, and_pow]
  cases N.testBit 10 <;> cases N.testBit 3 <;> decide
theorem and_513 (N : Nat) : decide (N &&& 513 = 513) = (N.testBit 9 && N.testBit 0) := by
  rw [show (513 : Nat) = 2 ^ 9 ||| 2 ^ 0 by decide, Nat.and_or_distrib_left, and_pow, and_pow]
  cases N.testBit 9 <;> cases N.testBit 0 <;> decide
theorem bits4 (m : Nat) : m % 16 = m % 2 + 2 * (m / 2 % 2) + 4 * (m / 2 / 2 % 2) + 8 * (m / 2 / 2 / 2 % 2) := by omega
theorem bits_type (N : Nat) : N / 4096 % 16 = N / 2 ^ 12 % 2 + 2 * (N / 2 ^ 13 % 2) + 4 * (N / 2 ^ 14 % 2) + 8 * (N / 2 ^ 15 % 2) := by
  have h := bits4 (N / 4096)
  rw [Nat.div_div_eq_div_mul, Nat.div_div_eq_div_mul, Nat.div_div_eq_div_mul] at h
  exact h
theorem and_type (N : Nat) : N &&& 61440 = N / 4096 % 16 * 4096 := by
  have e : N / 4096 % 16 = N / 2 ^ 12 % 2 + 2 * (N / 2 ^ 13 % 2) + 4 * (N / 2 ^ 14 % 2) + 8 * (N / 2 ^ 15 % 2) := bits_type N
  have t12 := tb N 12
  have t13 := tb N 13
  have t14 := tb N 14
  have t15 := tb N 15
  have v : ∀ k, N / 2 ^ k % 2 = (N.testBit k).toNat := by
    intro k
    rw [tb]
    rcases Nat.mod_two_eq_zero_or_one (N / 2 ^ k) with h | h <;> simp [h]
  rw [e, v, v, v, v, show (61440 : Nat) = 2 ^ 15 ||| 2 ^ 14 ||| 2 ^ 13 ||| 2 ^ 12 by decide, Nat.and_or_distrib_left, Nat.and_or_distrib_left, Nat.and_or_distrib_left, and_pow, and_pow, and_pow, and_pow]
  cases N.testBit 12 <;> cases N.testBit 13 <;> cases N.testBit 14 <;> cases N.testBit 15 <;> decide
/-- the sign of the kind -/
def typS (t : Int) : Str := Txt.item (Str.ofString "?pc?d?b?-?l?s???") t
theorem hit_pos {i : Nat} (hi : 0 < i) (N : Nat) (a : Addr) (m : Nat) (s : Str) : fmHit i (N : Int) (a, ((m : Nat) : Int), s) = decide (N &&& m = m) := by
  unfold fmHit
  rw [if_neg (by omega), bitAnd_nat]
  congr 1
  exact propext ⟨fun h => by have h' : ((N &&& m : Nat) : Int) = ((m : Nat) : Int) := h; omega, fun h => by show ((N &&& m : Nat) : Int) = ((m : Nat) : Int); omega⟩
theorem sign_one {i : Nat} (hi : 0 < i) (N : Nat) (a : Addr) (m : Nat) (s : Str) {b : Bool} (h : decide (N &&& m = m) = b) : fmSign (N : Int) i [(a, ((m : Nat) : Int), s)] = if b then s else Str.ofString "-" := by
  unfold fmSign
  rw [List.find?_cons, hit_pos hi, h]
  cases b <;> simp <;> omega
theorem sign_three {i : Nat} (hi : 0 < i) (N : Nat) (a1 a2 a3 : Addr) (m1 m2 m3 : Nat) (s1 s2 s3 : Str) {b1 b2 b3 : Bool} (h1 : decide (N &&& m1 = m1) = b1) (h2 : decide (N &&& m2 = m2) = b2) (h3 : decide (N &&& m3 = m3) = b3) :
    fmSign (N : Int) i [(a1, ((m1 : Nat) : Int), s1), (a2, ((m2 : Nat) : Int), s2), (a3, ((m3 : Nat) : Int), s3)] = if b1 then s1 else if b2 then s2 else if b3 then s3 else Str.ofString "-" := by
  unfold fmSign
  rw [List.find?_cons, hit_pos hi, h1, List.find?_cons, hit_pos hi, h2, List.find?_cons, hit_pos hi, h3]
  cases b1 <;> cases b2 <;> cases b3 <;> simp <;> omega
theorem type_all : ∀ t ∈ List.range 16, (match (tab[0]'(by decide)).2.find? (fun e => decide (((t * 4096 : Nat) : Int) = e.2.1)) with
  | some e => e.2.2
  | none => Str.ofString "?") = typS (t : Int) := by decide +kernel
theorem sign_type (N : Nat) : fmSign (N : Int) 0 (tab[0]'(by decide)).2 = typS ((N / 4096 % 16 : Nat) : Int) := by
  have e : fmHit 0 (N : Int) = fun e => decide (((N / 4096 % 16 * 4096 : Nat) : Int) = e.2.1) := by
    funext e
    unfold fmHit
    rw [if_pos rfl, show (61440 : Int) = ((61440 : Nat) : Int) from rfl, bitAnd_nat, and_type]
  have h := type_all (N / 4096 % 16) (List.mem_range.mpr (Nat.mod_lt _ (by decide)))
  unfold fmSign
  rw [e]
  exact h
/-- the signs of a mode, told by its bits -/
def rowS (N : Nat) : List Str := [typS ((N / 4096 % 16 : Nat) : Int),
  if N.testBit 8 then Str.ofString "r" else Str.ofString "-", if N.testBit 7 then Str.ofString "w" else Str.ofString "-",
  if N.testBit 11 && N.testBit 6 then Str.ofString "s" else if N.testBit 11 then Str.ofString "S" else if N.testBit 6 then Str.ofString "x" else Str.ofString "-",
  if N.testBit 5 then Str.ofString "r" else Str.ofString "-", if N.testBit 4 then Str.ofString "w" else Str.ofString "-",
  if N.testBit 10 && N.testBit 3 then Str.ofString "s" else if N.testBit 10 then Str.ofString "S" else if N.testBit 3 then Str.ofString "x" else Str.ofString "-",
  if N.testBit 2 then Str.ofString "r" else Str.ofString "-", if N.testBit 1 then Str.ofString "w" else Str.ofString "-",
  if N.testBit 9 && N.testBit 0 then Str.ofString "t" else if N.testBit 9 then Str.ofString "T" else if N.testBit 0 then Str.ofString "x" else Str.ofString "-"]
theorem signs_row (N : Nat) : fmSigns (N : Int) = rowS N := by
  have e : fmSigns (N : Int) = [fmSign N 0 (tab[0]'(by decide)).2, fmSign N 1 [(126, ((256 : Nat) : Int), Str.ofString "r")], fmSign N 2 [(128, ((128 : Nat) : Int), Str.ofString "w")],
    fmSign N 3 [(130, ((2112 : Nat) : Int), Str.ofString "s"), (131, ((2048 : Nat) : Int), Str.ofString "S"), (132, ((64 : Nat) : Int), Str.ofString "x")],
    fmSign N 4 [(134, ((32 : Nat) : Int), Str.ofString "r")], fmSign N 5 [(136, ((16 : Nat) : Int), Str.ofString "w")],
    fmSign N 6 [(138, ((1032 : Nat) : Int), Str.ofString "s"), (139, ((1024 : Nat) : Int), Str.ofString "S"), (140, ((8 : Nat) : Int), Str.ofString "x")],
    fmSign N 7 [(142, ((4 : Nat) : Int), Str.ofString "r")], fmSign N 8 [(144, ((2 : Nat) : Int), Str.ofString "w")],
    fmSign N 9 [(146, ((513 : Nat) : Int), Str.ofString "t"), (147, ((512 : Nat) : Int), Str.ofString "T"), (148, ((1 : Nat) : Int), Str.ofString "x")]] := rfl
  rw [e, sign_type, sign_one (by decide) N _ 256 _ (and_one N 8), sign_one (by decide) N _ 128 _ (and_one N 7), sign_three (by decide) N _ _ _ 2112 2048 64 _ _ _ (and_2112 N) (and_one N 11) (and_one N 6),
    sign_one (by decide) N _ 32 _ (and_one N 5), sign_one (by decide) N _ 16 _ (and_one N 4), sign_three (by decide) N _ _ _ 1032 1024 8 _ _ _ (and_1032 N) (and_one N 10) (and_one N 3),
    sign_one (by decide) N _ 4 _ (and_one N 2), sign_one (by decide) N _ 2 _ (and_one N 1), sign_three (by decide) N _ _ _ 513 512 1 _ _ _ (and_513 N) (and_one N 9) (and_one N 0)]
  rfl
theorem low_bit (N k : Nat) : ((N : Int).fdiv (2 ^ k)).fmod 2 = if N.testBit k then 1 else 0 := by
  rw [Int.fdiv_eq_ediv_of_nonneg _ (by exact Int.le_of_lt (Int.pow_pos (by decide))), Int.fmod_eq_emod_of_nonneg _ (by decide), tb]
  have e : ((N : Int) / 2 ^ k) % 2 = ((N / 2 ^ k % 2 : Nat) : Int) := by
    rw [← kbt_cast]; rfl
  rw [e]
  rcases Nat.mod_two_eq_zero_or_one (N / 2 ^ k) with h | h <;> simp [h]
theorem ls_plain : ∀ i ∈ [0, 1, 3, 4, 6, 7], ∀ b : Bool, Txt.item (Str.ofString "-" ++ Txt.item (Str.ofString "rwx") ((i % 3 : Nat) : Int)) (if b then 1 else 0) = if b then (if i % 3 = 0 then Str.ofString "r" else Str.ofString "w") else Str.ofString "-" := by decide +kernel
theorem ls_high : ∀ i ∈ [2, 5, 8], ∀ a b : Bool, Txt.item (if (if a then (1 : Int) else 0) = 0 then Str.ofString "-" ++ Txt.item (Str.ofString "rwx") ((i % 3 : Nat) : Int) else if i = 8 then Str.ofString "Tt" else Str.ofString "Ss") (if b then 1 else 0) =
    if a && b then (if i = 8 then Str.ofString "t" else Str.ofString "s") else if a then (if i = 8 then Str.ofString "T" else Str.ofString "S") else if b then Str.ofString "x" else Str.ofString "-" := by decide +kernel
theorem ls_at (N i : Nat) (hi : i ∈ [0, 1, 3, 4, 6, 7]) : lsSign (N : Int) i = if N.testBit (8 - i) then (if i % 3 = 0 then Str.ofString "r" else Str.ofString "w") else Str.ofString "-" := by
  have h2 : ¬ i % 3 = 2 := by
    simp only [List.mem_cons, List.not_mem_nil, or_false] at hi
    omega
  unfold lsSign
  rw [if_neg h2, if_pos rfl, low_bit]
  exact ls_plain i hi _
theorem ls_at2 (N i : Nat) (hi : i ∈ [2, 5, 8]) : lsSign (N : Int) i = if N.testBit (11 - i / 3) && N.testBit (8 - i) then (if i = 8 then Str.ofString "t" else Str.ofString "s") else if N.testBit (11 - i / 3) then (if i = 8 then Str.ofString "T" else Str.ofString "S") else if N.testBit (8 - i) then Str.ofString "x" else Str.ofString "-" := by
  have h2 : i % 3 = 2 := by
    simp only [List.mem_cons, List.not_mem_nil, or_false] at hi
    omega
  unfold lsSign
  rw [if_pos h2, low_bit, low_bit]
  exact ls_high i hi _ _
theorem ls_row (N : Nat) : (lsText (N : Int) 9).cps.toList = (rowS N).flatMap (·.cps.toList) := by
  have e : lsText (N : Int) 9 = Txt.item (Str.ofString "?pc?d?b?-?l?s???") (((N : Int).fdiv 4096).fmod 16) ++ lsSign N 0 ++ lsSign N 1 ++ lsSign N 2 ++ lsSign N 3 ++ lsSign N 4 ++ lsSign N 5 ++ lsSign N 6 ++ lsSign N 7 ++ lsSign N 8 := rfl
  have et : ((N : Int).fdiv 4096).fmod 16 = ((N / 4096 % 16 : Nat) : Int) := by
    rw [Int.fdiv_eq_ediv_of_nonneg _ (by decide), Int.fmod_eq_emod_of_nonneg _ (by decide)]
    rfl
  rw [e, et, ls_at N 0 (by decide), ls_at N 1 (by decide), ls_at2 N 2 (by decide), ls_at N 3 (by decide), ls_at N 4 (by decide), ls_at2 N 5 (by decide), ls_at N 6 (by decide), ls_at N 7 (by decide), ls_at2 N 8 (by decide)]
  simp only [Str.cps_append, Array.toList_append]
  simp only [rowS, List.flatMap_cons, List.flatMap_nil, List.append_nil, List.append_assoc]
  rfl
theorem ls_fm {n : Int} (h : 0 ≤ n) : lsText n 9 = fmT n := by
  obtain ⟨N, rfl⟩ := Int.eq_ofNat_of_zero_le h
  refine Str.ext' (Array.toList_inj.mp ?_)
  unfold fmT
  rw [join_empty, signs_row, ls_row]
end
/-! Q_deal -/
section
/-- adding a bit that is not there -/
theorem addbit {m k : Nat} (h : m.testBit k = false) (j : Nat) : (m + 2 ^ k).testBit j = (m.testBit j || decide (j = k)) := by
  have hp := Nat.two_pow_pos k
  have hlt : m % 2 ^ k < 2 ^ k := Nat.mod_lt _ hp
  have he : m / 2 ^ k % 2 = 0 := by
    rw [tb] at h
    have : ¬ m / 2 ^ k % 2 = 1 := by simpa using h
    omega
  obtain ⟨e, hE⟩ : ∃ e, m / 2 ^ k = 2 * e := ⟨m / 2 ^ k / 2, by omega⟩
  have hm : m = 2 ^ k * (2 * e) + m % 2 ^ k := by rw [← hE]; exact (Nat.div_add_mod m (2 ^ k)).symm
  have hm2 : m + 2 ^ k = 2 ^ k * (2 * e + 1) + m % 2 ^ k := by
    rw [Nat.mul_add, Nat.mul_one]; omega
  generalize m % 2 ^ k = r at hlt hm hm2
  rw [hm2, Nat.testBit_two_pow_mul_add _ hlt]
  conv => rhs; rw [hm, Nat.testBit_two_pow_mul_add _ hlt]
  by_cases hj : j < k
  · rw [if_pos hj, if_pos hj, decide_eq_false (by omega), Bool.or_false]
  · rw [if_neg hj, if_neg hj]
    by_cases hjk : j = k
    · subst hjk
      rw [Nat.sub_self, decide_eq_true rfl, Bool.or_true, tb]
      simp
    · rw [decide_eq_false hjk, Bool.or_false]
      obtain ⟨i, hi⟩ : ∃ i, j - k = i + 1 := ⟨j - k - 1, by omega⟩
      rw [hi, Nat.testBit_succ, Nat.testBit_succ]
      congr 1
      omega
def loB (q : Nat) : Nat := 9 - q
def hiB (q : Nat) : Nat := 12 - q / 3
def typL (t : Nat) : List Nat := (typS (t : Int)).cps.toList.filter fun c => !decide (c ∈ [45, 63])
/-- the letter at a place, if any -/
def cellB (b : Nat → Bool) (q : Nat) : List Nat :=
  if q = 0 then typL ((b 12).toNat + 2 * (b 13).toNat + 4 * (b 14).toNat + 8 * (b 15).toNat)
  else if q % 3 = 0 then (if b (hiB q) && b (loB q) then [if q = 9 then 116 else 115] else if b (hiB q) then [if q = 9 then 84 else 83] else if b (loB q) then [120] else [])
  else if b (loB q) then [if q % 3 = 1 then 114 else 119] else []
def cellsN (N : Nat) : List Nat := (List.range 10).flatMap (cellB N.testBit)
theorem cellB_other {b b' : Nat → Bool} {q k : Nat} (hq : q < 10) (hk : k < 10) (hk0 : k ≠ 0) (hne : q ≠ k) (h : ∀ j, j ≠ loB k → (k % 3 = 0 → j ≠ hiB k) → b' j = b j) : cellB b' q = cellB b q := by
  unfold cellB
  have e12 : b' 12 = b 12 := h 12 (by unfold loB; omega) (fun _ => by unfold hiB; omega)
  have e13 : b' 13 = b 13 := h 13 (by unfold loB; omega) (fun _ => by unfold hiB; omega)
  have e14 : b' 14 = b 14 := h 14 (by unfold loB; omega) (fun _ => by unfold hiB; omega)
  have e15 : b' 15 = b 15 := h 15 (by unfold loB; omega) (fun _ => by unfold hiB; omega)
  by_cases h0 : q = 0
  · rw [if_pos h0, if_pos h0, e12, e13, e14, e15]
  · have el : b' (loB q) = b (loB q) := h _ (by unfold loB; omega) (fun _ => by unfold loB hiB; omega)
    rw [if_neg h0, if_neg h0, el]
    by_cases h3 : q % 3 = 0
    · have eh : b' (hiB q) = b (hiB q) := h _ (by unfold loB hiB; omega) (fun _ => by unfold hiB; omega)
      rw [if_pos h3, if_pos h3, eh]
    · rw [if_neg h3, if_neg h3]
theorem cell_empty {b : Nat → Bool} {k : Nat} (hk0 : k ≠ 0) (h : cellB b k = []) : b (loB k) = false ∧ (k % 3 = 0 → b (hiB k) = false) := by
  unfold cellB at h
  rw [if_neg hk0] at h
  by_cases h3 : k % 3 = 0
  · rw [if_pos h3] at h
    cases hh : b (hiB k) <;> cases hl : b (loB k) <;> simp [hh, hl] at h ⊢
  · rw [if_neg h3] at h
    refine ⟨?_, fun q => absurd q h3⟩
    cases hl : b (loB k)
    · rfl
    · simp [hl] at h
/-- what can stand at a place -/
theorem cell_can {b : Nat → Bool} {q c : Nat} (hq : q < 10) (h : c ∈ cellB b q) : canZ c (q : Int) = true := by
  unfold cellB at h
  by_cases h0 : q = 0
  · subst h0
    rw [if_pos rfl] at h
    have hall : ∀ t ∈ List.range 16, ∀ c ∈ typL t, canZ c 0 = true := by decide +kernel
    refine hall _ (List.mem_range.mpr ?_) c h
    cases b 12 <;> cases b 13 <;> cases b 14 <;> cases b 15 <;> decide
  · rw [if_neg h0] at h
    have hall : ∀ q ∈ List.range 10, q ≠ 0 → (q % 3 = 0 → canZ (if q = 9 then 116 else 115) (q : Int) = true ∧ canZ (if q = 9 then 84 else 83) (q : Int) = true ∧ canZ 120 (q : Int) = true) ∧ (¬ q % 3 = 0 → canZ (if q % 3 = 1 then 114 else 119) (q : Int) = true) := by decide +kernel
    have ha := hall q (List.mem_range.mpr hq) h0
    by_cases h3 : q % 3 = 0
    · rw [if_pos h3] at h
      obtain ⟨a1, a2, a3⟩ := ha.1 h3
      split at h
      · rw [List.mem_singleton.mp h]; exact a1
      · split at h
        · rw [List.mem_singleton.mp h]; exact a2
        · split at h
          · rw [List.mem_singleton.mp h]; exact a3
          · nomatch h
    · rw [if_neg h3] at h
      split at h
      · rw [List.mem_singleton.mp h]; exact ha.2 h3
      · nomatch h
/-- a place's letters, and their worth -/
theorem can_worth : ∀ q ∈ List.range 10, q ≠ 0 → ∀ c ∈ List.range 128, canZ c (q : Int) = true →
    (¬ q % 3 = 0 ∧ c = (if q % 3 = 1 then 114 else 119) ∧ worthZ (q : Int) c = ((2 ^ loB q : Nat) : Int)) ∨
    (q % 3 = 0 ∧ ((c = (if q = 9 then 116 else 115) ∧ worthZ (q : Int) c = ((2 ^ loB q + 2 ^ hiB q : Nat) : Int)) ∨ (c = (if q = 9 then 84 else 83) ∧ worthZ (q : Int) c = ((2 ^ hiB q : Nat) : Int)) ∨ (c = 120 ∧ worthZ (q : Int) c = ((2 ^ loB q : Nat) : Int)))) := by decide +kernel
theorem cell_set {N k c : Nat} (hk : k < 10) (hk0 : k ≠ 0) (hc : c < 128) (hcan : canZ c (k : Int) = true) (he : cellB N.testBit k = []) :
    ∃ N' : Nat, (N : Int) + worthZ (k : Int) c = (N' : Int) ∧ cellB N'.testBit k = [c] ∧ ∀ q, q < 10 → q ≠ k → cellB N'.testBit q = cellB N.testBit q := by
  obtain ⟨hl, hh⟩ := cell_empty hk0 he
  have hlh : loB k ≠ hiB k := by unfold loB hiB; omega
  rcases can_worth k (List.mem_range.mpr hk) hk0 c (List.mem_range.mpr hc) hcan with ⟨h3, hcc, hw⟩ | ⟨h3, h | h | h⟩
  · refine ⟨N + 2 ^ loB k, by rw [hw]; omega, ?_, fun q hq hne => cellB_other hq hk hk0 hne fun j h1 _ => ?_⟩
    · unfold cellB
      rw [if_neg hk0, if_neg h3, addbit hl, hcc]
      simp
    · rw [addbit hl, decide_eq_false h1, Bool.or_false]
  · obtain ⟨hcc, hw⟩ := h
    have hh' := hh h3
    have hb1 : ∀ j, (N + 2 ^ loB k).testBit j = (N.testBit j || decide (j = loB k)) := addbit hl
    have hb2 : (N + 2 ^ loB k).testBit (hiB k) = false := by rw [hb1, hh', decide_eq_false (Ne.symm hlh)]; rfl
    have hb3 : ∀ j, (N + 2 ^ loB k + 2 ^ hiB k).testBit j = ((N.testBit j || decide (j = loB k)) || decide (j = hiB k)) := fun j => by rw [addbit hb2, hb1]
    refine ⟨N + 2 ^ loB k + 2 ^ hiB k, by rw [hw]; omega, ?_, fun q hq hne => cellB_other hq hk hk0 hne fun j h1 h2 => ?_⟩
    · unfold cellB
      rw [if_neg hk0, if_pos h3, hb3, hb3, hcc]
      simp
    · rw [hb3, decide_eq_false h1, decide_eq_false (h2 h3), Bool.or_false, Bool.or_false]
  · obtain ⟨hcc, hw⟩ := h
    have hh' := hh h3
    refine ⟨N + 2 ^ hiB k, by rw [hw]; omega, ?_, fun q hq hne => cellB_other hq hk hk0 hne fun j h1 h2 => ?_⟩
    · unfold cellB
      rw [if_neg hk0, if_pos h3, addbit hh', addbit hh', hl, hcc, decide_eq_false hlh]
      simp
    · rw [addbit hh', decide_eq_false (h2 h3), Bool.or_false]
  · obtain ⟨hcc, hw⟩ := h
    have hh' := hh h3
    refine ⟨N + 2 ^ loB k, by rw [hw]; omega, ?_, fun q hq hne => cellB_other hq hk hk0 hne fun j h1 h2 => ?_⟩
    · unfold cellB
      rw [if_neg hk0, if_pos h3, addbit hl, addbit hl, hh', hcc, decide_eq_false (Ne.symm hlh)]
      simp
    · rw [addbit hl, decide_eq_false h1, Bool.or_false]
theorem cells_new : ∀ q ∈ List.range 10, cellB (Nat.testBit 32768) q = [] := by decide +kernel
theorem cells_kind : ∀ c ∈ List.range 128, canZ c 0 = true → ∃ N ∈ List.range 65536, Txt.find (Str.ofString "?pc?d?b?-?l?s???") ⟨#[c]⟩ * 4096 = (N : Int) ∧ cellB (Nat.testBit N) 0 = [c] ∧ ∀ q ∈ List.range 10, q ≠ 0 → cellB (Nat.testBit N) q = [] := by
  have h1 : ∀ c ∈ List.range 128, canZ c 0 = true → c = 108 ∨ c = 115 ∨ c = 98 ∨ c = 100 ∨ c = 99 ∨ c = 112 := by decide +kernel
  intro c hc h
  rcases h1 c hc h with rfl | rfl | rfl | rfl | rfl | rfl
  · exact ⟨40960, List.mem_range.mpr (by decide), by decide +kernel, by decide +kernel, by decide +kernel⟩
  · exact ⟨49152, List.mem_range.mpr (by decide), by decide +kernel, by decide +kernel, by decide +kernel⟩
  · exact ⟨24576, List.mem_range.mpr (by decide), by decide +kernel, by decide +kernel, by decide +kernel⟩
  · exact ⟨16384, List.mem_range.mpr (by decide), by decide +kernel, by decide +kernel, by decide +kernel⟩
  · exact ⟨8192, List.mem_range.mpr (by decide), by decide +kernel, by decide +kernel, by decide +kernel⟩
  · exact ⟨4096, List.mem_range.mpr (by decide), by decide +kernel, by decide +kernel, by decide +kernel⟩
end
/-! Q_deal2 -/
section
def lett (c : Nat) : Bool := !decide (c ∈ [45, 63])
theorem type_bits (N : Nat) : N / 4096 % 16 = (N.testBit 12).toNat + 2 * (N.testBit 13).toNat + 4 * (N.testBit 14).toNat + 8 * (N.testBit 15).toNat := by
  have v : ∀ k, N / 2 ^ k % 2 = (N.testBit k).toNat := by
    intro k
    rw [tb]
    rcases Nat.mod_two_eq_zero_or_one (N / 2 ^ k) with h | h <;> simp [h]
  rw [← v, ← v, ← v, ← v]
  exact bits_type N
theorem one_letter (b : Bool) : ((if b then Str.ofString "r" else Str.ofString "-").cps.toList.filter lett = if b then [114] else []) ∧ ((if b then Str.ofString "w" else Str.ofString "-").cps.toList.filter lett = if b then [119] else []) := by
  cases b <;> decide +kernel
theorem three_letter (a b : Bool) : ((if a && b then Str.ofString "s" else if a then Str.ofString "S" else if b then Str.ofString "x" else Str.ofString "-").cps.toList.filter lett = if a && b then [115] else if a then [83] else if b then [120] else []) ∧
    ((if a && b then Str.ofString "t" else if a then Str.ofString "T" else if b then Str.ofString "x" else Str.ofString "-").cps.toList.filter lett = if a && b then [116] else if a then [84] else if b then [120] else []) := by
  cases a <;> cases b <;> decide +kernel
/-- a row's letters -/
theorem row_letters (N : Nat) : (fmT (N : Int)).cps.toList.filter lett = cellsN N := by
  unfold fmT
  rw [join_empty, signs_row]
  unfold rowS cellsN
  simp only [List.flatMap_cons, List.flatMap_nil, List.append_nil, List.filter_append]
  rw [type_bits]
  simp only [(one_letter _).1, (one_letter _).2, (three_letter _ _).1, (three_letter _ _).2]
  have e : List.range 10 = [0, 1, 2, 3, 4, 5, 6, 7, 8, 9] := by decide
  rw [e]
  simp only [List.flatMap_cons, List.flatMap_nil, List.append_nil]
  rfl
theorem cellB_one (b : Nat → Bool) (q : Nat) : cellB b q = [] ∨ ∃ c, cellB b q = [c] := by
  unfold cellB
  split
  · have hall : ∀ t ∈ List.range 16, typL t = [] ∨ ∃ c ∈ List.range 128, typL t = [c] := by decide +kernel
    rcases hall ((b 12).toNat + 2 * (b 13).toNat + 4 * (b 14).toNat + 8 * (b 15).toNat) (List.mem_range.mpr (by cases b 12 <;> cases b 13 <;> cases b 14 <;> cases b 15 <;> decide)) with h | ⟨c, _, h⟩
    · exact .inl h
    · exact .inr ⟨c, h⟩
  · (repeat' split) <;> first | exact .inr ⟨_, rfl⟩ | exact .inl rfl
theorem range_split : ∀ k ∈ List.range 10, List.range 10 = List.range k ++ k :: (List.range 10).drop (k + 1) ∧ ∀ q ∈ (List.range 10).drop (k + 1), k < q ∧ q < 10 := by decide +kernel
theorem flat_set {f g : Nat → List Nat} {l1 l2 : List Nat} {k c : Nat} (h1 : ∀ q ∈ l1, g q = f q) (h2 : ∀ q ∈ l2, g q = f q ∧ f q = []) (hf : f k = []) (hg : g k = [c]) : (l1 ++ k :: l2).flatMap g = (l1 ++ k :: l2).flatMap f ++ [c] := by
  have e1 : l1.flatMap g = l1.flatMap f := by
    simp only [List.flatMap_def]
    rw [List.map_congr_left h1]
  have e2 : l2.flatMap f = [] := List.flatMap_eq_nil_iff.mpr fun q hq => (h2 q hq).2
  have e3 : l2.flatMap g = [] := List.flatMap_eq_nil_iff.mpr fun q hq => ((h2 q hq).1.trans (h2 q hq).2)
  simp only [List.flatMap_append, List.flatMap_cons, e1, e2, e3, hf, hg, List.append_nil, List.nil_append]
theorem cells_add {N N' k c p : Nat} (hk : k < 10) (hp : p ≤ k) (he : ∀ q, p ≤ q → q < 10 → cellB N.testBit q = []) (hc : cellB N'.testBit k = [c]) (ho : ∀ q, q < 10 → q ≠ k → cellB N'.testBit q = cellB N.testBit q) : cellsN N' = cellsN N ++ [c] := by
  obtain ⟨e, h2⟩ := range_split k (List.mem_range.mpr hk)
  unfold cellsN
  rw [e]
  refine flat_set (fun q hq => ho q ?_ ?_) (fun q hq => ⟨ho q (h2 q hq).2 ?_, he q ?_ (h2 q hq).2⟩) (he k hp hk) hc
  · have := List.mem_range.mp hq; omega
  · have := List.mem_range.mp hq; omega
  · have := (h2 q hq).1; omega
  · have := (h2 q hq).1; omega
def DInv (st : List Int × Int) (done : List Nat) : Prop :=
  (st.1 = [] ∧ st.2 = 10 ∧ done = []) ∨ ∃ (Ms : List Nat) (N p : Nat), st.1 = (Ms ++ [N]).map (fun (n : Nat) => (n : Int)) ∧ st.2 = (p : Int) ∧ 1 ≤ p ∧ p ≤ 10 ∧ (Ms ++ [N]).flatMap cellsN = done ∧ ∀ q, p ≤ q → q < 10 → cellB N.testBit q = []
theorem DInv.ms {st : List Int × Int} {done : List Nat} (h : DInv st done) : ∃ Ms : List Nat, st.1 = Ms.map (fun (n : Nat) => (n : Int)) ∧ Ms.flatMap cellsN = done := by
  rcases h with ⟨h1, _, h3⟩ | ⟨Ms, N, p, h1, _, _, _, h5, _⟩
  · exact ⟨[], by rw [h1]; rfl, by rw [h3]; rfl⟩
  · exact ⟨_, h1, h5⟩
theorem cells_none {N : Nat} (h : ∀ q, q < 10 → cellB N.testBit q = []) : cellsN N = [] := List.flatMap_eq_nil_iff.mpr fun q hq => h q (List.mem_range.mp hq)
theorem deal_step {st : List Int × Int} {done : List Nat} {c : Nat} (h : DInv st done) (hc : c < 128) (hg : spotsZ c ≠ []) : DInv (dealZ st c) (done ++ [c]) := by
  obtain ⟨ms, pl⟩ := st
  obtain ⟨k, r, hkr, hks, hkp⟩ := deal_head (p := pl) hg
  have hkb := spots_in hks
  have hcan : canZ c k = true := (List.mem_filter.mp hks).2
  obtain ⟨κ, rfl⟩ := Int.eq_ofNat_of_zero_le hkb.1
  have hκ : κ < 10 := by omega
  rw [dealZ_is hkr]
  by_cases hl : laterZ c pl = []
  · rw [if_pos hl, List.dropLast_append_of_ne_nil (by simp)]
    obtain ⟨Ms, hms, hdone⟩ := h.ms
    dsimp only at hms
    simp only [List.dropLast_singleton, List.append_nil, List.getLastD_concat]
    have new : ∃ N : Nat, (if ((κ : Nat) : Int) = 0 then Txt.find (Str.ofString "?pc?d?b?-?l?s???") ⟨#[c]⟩ * 4096 else 32768 + worthZ κ c) = (N : Int) ∧ cellsN N = [c] ∧ ∀ q, κ + 1 ≤ q → q < 10 → cellB N.testBit q = [] := by
      by_cases h0 : κ = 0
      · subst h0
        obtain ⟨N, _, e, c0, cr⟩ := cells_kind c (List.mem_range.mpr hc) hcan
        refine ⟨N, by rw [if_pos (show ((0 : Nat) : Int) = 0 from rfl)]; exact e, ?_, fun q h1 h2 => cr q (List.mem_range.mpr h2) (by omega)⟩
        have e0 : cellsN 32768 = [] := cells_none fun q hq => cells_new q (List.mem_range.mpr hq)
        have := cells_add (N := 32768) (N' := N) (k := 0) (c := c) (p := 0) (by decide) (Nat.le_refl _) (fun q _ hq => cells_new q (List.mem_range.mpr hq)) c0 (fun q hq hne => by rw [cr q (List.mem_range.mpr hq) hne, cells_new q (List.mem_range.mpr hq)])
        rw [this, e0]; rfl
      · obtain ⟨N', e, c0, cr⟩ := cell_set (N := 32768) hκ h0 hc hcan (cells_new κ (List.mem_range.mpr hκ))
        refine ⟨N', by rw [if_neg (by omega)]; exact e, ?_, fun q h1 h2 => by rw [cr q h2 (by omega)]; exact cells_new q (List.mem_range.mpr h2)⟩
        have e0 : cellsN 32768 = [] := cells_none fun q hq => cells_new q (List.mem_range.mpr hq)
        have := cells_add (N := 32768) (N' := N') (k := κ) (c := c) (p := 0) hκ (Nat.zero_le _) (fun q _ hq => cells_new q (List.mem_range.mpr hq)) c0 cr
        rw [this, e0]; rfl
    obtain ⟨N, e, hN, hr⟩ := new
    refine .inr ⟨Ms, N, κ + 1, ?_, ?_, by omega, by omega, ?_, hr⟩
    · dsimp only
      rw [e, hms]; simp
    · dsimp only; omega
    · rw [List.flatMap_append, hdone, List.flatMap_cons, hN]; simp
  · rw [if_neg hl]
    rcases h with ⟨_, h2, _⟩ | ⟨Ms, N, p, h1, h2, h3, h4, h5, h6⟩
    · exact absurd (by dsimp only at h2; rw [h2]; exact later_nil) hl
    · dsimp only at h1 h2
      have hp := hkp hl
      have hpk : p ≤ κ := by omega
      have h0 : κ ≠ 0 := by omega
      obtain ⟨N', e, c0, cr⟩ := cell_set (N := N) hκ h0 hc hcan (h6 κ hpk hκ)
      refine .inr ⟨Ms, N', κ + 1, ?_, ?_, by omega, by omega, ?_, fun q q1 q2 => by rw [cr q q2 (by omega)]; exact h6 q (by omega) q2⟩
      · dsimp only
        rw [h1, if_neg (by omega)]
        simp only [List.map_append, List.map_cons, List.map_nil, List.dropLast_append_of_ne_nil (by simp : [((N : Nat) : Int)] ≠ []), List.dropLast_singleton, List.append_nil, List.getLastD_concat, e]
      · dsimp only; omega
      · rw [List.flatMap_append, List.flatMap_cons, cells_add hκ hpk h6 c0 cr, ← h5]
        simp
theorem deal_all : ∀ (l : List Nat) (st : List Int × Int) (done : List Nat), DInv st done → (∀ c ∈ l, c < 128 ∧ spotsZ c ≠ []) → DInv (l.foldl dealZ st) (done ++ l)
  | [], st, done, h, _ => by simpa using h
  | c :: l, st, done, h, hl => by
    obtain ⟨h1, h2⟩ := hl c (.head _)
    have := deal_all l _ _ (deal_step h h1 h2) (fun d hd => hl d (.tail _ hd))
    simpa using this
/-- no farther than the row F's place p -/
def LeP (st : List Int × Int) (F : Nat) (p : Int) : Prop := (st.1 = [] → st.2 = 10) ∧ (st.1.length ≤ F ∨ (st.1.length = F + 1 ∧ st.2 ≤ p))
theorem spots_sorted (c : Nat) : (spotsZ c).Pairwise (· < ·) := by
  refine List.Pairwise.filter _ ?_
  unfold rangeKs
  decide
theorem head_le {l : List Int} (h : l.Pairwise (· < ·)) {k q : Int} {r : List Int} (e : l = k :: r) (hq : q ∈ l) : k ≤ q := by
  subst e
  rcases List.mem_cons.mp hq with rfl | hq
  · exact Int.le_refl _
  · exact Int.le_of_lt ((List.pairwise_cons.mp h).1 q hq)
theorem step_le {st : List Int × Int} {F : Nat} {p : Int} {c : Nat} {q : Int} (h : LeP st F p) (hq : q ∈ spotsZ c) (hpq : p ≤ q) : LeP (dealZ st c) F (q + 1) := by
  obtain ⟨ms, pl⟩ := st
  have hg : spotsZ c ≠ [] := fun e => by rw [e] at hq; nomatch hq
  obtain ⟨k, r, hkr, hks, hkp⟩ := deal_head (p := pl) hg
  obtain ⟨hne, hle⟩ := h
  dsimp only at hne hle
  rw [dealZ_is hkr]
  refine ⟨fun e => by simp at e, ?_⟩
  dsimp only
  by_cases hl : laterZ c pl = []
  · rw [if_pos hl]
    have hk : k ≤ q := by
      rw [hl] at hkr
      exact head_le (spots_sorted c) hkr hq
    simp only [List.length_append, List.length_dropLast, List.length_cons, List.length_nil]
    rcases hle with hle | ⟨h1, h2⟩
    · omega
    · exfalso
      have : q ∈ laterZ c pl := List.mem_filter.mpr ⟨hq, by simp; omega⟩
      rw [hl] at this
      nomatch this
  · rw [if_neg hl]
    have hm : ms ≠ [] := fun e => hl (by rw [hne e]; exact later_nil)
    have hml : 0 < ms.length := List.length_pos_iff.mpr hm
    simp only [List.length_append, List.length_dropLast, List.length_cons, List.length_nil]
    rcases hle with hle | ⟨h1, h2⟩
    · omega
    · right
      have hq2 : q ∈ laterZ c pl := List.mem_filter.mpr ⟨hq, by simp; omega⟩
      have hk : k ≤ q := by
        cases hc : laterZ c pl with
        | nil => exact absurd hc hl
        | cons k' r' =>
          rw [hc] at hkr
          have e : k' = k := (List.cons.inj hkr).1
          have hs : (laterZ c pl).Pairwise (· < ·) := (spots_sorted c).filter _
          rw [← e]
          exact head_le hs hc hq2
      omega
theorem can_spot {c q : Nat} (hq : q < 10) (h : canZ c (q : Int) = true) : (q : Int) ∈ spotsZ c := by
  refine List.mem_filter.mpr ⟨?_, h⟩
  unfold rangeKs
  exact List.mem_map.mpr ⟨q, List.mem_range.mpr hq, by omega⟩
theorem row_le (N : Nat) {st : List Int × Int} {F : Nat} (h : LeP st F 0) : ∀ i, i ≤ 10 → LeP (((List.range i).flatMap (cellB N.testBit)).foldl dealZ st) F (i : Int)
  | 0, _ => h
  | i + 1, hi => by
    have ih := row_le N h i (by omega)
    rw [List.range_succ, List.flatMap_append, List.foldl_append, List.flatMap_cons, List.flatMap_nil, List.append_nil]
    rcases cellB_one N.testBit i with e | ⟨c, e⟩
    · rw [e]
      refine ⟨ih.1, ?_⟩
      rcases ih.2 with q | ⟨q1, q2⟩
      · exact .inl q
      · exact .inr ⟨q1, by simp only [List.foldl_nil]; omega⟩
    · rw [e]
      have hc : canZ c (i : Int) = true := cell_can (by omega) (by rw [e]; exact .head _)
      have := step_le ih (can_spot (by omega) hc) (Int.le_refl _)
      simpa using this
theorem rows_le : ∀ (Ns : List Nat) (st : List Int × Int) (F : Nat), (st.1 = [] → st.2 = 10) → st.1.length ≤ F → ((Ns.flatMap cellsN).foldl dealZ st).1.length ≤ F + Ns.length
  | [], st, F, _, h => h
  | N :: Ns, st, F, h0, h => by
    rw [List.flatMap_cons, List.foldl_append]
    have h1 : LeP ((cellsN N).foldl dealZ st) F 10 := row_le N (F := F) (st := st) ⟨h0, .inl h⟩ 10 (Nat.le_refl _)
    have h2 : ((cellsN N).foldl dealZ st).1.length ≤ F + 1 := by
      rcases h1.2 with q | ⟨q, _⟩
      · exact Nat.le_trans q (by omega)
      · exact Nat.le_of_eq q
    have := rows_le Ns _ (F + 1) h1.1 h2
    simp only [List.length_cons]
    omega
theorem cells_ok {N c : Nat} (h : c ∈ cellsN N) : spotsZ c ≠ [] := by
  obtain ⟨q, hq, hc⟩ := List.mem_flatMap.mp h
  have := can_spot (List.mem_range.mp hq) (cell_can (List.mem_range.mp hq) hc)
  intro e
  rw [e] at this
  nomatch this
end
/-! Q_law -/
section
theorem letter_signs : ∀ c ∈ SG, c < 128 ∧ c ≠ 61 ∧ isB c = lett c := by decide +kernel
theorem other_signs : ∀ c ∈ [39, 44, 32, 91, 93], c < 128 ∧ c ≠ 61 := by decide +kernel
/-- rows of plain signs, few and short -/
def Pl (xs : List Str) : Prop := ∀ x ∈ xs, PlainS x ∧ x.cps.toList.length ≤ 10
abbrev One (x : Str) : Prop := x.cps.toList.length = 1 ∧ ∀ c ∈ x.cps.toList, c ∈ SG
theorem one_two : ∀ a : Bool, One (if a then Str.ofString "r" else Str.ofString "-") ∧ One (if a then Str.ofString "w" else Str.ofString "-") := by decide +kernel
theorem one_four : ∀ a b : Bool, One (if a && b then Str.ofString "s" else if a then Str.ofString "S" else if b then Str.ofString "x" else Str.ofString "-") ∧
    One (if a && b then Str.ofString "t" else if a then Str.ofString "T" else if b then Str.ofString "x" else Str.ofString "-") := by decide +kernel
theorem one_kind : ∀ t ∈ List.range 16, One (typS (t : Int)) := by decide +kernel
theorem row_ones (N : Nat) : ∀ x ∈ rowS N, One x := by
  intro x hx
  unfold rowS at hx
  simp only [List.mem_cons, List.not_mem_nil, or_false] at hx
  rcases hx with rfl | rfl | rfl | rfl | rfl | rfl | rfl | rfl | rfl | rfl
  · exact one_kind _ (List.mem_range.mpr (Nat.mod_lt _ (by decide)))
  all_goals first | exact (one_two _).1 | exact (one_two _).2 | exact (one_four _ _).1 | exact (one_four _ _).2
theorem ones_len : ∀ {xs : List Str}, (∀ x ∈ xs, One x) → (xs.flatMap (·.cps.toList)).length = xs.length
  | [], _ => rfl
  | x :: xs, h => by
    rw [List.flatMap_cons, List.length_append, (h x (.head _)).1, ones_len fun y hy => h y (.tail _ hy), List.length_cons]
    omega
theorem fm_cps (N : Nat) : (fmT (N : Int)).cps.toList = (rowS N).flatMap (·.cps.toList) := by
  unfold fmT
  rw [join_empty, signs_row]
theorem fm_len (N : Nat) : (fmT (N : Int)).cps.toList.length = 10 := by
  rw [fm_cps, ones_len (row_ones N)]
  rfl
theorem fm_plain (N : Nat) : PlainS (fmT (N : Int)) := by
  intro c hc
  rw [fm_cps] at hc
  obtain ⟨x, hx, h⟩ := List.mem_flatMap.mp hc
  exact (row_ones N x hx).2 c h
/-- the files' numbers -/
def natsZ (ns : List Int) : List Nat := (filesZ ns).map Int.toNat
theorem files_nats (ns : List Int) : filesZ ns = (natsZ ns).map fun (n : Nat) => (n : Int) := by
  unfold natsZ
  rw [List.map_map]
  conv => lhs; rw [← List.map_id (filesZ ns)]
  refine List.map_congr_left fun n hn => ?_
  have := (files_in n hn).1
  show n = ((n.toNat : Nat) : Int)
  omega
theorem rows_nats (ns : List Int) : rowsZ ns = (natsZ ns).map fun (n : Nat) => fmT (n : Int) := by
  unfold rowsZ
  rw [files_nats, List.map_map]
  rfl
theorem nats_len (ns : List Int) : (natsZ ns).length ≤ 6 := by
  unfold natsZ
  rw [List.length_map, files_len]
  omega
theorem rows_cnt (ns : List Int) : (rowsZ ns).length ≤ 6 := by
  rw [rows_nats, List.length_map]; exact nats_len ns
theorem pl_rows (ns : List Int) : Pl (rowsZ ns) := by
  rw [rows_nats]
  intro x hx
  obtain ⟨n, _, rfl⟩ := List.mem_map.mp hx
  exact ⟨fm_plain n, Nat.le_of_eq (fm_len n)⟩
theorem ten_rows (ns : List Int) : ∀ x ∈ rowsZ ns, x.cps.toList.length = 10 := by
  rw [rows_nats]
  intro x hx
  obtain ⟨n, _, rfl⟩ := List.mem_map.mp hx
  exact fm_len n
/-- what holds of any such rows -/
theorem str_len (x : Str) : x.length = x.cps.toList.length := rfl
theorem flat_len : ∀ {xs : List Str} {f : Str → List Nat}, (∀ x ∈ xs, (f x).length ≤ 10) → (xs.flatMap f).length ≤ 10 * xs.length
  | [], _, _ => Nat.zero_le _
  | x :: xs, f, h => by
    have h1 := h x (.head _)
    have h2 := flat_len (xs := xs) (f := f) fun y hy => h y (.tail _ hy)
    rw [List.flatMap_cons, List.length_append, List.length_cons]
    omega
def letC (xs : List Str) : List Nat := xs.flatMap fun x => x.cps.toList.filter lett
theorem filter_flat (p : Nat → Bool) : ∀ xs : List Str, (xs.flatMap (·.cps.toList)).filter p = xs.flatMap fun x => x.cps.toList.filter p
  | [] => rfl
  | x :: xs => by rw [List.flatMap_cons, List.filter_append, filter_flat p xs, List.flatMap_cons]
theorem let_cps (xs : List Str) : (signsT (lettersOf xs)).cps.toList = letC xs := by
  unfold signsT
  rw [join_empty, List.flatMap_map]
  show (lettersOf xs).flatMap (fun c => [c]) = _
  rw [List.flatMap_singleton']
  unfold lettersOf
  rw [join_empty]
  exact filter_flat lett xs
theorem letC_mem {xs : List Str} (h : Pl xs) {c : Nat} (hc : c ∈ letC xs) : c < 128 ∧ isB c = true := by
  obtain ⟨x, hx, hc⟩ := List.mem_flatMap.mp hc
  obtain ⟨h1, h2⟩ := List.mem_filter.mp hc
  obtain ⟨a, _, b⟩ := letter_signs c ((h x hx).1 c h1)
  exact ⟨a, b.trans h2⟩
theorem letC_len {xs : List Str} (h : Pl xs) : (letC xs).length ≤ 10 * xs.length := flat_len fun x hx => Nat.le_trans (List.length_filter_le ..) (h x hx).2
theorem isB_lett {x : Str} (h : PlainS x) : x.cps.toList.filter isB = x.cps.toList.filter lett := List.filter_congr fun c hc => (letter_signs c (h c hc)).2.2
theorem plains {xs : List Str} (h : Pl xs) : ∀ x ∈ xs, PlainS x := fun x hx => (h x hx).1
theorem ls_filter {xs : List Str} (h : Pl xs) : (lsT xs).cps.toList.filter isB = letC xs := by
  rw [lsT_cps (plains h), lsC_filter, List.flatMap_map]
  unfold letC
  simp only [List.flatMap_def]
  rw [List.map_congr_left fun x hx => isB_lett (h x hx).1]
theorem ls_signs {xs : List Str} (h : Pl xs) : ∀ c ∈ (lsT xs).cps.toList, c < 128 ∧ c ≠ 61 := by
  intro c hc
  rw [lsT_cps (plains h)] at hc
  rcases lsC_mem hc with q | ⟨l, hl, hc⟩
  · exact other_signs c q
  · obtain ⟨x, hx, rfl⟩ := List.mem_map.mp hl
    have := letter_signs c ((h x hx).1 c hc)
    exact ⟨this.1, this.2.1⟩
theorem ls_len {xs : List Str} (h : Pl xs) : (lsT xs).length ≤ 14 * xs.length + 2 := by
  rw [str_len, lsT_cps (plains h)]
  refine Nat.le_trans (lsC_len ?_) (by rw [List.length_map]; omega)
  intro l hl
  obtain ⟨x, hx, rfl⟩ := List.mem_map.mp hl
  exact (h x hx).2
theorem join_cnt {xs : List Str} (h : Pl xs) : (Txt.join (Str.ofString "") xs).length ≤ 10 * xs.length := by
  rw [str_len, join_empty]
  exact flat_len fun x hx => (h x hx).2
theorem join_signs {xs : List Str} (h : Pl xs) : ∀ c ∈ (Txt.join (Str.ofString "") xs).cps.toList, c < 128 := by
  intro c hc
  rw [join_empty] at hc
  obtain ⟨x, hx, hc⟩ := List.mem_flatMap.mp hc
  exact (letter_signs c ((h x hx).1 c hc)).1
theorem sum_len : ∀ {xs : List Str}, Pl xs → (xs.map (·.length)).sum ≤ 10 * xs.length
  | [], _ => Nat.zero_le _
  | x :: xs, h => by
    have h1 : x.length ≤ 10 := (h x (.head _)).2
    have h2 := sum_len (xs := xs) fun y hy => h y (.tail _ hy)
    simp only [List.map_cons, List.sum_cons, List.length_cons]
    omega
theorem join_tot {xs : List Str} (h : Pl xs) (hl : xs.length ≤ 6) : (xs.map (·.length)).sum + xs.length * (Str.ofString "").length ≤ 16777216 := by
  have h1 := sum_len h
  have e : (Str.ofString "").length = 0 := by decide +kernel
  rw [e]
  omega
/-- the fill -/
theorem fill_all : ∀ k ∈ List.range 4, (Txt.mul (Str.ofString "A") (k : Int)).cps.toList = List.replicate k 65 := by decide +kernel
def padN (n : Nat) : Nat := (4 - n % 4) % 4
theorem fill_cps (x : Str) : (fillT x).cps.toList = List.replicate (padN x.cps.toList.length) 65 := by
  unfold fillT
  have e : (-(x.length : Int)).fmod 4 = ((padN x.cps.toList.length : Nat) : Int) := by
    rw [Int.fmod_eq_emod_of_nonneg _ (by decide), ← str_len]
    unfold padN
    omega
  rw [e]
  exact fill_all _ (List.mem_range.mpr (by unfold padN; omega))
theorem fill_len (x : Str) : (fillT x).length ≤ 3 := by
  rw [str_len, fill_cps, List.length_replicate]
  unfold padN; omega
theorem fill_mem {x : Str} {c : Nat} (h : c ∈ (fillT x).cps.toList) : c = 65 := by
  rw [fill_cps] at h
  exact List.eq_of_mem_replicate h
theorem app_cps (x y : Str) : (x ++ y).cps.toList = x.cps.toList ++ y.cps.toList := by rw [Str.cps_append, Array.toList_append]
theorem app_len (x y : Str) : (x ++ y).length = x.length + y.length := by rw [str_len, app_cps, List.length_append]; rfl
theorem fill_four (x : Str) : (x ++ fillT x).length % 4 = 0 := by
  rw [app_len, str_len x, str_len (fillT x), fill_cps, List.length_replicate]
  unfold padN; omega
theorem is_A : isB 65 = true := by decide +kernel
theorem fill_filter (x : Str) : (fillT x).cps.toList.filter isB = (fillT x).cps.toList := List.filter_eq_self.mpr fun c hc => by rw [fill_mem hc]; exact is_A
theorem with_fill {x z : Str} (h : ∀ c ∈ z.cps.toList, c < 128 ∧ c ≠ 61) : ∀ c ∈ (z ++ fillT x).cps.toList, c < 128 ∧ c ≠ 61 := by
  intro c hc
  rw [app_cps] at hc
  rcases List.mem_append.mp hc with q | q
  · exact h c q
  · rw [fill_mem q]; decide
theorem with_fig {x z : Str} (h : ∀ c ∈ z.cps.toList, c < 128 ∧ isB c = true) : ∀ c ∈ (z ++ fillT x).cps.toList, c < 128 ∧ isB c = true := by
  intro c hc
  rw [app_cps] at hc
  rcases List.mem_append.mp hc with q | q
  · exact h c q
  · rw [fill_mem q]; exact ⟨by decide, is_A⟩
theorem not_61 {x : Str} (h : ∀ c ∈ x.cps.toList, c < 128 ∧ c ≠ 61) : ∀ n ∈ intsOf (octs x), n ≠ 61 := by
  intro n hn
  rw [ints_octs fun c hc => (h c hc).1] at hn
  obtain ⟨c, hc, rfl⟩ := List.mem_map.mp hn
  have := (h c hc).2
  omega
/-- told and filled, it is read as its letters -/
theorem read_fill {z y : Str} (t : Tok) (h : ∀ c ∈ z.cps.toList, c < 128 ∧ c ≠ 61) (hf : z.cps.toList.filter isB = y.cps.toList) : readV (z ++ fillT y) t = .bytes (oct8 (y ++ fillT y)).toArray t := by
  have hl : (z ++ fillT y).cps.toList.filter isB = (y ++ fillT y).cps.toList := by
    rw [app_cps, app_cps, List.filter_append, hf, fill_filter]
  rw [readV_four t (fun c hc => (with_fill h c hc).1) hl (fill_four y)]
  rfl
/-- the numbers told anew -/
theorem files_le (ns : List Int) : ∀ n ∈ filesZ ns, 0 ≤ n := fun n hn => (files_in n hn).1
/-- pieces of a text -/
theorem slice_mem {x : Str} {l u : Option Int} {c : Nat} (h : c ∈ (Txt.slice x l u).cps.toList) : c ∈ x.cps.toList := by
  unfold Txt.slice at h
  split at h
  · exact h
  · obtain ⟨i, _, e⟩ := List.mem_filterMap.mp (by simpa using h)
    have := Array.mem_of_getElem? e
    simpa using this
theorem pl_piece {x : Str} (h : PlainS x ∧ x.cps.toList.length ≤ 10) (l u : Option Int) : PlainS (Txt.slice x l u) ∧ (Txt.slice x l u).cps.toList.length ≤ 10 :=
  ⟨fun c hc => h.1 c (slice_mem hc), Nat.le_trans (Txt.slice_le x l u) h.2⟩
theorem pl_cut {xs : List Str} (h : Pl xs) (l u : Option Int) : Pl (xs.take 5 ++ (xs.drop 5).map fun r => Txt.slice r l u) := by
  intro x hx
  rcases List.mem_append.mp hx with q | q
  · exact h x (List.mem_of_mem_take q)
  · obtain ⟨r, hr, rfl⟩ := List.mem_map.mp q
    exact pl_piece (h r (List.mem_of_mem_drop hr)) l u
theorem cut_cnt (xs : List Str) (f : Str → Str) : (xs.take 5 ++ (xs.drop 5).map f).length = xs.length := by
  rw [List.length_append, List.length_map, List.length_take, List.length_drop]
  omega
theorem trunc_is : (Str.ofString " [truncated]...").cps.toList.filter isB = (Str.ofString "truncated").cps.toList ∧ (∀ c ∈ (Str.ofString " [truncated]...").cps.toList, c < 128 ∧ c ≠ 61) ∧ (∀ c ∈ (Str.ofString "truncated").cps.toList, c < 128 ∧ isB c = true) ∧ (Str.ofString " [truncated]...").length = 15 ∧ (Str.ofString "truncated").length = 9 := by decide +kernel
theorem sh_len {xs : List Str} (h : Pl xs) (hl : xs.length ≤ 6) : (shT xs).length ≤ 300 := by
  have h1 := ls_len h
  unfold shT
  split
  · omega
  · rw [app_len, trunc_is.2.2.2.1]
    have := Txt.slice_le (lsT xs) none (some 80)
    omega
theorem sh_signs {xs : List Str} (h : Pl xs) : ∀ c ∈ (shT xs).cps.toList, c < 128 ∧ c ≠ 61 := by
  intro c hc
  unfold shT at hc
  split at hc
  · exact ls_signs h c hc
  · rw [app_cps] at hc
    rcases List.mem_append.mp hc with q | q
    · exact ls_signs h c (slice_mem q)
    · exact trunc_is.2.1 c q
theorem shown_cps (ns : List Int) (cut : Int) : (shownT ns cut).cps.toList = letC (cutRows ns cut) ++ if cut < 5 then (Str.ofString "truncated").cps.toList else [] := by
  unfold shownT
  split
  · rw [app_cps, let_cps]
  · rw [let_cps, List.append_nil]
theorem shown_fig (ns : List Int) (cut : Int) : ∀ c ∈ (shownT ns cut).cps.toList, c < 128 ∧ isB c = true := by
  intro c hc
  rw [shown_cps] at hc
  rcases List.mem_append.mp hc with q | q
  · exact letC_mem (pl_cut (pl_rows ns) _ _) q
  · split at q
    · exact trunc_is.2.2.1 c q
    · nomatch q
theorem indices_past {n : Nat} {i j : Int} (hj : (n : Int) ≤ j) : Builtin.Str.strSliceIndices (some i) (some j) 1 n = Builtin.Str.strSliceIndices (some i) none 1 n := by
  have h0 : ¬ j < 0 := by omega
  have h2 : (1 : Int) > 0 := by decide
  have h3 : max 0 (n : Int) = (n : Int) := Int.max_eq_right (Int.natCast_nonneg n)
  simp only [Builtin.Str.strSliceIndices, h0, h2, if_false, if_true, Int.min_eq_right hj, h3]
theorem slice_past {x : Str} {i j : Int} (hj : (x.length : Int) ≤ j) : Txt.slice x (some i) (some j) = Txt.slice x (some i) none := by
  unfold Txt.slice
  rw [indices_past hj]
theorem piece_all {x : Str} (h : x.cps.toList.length = 10) :
    (Txt.slice x (some 0) (some (0 + 8))).cps.toList = x.cps.toList.take 8 ∧ (Txt.slice x (some 0) none).cps.toList = x.cps.toList ∧
    (Txt.slice x (some 4) (some (4 + 8))).cps.toList = x.cps.toList.drop 4 ∧ (Txt.slice x (some 4) none).cps.toList = x.cps.toList.drop 4 ∧
    (Txt.slice x (some 5) (some (5 + 8))).cps.toList = x.cps.toList.drop 5 ∧ (Txt.slice x (some 5) none).cps.toList = x.cps.toList.drop 5 := by
  refine ⟨?_, ?_, ?_, ?_, ?_, ?_⟩
  · rw [beq_iff_eq.mp (slice_closes (x := x) (i := 0) (j := 0 + 8) ⟨by decide, by decide, by omega⟩)]
    rfl
  · rw [beq_iff_eq.mp (slice_closes_from (x := x) (i := 0) ⟨by decide, by omega⟩), h]
    exact List.take_of_length_le (by show x.cps.toList.length ≤ 10; omega)
  · rw [slice_past (by rw [str_len, h]; decide), beq_iff_eq.mp (slice_closes_from (x := x) (i := 4) ⟨by decide, by omega⟩), h]
    exact List.take_of_length_le (by rw [List.length_drop, h]; decide)
  · rw [beq_iff_eq.mp (slice_closes_from (x := x) (i := 4) ⟨by decide, by omega⟩), h]
    exact List.take_of_length_le (by rw [List.length_drop, h]; decide)
  · rw [slice_past (by rw [str_len, h]; decide), beq_iff_eq.mp (slice_closes_from (x := x) (i := 5) ⟨by decide, by omega⟩), h]
    exact List.take_of_length_le (by rw [List.length_drop, h]; decide)
  · rw [beq_iff_eq.mp (slice_closes_from (x := x) (i := 5) ⟨by decide, by omega⟩), h]
    exact List.take_of_length_le (by rw [List.length_drop, h]; decide)
theorem joinC_snoc (r : List Nat) : ∀ ls : List (List Nat), joinC ((ls ++ [r]).map quoC) = ls.flatMap (fun l => quoC l ++ [44, 32]) ++ quoC r
  | [] => rfl
  | [x] => by
    show quoC x ++ [44, 32] ++ quoC r = _
    simp
  | x :: y :: ls => by
    show quoC x ++ [44, 32] ++ joinC (((y :: ls) ++ [r]).map quoC) = _
    rw [joinC_snoc r (y :: ls)]
    simp
theorem lsC_snoc (ls : List (List Nat)) (r : List Nat) : lsC (ls ++ [r]) = 91 :: (ls.flatMap (fun l => quoC l ++ [44, 32]) ++ 39 :: (r ++ [39, 93])) := by
  unfold lsC
  rw [joinC_snoc]
  simp [quoC]
theorem pre_len : ∀ {ls : List (List Nat)}, (∀ l ∈ ls, l.length = 10) → (ls.flatMap (fun l => quoC l ++ [44, 32])).length = 14 * ls.length
  | [], _ => rfl
  | x :: ls, h => by
    have h1 := h x (.head _)
    have h2 := pre_len (ls := ls) fun l hl => h l (.tail _ hl)
    rw [List.flatMap_cons, List.length_append, h2]
    simp only [quoC, List.length_cons, List.length_append, List.length_nil]
    omega
theorem pre_filter : ∀ ls : List (List Nat), (ls.flatMap (fun l => quoC l ++ [44, 32])).filter isB = ls.flatMap (·.filter isB)
  | [] => rfl
  | x :: ls => by
    rw [List.flatMap_cons, List.filter_append, pre_filter ls, List.flatMap_cons]
    have e : isB 39 = false := by decide
    have e2 : isB 44 = false := by decide
    have e3 : isB 32 = false := by decide
    simp [quoC, List.filter_cons, List.filter_append, e, e2, e3]
theorem slice80 {x : Str} (h : 80 ≤ x.cps.toList.length) : (Txt.slice x none (some 80)).cps.toList = x.cps.toList.take 80 := by
  rw [beq_iff_eq.mp (slice_closes_to ⟨by decide, by omega⟩)]
  rfl
theorem six_split {xs : List Str} (h : xs.length = 6) : ∃ A r, xs = A ++ [r] ∧ A.length = 5 := by
  refine ⟨xs.take 5, xs[5], ?_, by rw [List.length_take]; omega⟩
  have := List.take_add_one (l := xs) (i := 5)
  rw [List.take_of_length_le (by omega), List.getElem?_eq_getElem (by omega)] at this
  exact this
/-- the told of six rows, the last a piece -/
theorem six_told {A : List Str} {r : Str} (hA : ∀ x ∈ A, PlainS x ∧ x.cps.toList.length = 10) (h5 : A.length = 5) (hr : PlainS r) :
    (lsT (A ++ [r])).cps.toList = 91 :: ((A.map (·.cps.toList)).flatMap (fun l => quoC l ++ [44, 32]) ++ 39 :: (r.cps.toList ++ [39, 93])) ∧ ((A.map (·.cps.toList)).flatMap (fun l => quoC l ++ [44, 32])).length = 70 ∧
    ((A.map (·.cps.toList)).flatMap (fun l => quoC l ++ [44, 32])).filter isB = letC A := by
  refine ⟨?_, ?_, ?_⟩
  · rw [lsT_cps, List.map_append, List.map_cons, List.map_nil, lsC_snoc]
    intro x hx
    rcases List.mem_append.mp hx with q | q
    · exact (hA x q).1
    · rw [List.mem_singleton.mp q]; exact hr
  · rw [pre_len, List.length_map, h5]
    intro l hl
    obtain ⟨x, hx, rfl⟩ := List.mem_map.mp hl
    exact (hA x hx).2
  · rw [pre_filter, List.flatMap_map]
    unfold letC
    simp only [List.flatMap_def]
    rw [List.map_congr_left fun x hx => isB_lett (hA x hx).1]
theorem letC_snoc (A : List Str) (r : Str) : letC (A ++ [r]) = letC A ++ r.cps.toList.filter lett := by
  unfold letC
  rw [List.flatMap_append, List.flatMap_cons, List.flatMap_nil, List.append_nil]
theorem plain_sub {x : Str} (h : PlainS x) {l : List Nat} (hl : ∀ c ∈ l, c ∈ x.cps.toList) : l.filter isB = l.filter lett := List.filter_congr fun c hc => (letter_signs c (h c (hl c hc))).2.2
theorem sh_filter (ns : List Int) (cut : Int) (h : cut = 0 ∨ cut = 4 ∨ cut = 5) (h6 : cut < 5 → (rowsZ ns).length = 6) : (shT (cutTold ns cut)).cps.toList.filter isB = (shownT ns cut).cps.toList := by
  have hp := pl_rows ns
  have ht := ten_rows ns
  have hn := rows_cnt ns
  rw [shown_cps]
  unfold cutTold cutRows
  by_cases e6 : (rowsZ ns).length = 6
  · obtain ⟨A, r, e, h5⟩ := six_split e6
    rw [e] at hp ht ⊢
    have hA : ∀ x ∈ A, PlainS x ∧ x.cps.toList.length = 10 := fun x hx => ⟨(hp x (List.mem_append_left _ hx)).1, ht x (List.mem_append_left _ hx)⟩
    have hr : PlainS r := (hp r (by simp)).1
    have hr10 : r.cps.toList.length = 10 := ht r (by simp)
    have t5 : (A ++ [r]).take 5 = A := by rw [← h5]; simp
    have d5 : (A ++ [r]).drop 5 = [r] := by rw [← h5]; simp
    rw [t5, d5, List.map_cons, List.map_nil, List.map_cons, List.map_nil, letC_snoc]
    obtain ⟨p0, q0, p4, q4, p5, q5⟩ := piece_all hr10
    obtain ⟨a1, a2, a3⟩ := six_told hA h5 (pl_piece (hp r (by simp)) (some cut) none).1
    have n91 : isB 91 = false := by decide
    have n93 : isB 93 = false := by decide
    have n39 : isB 39 = false := by decide
    rcases h with rfl | rfl | rfl
    · rw [q0] at a1
      have hl : (lsT (A ++ [Txt.slice r (some 0) none])).cps.toList.length = 84 := by
        rw [a1]
        simp only [List.length_cons, List.length_append, List.length_nil, a2, hr10]
      rw [shT_hi (by rw [str_len, hl]; decide), app_cps, List.filter_append, slice80 (by rw [hl]; decide), trunc_is.1, a1, p0]
      have e80 : (91 :: ((A.map (·.cps.toList)).flatMap (fun l => quoC l ++ [44, 32]) ++ 39 :: (r.cps.toList ++ [39, 93]))).take 80 = 91 :: ((A.map (·.cps.toList)).flatMap (fun l => quoC l ++ [44, 32]) ++ 39 :: (r.cps.toList.take 8)) := by
        rw [List.take_succ_cons, List.take_append, a2, List.take_of_length_le (by rw [a2]; decide)]
        rw [show 79 - 70 = 8 + 1 from rfl, List.take_succ_cons, List.take_append_of_le_length (by rw [hr10]; decide)]
      rw [e80, List.filter_cons, n91]
      simp only [Bool.false_eq_true, if_false, List.filter_append, a3, List.filter_cons, n39]
      rw [plain_sub hr fun c hc => List.mem_of_mem_take hc]
      rfl
    · rw [q4] at a1
      have hl : (lsT (A ++ [Txt.slice r (some 4) none])).cps.toList.length = 80 := by
        rw [a1]
        simp only [List.length_cons, List.length_append, List.length_nil, a2, hr10, List.length_drop]
      rw [shT_hi (by rw [str_len, hl]; decide), app_cps, List.filter_append, slice80 (by rw [hl]; decide), trunc_is.1, List.take_of_length_le (by rw [hl]; decide), a1, p4, List.filter_cons, n91]
      simp only [Bool.false_eq_true, if_false, List.filter_append, a3, List.filter_cons, n39, n93, List.filter_nil, List.append_nil]
      rw [plain_sub hr fun c hc => List.mem_of_mem_drop hc]
      rfl
    · rw [q5] at a1
      have hl : (lsT (A ++ [Txt.slice r (some 5) none])).cps.toList.length = 79 := by
        rw [a1]
        simp only [List.length_cons, List.length_append, List.length_nil, a2, hr10, List.length_drop]
      rw [shT_lo (by rw [str_len, hl]; decide), a1, p5, List.filter_cons, n91]
      simp only [Bool.false_eq_true, if_false, List.filter_append, a3, List.filter_cons, n39, n93, List.filter_nil, List.append_nil]
      rw [plain_sub hr fun c hc => List.mem_of_mem_drop hc]
      rw [if_neg (by decide), List.append_nil]
  · have h5 : cut = 5 := by
      rcases h with rfl | rfl | rfl
      · exact absurd (h6 (by decide)) e6
      · exact absurd (h6 (by decide)) e6
      · rfl
    subst h5
    have d5 : (rowsZ ns).drop 5 = [] := List.drop_eq_nil_of_le (by omega)
    rw [d5, List.map_nil, List.map_nil, List.append_nil, List.take_of_length_le (by omega)]
    have h1 := ls_len hp
    rw [shT_lo (by omega), ls_filter hp]
    simp
/-- the modes dealt anew -/
theorem letC_cells (l : List Nat) : letC (l.map fun (n : Nat) => fmT (n : Int)) = l.flatMap cellsN := by
  unfold letC
  rw [List.flatMap_map]
  simp only [List.flatMap_def]
  rw [List.map_congr_left fun n _ => row_letters n]
theorem rows_cells (ns : List Int) : letC (rowsZ ns) = (natsZ ns).flatMap cellsN := by rw [rows_nats, letC_cells]
theorem letT_cps (ns : List Int) : (letT ns).cps.toList = letC (rowsZ ns) := let_cps _
theorem letC_spots (ns : List Int) : ∀ c ∈ letC (rowsZ ns), c < 128 ∧ spotsZ c ≠ [] := by
  intro c hc
  refine ⟨(letC_mem (pl_rows ns) hc).1, ?_⟩
  rw [rows_cells] at hc
  obtain ⟨n, _, hc⟩ := List.mem_flatMap.mp hc
  exact cells_ok hc
theorem deal_nats (ns : List Int) : ∃ Ms : List Nat, dealM ns = Ms.map (fun (n : Nat) => (n : Int)) ∧ Ms.flatMap cellsN = letC (rowsZ ns) := by
  have h := (deal_all (letC (rowsZ ns)) ([], 10) [] (.inl ⟨rfl, rfl, rfl⟩) (letC_spots ns)).ms
  unfold dealM
  rw [letT_cps]
  simpa using h
theorem deal_few (ns : List Int) : (dealM ns).length ≤ (natsZ ns).length := by
  have h := rows_le (natsZ ns) ([], 10) 0 (fun _ => rfl) (Nat.le_refl _)
  unfold dealM
  rw [letT_cps, rows_cells]
  simpa using h
theorem again_rows (ns : List Int) : ∃ Ms : List Nat, (dealM ns).map fmT = Ms.map (fun (n : Nat) => fmT (n : Int)) ∧ letC ((dealM ns).map fmT) = letC (rowsZ ns) ∧ (∀ x ∈ (dealM ns).map fmT, x.cps.toList.length = 10) ∧ Pl ((dealM ns).map fmT) := by
  obtain ⟨Ms, e, h⟩ := deal_nats ns
  have e2 : (dealM ns).map fmT = Ms.map (fun (n : Nat) => fmT (n : Int)) := by rw [e, List.map_map]; rfl
  refine ⟨Ms, e2, ?_, ?_, ?_⟩
  · rw [e2, letC_cells, h]
  · rw [e2]
    intro x hx
    obtain ⟨n, _, rfl⟩ := List.mem_map.mp hx
    exact fm_len n
  · rw [e2]
    intro x hx
    obtain ⟨n, _, rfl⟩ := List.mem_map.mp hx
    exact ⟨fm_plain n, Nat.le_of_eq (fm_len n)⟩
theorem ls_len_eq {xs : List Str} (h : Pl xs) (ht : ∀ x ∈ xs, x.cps.toList.length = 10) (hn : xs ≠ []) : (lsT xs).length = 14 * xs.length := by
  rw [str_len, lsT_cps (plains h)]
  have := joinC_len_eq (ls := xs.map (·.cps.toList)) (fun l hl => by obtain ⟨x, hx, rfl⟩ := List.mem_map.mp hl; exact ht x hx) (by simpa using hn)
  rw [List.length_map] at this
  simp only [lsC, List.length_cons, List.length_append, List.length_nil]
  omega
end
/-! S_law -/
section
theorem rows_ls (ns : List Int) : (filesZ ns).map (fun n => lsText n 9) = rowsZ ns := List.map_congr_left fun n hn => ls_fm (files_in n hn).1
theorem row_len (ns : List Int) : ∀ r ∈ rowsZ ns, r.length ≤ 10 := fun r hr => (pl_rows ns r hr).2
theorem told_len (ns : List Int) : (toldT ns).length ≤ 200 := by
  have h1 := ls_len (pl_rows ns)
  have h2 := rows_cnt ns
  unfold toldT
  omega
theorem join_len (ns : List Int) : (Txt.join (Str.ofString "") (rowsZ ns)).length ≤ 60 := by
  have h1 := join_cnt (pl_rows ns)
  have h2 := rows_cnt ns
  omega
theorem join_sum (ns : List Int) : ((rowsZ ns).map (·.length)).sum + (rowsZ ns).length * (Str.ofString "").length ≤ 16777216 := join_tot (pl_rows ns) (rows_cnt ns)
theorem join_asc (ns : List Int) : ∀ c ∈ (Txt.join (Str.ofString "") (rowsZ ns)).cps.toList, c < 128 := join_signs (pl_rows ns)
theorem signs_len {xs : List Str} (h : Pl xs) (hl : xs.length ≤ 6) : (signsT (lettersOf xs)).length ≤ 60 := by
  have h1 := letC_len h
  rw [str_len, let_cps]
  omega
theorem let_len (ns : List Int) : (letT ns).length ≤ 60 := signs_len (pl_rows ns) (rows_cnt ns)
theorem fil_len (ns : List Int) : (filT ns).length ≤ 3 := fill_len _
theorem let_fig (ns : List Int) : ∀ c ∈ (letT ns).cps.toList, c < 128 ∧ isB c = true := by
  rw [letT_cps]
  exact fun c hc => letC_mem (pl_rows ns) hc
theorem let_asc (ns : List Int) : ∀ c ∈ (letT ns).cps.toList, c < 128 := fun c hc => (let_fig ns c hc).1
theorem let_spots (ns : List Int) : ∀ c ∈ (letT ns).cps.toList, spotsZ c ≠ [] := by
  rw [letT_cps]
  exact fun c hc => (letC_spots ns c hc).2
theorem toldf_asc (ns : List Int) : ∀ c ∈ (toldT ns ++ filT ns).cps.toList, c < 128 := fun c hc => (with_fill (ls_signs (pl_rows ns)) c hc).1
theorem toldf_61 (ns : List Int) : ∀ n ∈ intsOf (octs (toldT ns ++ filT ns)), n ≠ 61 := not_61 (with_fill (ls_signs (pl_rows ns)))
theorem told_asc (ns : List Int) : ∀ c ∈ (toldT ns).cps.toList, c < 128 := fun c hc => (ls_signs (pl_rows ns) c hc).1
theorem told_61 (ns : List Int) : ∀ n ∈ intsOf (octs (toldT ns)), n ≠ 61 := not_61 (ls_signs (pl_rows ns))
theorem whole_asc (ns : List Int) : ∀ c ∈ (letT ns ++ filT ns).cps.toList, c < 128 := fun c hc => (with_fig (let_fig ns) c hc).1
theorem fig_of {y : Str} (h : ∀ c ∈ y.cps.toList, c < 128 ∧ isB c = true) : ∀ c ∈ y.cps.toList, 0 ≤ figZ c ∧ figZ c < 64 := by
  intro c hc
  obtain ⟨_, a, b, _⟩ := fig_is (h c hc).1 (h c hc).2
  exact ⟨a, b⟩
theorem whole_fig (ns : List Int) : ∀ c ∈ (letT ns ++ filT ns).cps.toList, 0 ≤ figZ c ∧ figZ c < 64 := fig_of (with_fig (let_fig ns))
theorem whole_four (ns : List Int) : (letT ns ++ filT ns).length % 4 = 0 := fill_four _
theorem told_filter (ns : List Int) : (toldT ns).cps.toList.filter isB = (letT ns).cps.toList := by
  rw [letT_cps]
  exact ls_filter (pl_rows ns)
theorem read_whole (ns : List Int) (t : Tok) : readV (toldT ns ++ filT ns) t = .bytes (oct8 (letT ns ++ filT ns)).toArray t := read_fill t (ls_signs (pl_rows ns)) (told_filter ns)
theorem oct_is (y : Str) : byteArr (octL (y.cps.toList.map figZ) (y.length / 4)) = (oct8 y).toArray := rfl
theorem oct8_len (y : Str) : (oct8 y).length = 3 * (y.length / 4) := by
  unfold oct8 octZ
  rw [List.length_map, octL_len]
theorem oct_len (ns : List Int) : (oct8 (letT ns ++ filT ns)).length ≤ 100 := by
  have h1 := let_len ns
  have h2 := fil_len ns
  rw [oct8_len, app_len]
  omega
theorem oct_three (ns : List Int) : (oct8 (letT ns ++ filT ns)).length % 3 = 0 := by rw [oct8_len]; omega
theorem enc_back (ns : List Int) : byteArr ((intsOf (oct8 (letT ns ++ filT ns))).foldl estep ([], 0, 0)).1 = (octs (letT ns ++ filT ns)).toArray :=
  enc_letters (whole_asc ns) (fun c hc => (with_fig (let_fig ns) c hc).2) (whole_four ns)
theorem read_none (ns : List Int) (t : Tok) (h : filT ns ≠ Str.ofString "") : readV (toldT ns) t = .none := by
  refine readV_odd t (told_asc ns) (told_filter ns) fun e => h ?_
  refine Str.ext' (Array.toList_inj.mp ?_)
  unfold filT
  rw [fill_cps]
  have e2 : padN (letT ns).cps.toList.length = 0 := by unfold padN; omega
  rw [e2]
  decide +kernel
theorem pl_rowsC (ns : List Int) (cut : Int) : Pl (cutRows ns cut) := pl_cut (pl_rows ns) _ _
theorem pl_toldC (ns : List Int) (cut : Int) : Pl (cutTold ns cut) := pl_cut (pl_rows ns) _ _
theorem rowsC_cnt (ns : List Int) (cut : Int) : (cutRows ns cut).length ≤ 6 := by unfold cutRows; rw [cut_cnt]; exact rows_cnt ns
theorem toldC_cnt (ns : List Int) (cut : Int) : (cutTold ns cut).length ≤ 6 := by unfold cutTold; rw [cut_cnt]; exact rows_cnt ns
theorem cutj_len (ns : List Int) (cut : Int) : (Txt.join (Str.ofString "") (cutRows ns cut)).length ≤ 60 := by
  have h1 := join_cnt (pl_rowsC ns cut)
  have h2 := rowsC_cnt ns cut
  omega
theorem cutj_sum (ns : List Int) (cut : Int) : ((cutRows ns cut).map (·.length)).sum + (cutRows ns cut).length * (Str.ofString "").length ≤ 16777216 := join_tot (pl_rowsC ns cut) (rowsC_cnt ns cut)
theorem cutj_asc (ns : List Int) (cut : Int) : ∀ c ∈ (Txt.join (Str.ofString "") (cutRows ns cut)).cps.toList, c < 128 := join_signs (pl_rowsC ns cut)
theorem cutl_len (ns : List Int) (cut : Int) : (signsT (lettersOf (cutRows ns cut))).length ≤ 60 := signs_len (pl_rowsC ns cut) (rowsC_cnt ns cut)
theorem cutt_len (ns : List Int) (cut : Int) : (lsT (cutTold ns cut)).length ≤ 200 := by
  have h1 := ls_len (pl_toldC ns cut)
  have h2 := toldC_cnt ns cut
  omega
theorem short_len (ns : List Int) (cut : Int) : (shT (cutTold ns cut)).length ≤ 300 := sh_len (pl_toldC ns cut) (toldC_cnt ns cut)
theorem shown_len (ns : List Int) (cut : Int) : (shownT ns cut).length ≤ 70 := by
  have h1 := cutl_len ns cut
  unfold shownT
  split
  · rw [app_len, trunc_is.2.2.2.2]; omega
  · omega
theorem sfill_len (ns : List Int) (cut : Int) : (fillT (shownT ns cut)).length ≤ 3 := fill_len _
theorem shortf_asc (ns : List Int) (cut : Int) : ∀ c ∈ (shT (cutTold ns cut) ++ fillT (shownT ns cut)).cps.toList, c < 128 := fun c hc => (with_fill (sh_signs (pl_toldC ns cut)) c hc).1
theorem shortf_61 (ns : List Int) (cut : Int) : ∀ n ∈ intsOf (octs (shT (cutTold ns cut) ++ fillT (shownT ns cut))), n ≠ 61 := not_61 (with_fill (sh_signs (pl_toldC ns cut)))
theorem shownf_asc (ns : List Int) (cut : Int) : ∀ c ∈ (shownT ns cut ++ fillT (shownT ns cut)).cps.toList, c < 128 := fun c hc => (with_fig (shown_fig ns cut) c hc).1
theorem shownf_fig (ns : List Int) (cut : Int) : ∀ c ∈ (shownT ns cut ++ fillT (shownT ns cut)).cps.toList, 0 ≤ figZ c ∧ figZ c < 64 := fig_of (with_fig (shown_fig ns cut))
theorem shownf_four (ns : List Int) (cut : Int) : (shownT ns cut ++ fillT (shownT ns cut)).length % 4 = 0 := fill_four _
theorem read_short (ns : List Int) (cut : Int) (t : Tok) (h : cut = 0 ∨ cut = 4 ∨ cut = 5) (h6 : cut < 5 → (rowsZ ns).length = 6) : readV (shT (cutTold ns cut) ++ fillT (shownT ns cut)) t = .bytes (oct8 (shownT ns cut ++ fillT (shownT ns cut))).toArray t :=
  read_fill t (sh_signs (pl_toldC ns cut)) (sh_filter ns cut h h6)
theorem deal_pos (ns : List Int) : ∀ n ∈ dealM ns, 0 ≤ n := by
  obtain ⟨Ms, e, _⟩ := deal_nats ns
  rw [e]
  intro n hn
  obtain ⟨m, _, rfl⟩ := List.mem_map.mp hn
  exact Int.natCast_nonneg m
theorem deal_cnt (ns : List Int) : (dealM ns).length ≤ 6 := Nat.le_trans (deal_few ns) (nats_len ns)
theorem again_le (ns : List Int) : (againT ns).length ≤ (toldT ns).length := by
  obtain ⟨_, _, _, ht, hp⟩ := again_rows ns
  have hd := deal_few ns
  have e1 : (rowsZ ns).length = (natsZ ns).length := by rw [rows_nats, List.length_map]
  have e2 : 2 ≤ (rowsZ ns).length := by
    unfold rowsZ
    rw [List.length_map, files_len]; omega
  unfold againT toldT
  rw [ls_len_eq (pl_rows ns) (ten_rows ns) (fun e => by rw [e] at e2; exact absurd e2 (by decide))]
  by_cases h0 : (dealM ns).map fmT = []
  · have := ls_len hp
    rw [h0] at this ⊢
    simp only [List.length_nil] at this
    omega
  · rw [ls_len_eq hp ht h0, List.length_map]
    omega
theorem again_pl (ns : List Int) : Pl ((dealM ns).map fmT) := by
  obtain ⟨_, _, _, _, hp⟩ := again_rows ns
  exact hp
theorem againf_asc (ns : List Int) : ∀ c ∈ (againT ns ++ filT ns).cps.toList, c < 128 := fun c hc => (with_fill (ls_signs (again_pl ns)) c hc).1
theorem againf_61 (ns : List Int) : ∀ n ∈ intsOf (octs (againT ns ++ filT ns)), n ≠ 61 := not_61 (with_fill (ls_signs (again_pl ns)))
theorem read_again (ns : List Int) (t : Tok) : readV (againT ns ++ filT ns) t = .bytes (oct8 (letT ns ++ filT ns)).toArray t := by
  refine read_fill t (ls_signs (again_pl ns)) ?_
  obtain ⟨_, _, hl, _, _⟩ := again_rows ns
  rw [letT_cps, ← hl]
  exact ls_filter (again_pl ns)
end
/-! C_law -/
section
section
variable {w : World} {loose : List Str} {mean : ExcName → Option Value} {mg mb : Str → Option Value} {news : List (Addr × Obj)}
theorem c_told (ns : List Int) {l : Addr} {vs : List Value} {c : Nat} (hm : (l, listOf vs.toArray c) ∈ news) (hS : StrsAre vs (rowsZ ns)) : Tell 3 w loose mean mg mb 29 news [.ref l] [] (fun t => .str (toldT ns) t) :=
  safe_tell l vs _ c hm hS (Nat.le_trans (told_len ns) (by decide))
theorem c_again (ns : List Int) {l : Addr} {vs : List Value} {c : Nat} (hm : (l, listOf vs.toArray c) ∈ news) (hS : StrsAre vs ((dealM ns).map fmT)) : Tell 3 w loose mean mg mb 29 news [.ref l] [] (fun t => .str (againT ns) t) :=
  safe_tell l vs _ c hm hS (Nat.le_trans (again_le ns) (Nat.le_trans (told_len ns) (by decide)))
theorem c_short (ns : List Int) (cut : Int) {l : Addr} {vs : List Value} {c : Nat} (hm : (l, listOf vs.toArray c) ∈ news) (hS : StrsAre vs (cutTold ns cut)) : Tell 3 w loose mean mg mb 29 news [.ref l, .bool true] [] (fun t => .str (shT (cutTold ns cut)) t) :=
  safe2_tell l vs _ c hm hS (Nat.le_trans (cutt_len ns cut) (by decide))
theorem c_let (ns : List Int) {l : Addr} {vs : List Value} {c : Nat} (hm : (l, listOf vs.toArray c) ∈ news) (hS : StrsAre vs (rowsZ ns)) : Tell 3 w loose mean mg mb 169 news [.ref l] [] (fun t => .str (letT ns) t) :=
  letters_tell l vs _ c hm hS (Nat.le_trans (join_len ns) (by decide)) (join_sum ns) (join_asc ns)
theorem c_cut (ns : List Int) (cut : Int) {l : Addr} {vs : List Value} {c : Nat} (hm : (l, listOf vs.toArray c) ∈ news) (hS : StrsAre vs (cutRows ns cut)) : Tell 3 w loose mean mg mb 169 news [.ref l] [] (fun t => .str (signsT (lettersOf (cutRows ns cut))) t) :=
  letters_tell l vs _ c hm hS (Nat.le_trans (cutj_len ns cut) (by decide)) (cutj_sum ns cut) (cutj_asc ns cut)
theorem c_fill (ns : List Int) (t : Tok) : Tell 1 w loose mean mg mb 176 news [.str (letT ns) t] [] (fun t => .str (filT ns) t) := fill_tell _ t (Nat.le_trans (let_len ns) (by decide))
theorem c_sfill (ns : List Int) (cut : Int) (t : Tok) : Tell 1 w loose mean mg mb 176 news [.str (shownT ns cut) t] [] (fun t => .str (fillT (shownT ns cut)) t) := fill_tell _ t (Nat.le_trans (shown_len ns cut) (by decide))
theorem c_oct (ns : List Int) (t : Tok) : Tell 3 w loose mean mg mb 181 news [.str (letT ns ++ filT ns) t] [] (fun t => .bytes (oct8 (letT ns ++ filT ns)).toArray t) :=
  octets_tell _ t (by rw [Str.length_append]; have := let_len ns; have := fil_len ns; omega) (whole_four ns) (whole_asc ns) (whole_fig ns)
theorem c_soct (ns : List Int) (cut : Int) (t : Tok) : Tell 3 w loose mean mg mb 181 news [.str (shownT ns cut ++ fillT (shownT ns cut)) t] [] (fun t => .bytes (oct8 (shownT ns cut ++ fillT (shownT ns cut))).toArray t) :=
  octets_tell _ t (by rw [Str.length_append]; have := shown_len ns cut; have := sfill_len ns cut; omega) (shownf_four ns cut) (shownf_asc ns cut) (shownf_fig ns cut)
theorem c_enc (ns : List Int) (t : Tok) : Tell 5 w loose mean mg mb 102 news [.bytes (oct8 (letT ns ++ filT ns)).toArray t] [] (fun t => .bytes (octs (letT ns ++ filT ns)).toArray t) := by
  have h := encode_tell (w := w) (loose := loose) (mean := mean) (mg := mg) (mb := mb) (news := news) (oct8 (letT ns ++ filT ns)) t (Nat.le_trans (oct_len ns) (by decide)) (oct_three ns)
  rwa [enc_back ns] at h
theorem c_read (ns : List Int) (t : Tok) : TellT 6 w loose mean mg mb 200 news [.str (toldT ns ++ filT ns) t] [] (fun t => .bytes (oct8 (letT ns ++ filT ns)).toArray t) := by
  have h := reading_tell (w := w) (loose := loose) (mean := mean) (mg := mg) (mb := mb) (news := news) (toldT ns ++ filT ns) t (by rw [Str.length_append]; have := told_len ns; have := fil_len ns; omega) (toldf_asc ns) (toldf_61 ns)
  rwa [funext (read_whole ns)] at h
theorem c_none (ns : List Int) (t : Tok) (hf' : (filT ns != Str.ofString "") = true) : TellT 6 w loose mean mg mb 200 news [.str (toldT ns) t] [] (fun _ => .none) := by
  have hf : filT ns ≠ Str.ofString "" := by simpa using hf'
  have h := reading_tell (w := w) (loose := loose) (mean := mean) (mg := mg) (mb := mb) (news := news) (toldT ns) t (Nat.le_trans (told_len ns) (by decide)) (told_asc ns) (told_61 ns)
  rwa [funext fun t => read_none ns t hf] at h
theorem c_rshort (ns : List Int) (cut : Int) (t : Tok) (h : cut = 0 ∨ cut = 4 ∨ cut = 5) (h6 : cut < 5 → (rowsZ ns).length = 6) : TellT 6 w loose mean mg mb 200 news [.str (shT (cutTold ns cut) ++ fillT (shownT ns cut)) t] [] (fun t => .bytes (oct8 (shownT ns cut ++ fillT (shownT ns cut))).toArray t) := by
  have h' := reading_tell (w := w) (loose := loose) (mean := mean) (mg := mg) (mb := mb) (news := news) (shT (cutTold ns cut) ++ fillT (shownT ns cut)) t (by rw [Str.length_append]; have := short_len ns cut; have := sfill_len ns cut; omega) (shortf_asc ns cut) (shortf_61 ns cut)
  rwa [funext fun t => read_short ns cut t h h6] at h'
theorem c_ragain (ns : List Int) (t : Tok) : TellT 6 w loose mean mg mb 200 news [.str (againT ns ++ filT ns) t] [] (fun t => .bytes (oct8 (letT ns ++ filT ns)).toArray t) := by
  have h := reading_tell (w := w) (loose := loose) (mean := mean) (mg := mg) (mb := mb) (news := news) (againT ns ++ filT ns) t (by rw [Str.length_append]; have := again_le ns; have := told_len ns; have := fil_len ns; omega) (againf_asc ns) (againf_61 ns)
  rwa [funext (read_again ns)] at h
theorem c_deal (ns : List Int) (t : Tok) : TellL 3 w loose mean mg mb 193 news [.str (letT ns) t] (fun us => IntsAre us (dealM ns)) :=
  dealt_tell _ t (Nat.le_trans (let_len ns) (by decide)) (let_asc ns) (let_spots ns)
end
end
/-! P_law -/
section
theorem top_off_P_law : True := by
  w_top off
  trivial
local macro_rules | `(tactic| k_qdec) => `(tactic| decide +kernel)
local macro_rules | `(tactic| walk_at "my next") => `(tactic| (intro t9 h9 tk9 F9 N9; (try dsimp only); (try k_fold)))
local macro_rules | `(tactic| walk_at "my useM") => `(tactic| (walk_at "my goals"; (case m1 => k_mem); (case m2 => with_reducible assumption); walk_at "my next"))
local macro_rules | `(tactic| walk_at "my useT") => `(tactic| (walk_at "my goals"; (case kXB => k_asm); (case kTB => k_asm); (try case m1 => assumption); (try case m2 => assumption); walk_at "my next"))
local macro_rules | `(tactic| walk_at "eval ListComp") => `(tactic| (refine Hold.out ?_))
local macro_rules | `(tactic| walk_at "CompSrc") => `(tactic| (refine Hold.out ?_))
local macro_rules | `(tactic| walk_at "binaryOp Add ref ref") => `(tactic| (k_here; (refine add_led (by k_asm) (by k_asm) (by k_mem) (by k_mem) (by (try simp only [List.length_cons, List.length_nil]); first | walk_at "my size" | omega) ?_); intro D' h' F' N' l1; (try k_lt l1)))
local macro_rules | `(tactic| walk_at "call ref") => `(tactic| (k_here; (with_reducible show wpAny _ _ (call (Value.ref 157) [Value.int _ _] _) _ _ _); k_dflt (refine' Tell.use (filemode_tell _ _ ?m1) ?k1 ?k2 ?k3 ?k4 ?k5 ?kK ?kd ?ku ?_; walk_at "my goals"; (case m1 => assumption); walk_at "my next")))
local macro_rules | `(tactic| walk_at "call ref") => `(tactic| (k_here; (with_reducible show wpAny _ _ (call (Value.ref 164) [Value.int _ _] _) _ _ _); k_dflt (refine' Tell.use (listing_tell _ _ ?m1 ?m2) ?k1 ?k2 ?k3 ?k4 ?k5 ?kK ?kd ?ku ?_; walk_at "my goals"; (case m1 => assumption); (case m2 => assumption); walk_at "my next")))
local macro_rules | `(tactic| walk_at "call ref") => `(tactic| (k_here; (with_reducible show wpAny _ _ (call (Value.ref 29) [Value.ref _] _) _ _ _); k_dflt (refine' Tell.use (c_told _ ?m1 ?m2) ?k1 ?k2 ?k3 ?k4 ?k5 ?kK ?kd ?ku ?_; walk_at "my useM")))
local macro_rules | `(tactic| walk_at "call ref") => `(tactic| (k_here; (with_reducible show wpAny _ _ (call (Value.ref 29) [Value.ref _] _) _ _ _); k_dflt (refine' Tell.use (c_again _ ?m1 ?m2) ?k1 ?k2 ?k3 ?k4 ?k5 ?kK ?kd ?ku ?_; walk_at "my useM")))
local macro_rules | `(tactic| walk_at "call ref") => `(tactic| (k_here; (with_reducible show wpAny _ _ (call (Value.ref 29) [Value.ref _, Value.bool true] _) _ _ _); k_dflt (refine' Tell.use (c_short _ _ ?m1 ?m2) ?k1 ?k2 ?k3 ?k4 ?k5 ?kK ?kd ?ku ?_; walk_at "my useM")))
local macro_rules | `(tactic| walk_at "call ref") => `(tactic| (k_here; (with_reducible show wpAny _ _ (call (Value.ref 169) [Value.ref _] _) _ _ _); k_dflt (refine' Tell.use (c_let _ ?m1 ?m2) ?k1 ?k2 ?k3 ?k4 ?k5 ?kK ?kd ?ku ?_; walk_at "my useM")))
local macro_rules | `(tactic| walk_at "call ref") => `(tactic| (k_here; (with_reducible show wpAny _ _ (call (Value.ref 169) [Value.ref _] _) _ _ _); k_dflt (refine' Tell.use (c_cut _ _ ?m1 ?m2) ?k1 ?k2 ?k3 ?k4 ?k5 ?kK ?kd ?ku ?_; walk_at "my useM")))
local macro_rules | `(tactic| walk_at "call ref") => `(tactic| (k_here; (with_reducible show wpAny _ _ (call (Value.ref 176) [Value.str (letT _) _] _) _ _ _); k_dflt (refine' Tell.use (c_fill _ _) ?k1 ?k2 ?k3 ?k4 ?k5 ?kK ?kd ?ku ?_; walk_at "my use")))
local macro_rules | `(tactic| walk_at "call ref") => `(tactic| (k_here; (with_reducible show wpAny _ _ (call (Value.ref 176) [Value.str (shownT _ _) _] _) _ _ _); k_dflt (refine' Tell.use (c_sfill _ _ _) ?k1 ?k2 ?k3 ?k4 ?k5 ?kK ?kd ?ku ?_; walk_at "my use")))
local macro_rules | `(tactic| walk_at "call ref") => `(tactic| (k_here; (with_reducible show wpAny _ _ (call (Value.ref 181) [Value.str (letT _ ++ filT _) _] _) _ _ _); k_dflt (refine' Tell.use (c_oct _ _) ?k1 ?k2 ?k3 ?k4 ?k5 ?kK ?kd ?ku ?_; walk_at "my use")))
local macro_rules | `(tactic| walk_at "call ref") => `(tactic| (k_here; (with_reducible show wpAny _ _ (call (Value.ref 181) [Value.str (shownT _ _ ++ fillT (shownT _ _)) _] _) _ _ _); k_dflt (refine' Tell.use (c_soct _ _ _) ?k1 ?k2 ?k3 ?k4 ?k5 ?kK ?kd ?ku ?_; walk_at "my use")))
local macro_rules | `(tactic| walk_at "call ref") => `(tactic| (k_here; (with_reducible show wpAny _ _ (call (Value.ref 102) [Value.bytes _ _] _) _ _ _); k_dflt (refine' Tell.use (c_enc _ _) ?k1 ?k2 ?k3 ?k4 ?k5 ?kK ?kd ?ku ?_; walk_at "my use")))
local macro_rules | `(tactic| walk_at "call ref") => `(tactic| (k_here; (with_reducible show wpAny _ _ (call (Value.ref 200) [Value.str (toldT _ ++ filT _) _] _) _ _ _); k_dflt (refine' TellT.use (c_read _ _) ?k1 ?k2 ?k3 ?k4 ?k5 ?kXB ?kTB ?kK ?kd ?ku ?_; walk_at "my useT")))
local macro_rules | `(tactic| walk_at "call ref") => `(tactic| (k_here; (with_reducible show wpAny _ _ (call (Value.ref 200) [Value.str (toldT _) _] _) _ _ _); k_dflt (refine' TellT.use (c_none _ _ ?m1) ?k1 ?k2 ?k3 ?k4 ?k5 ?kXB ?kTB ?kK ?kd ?ku ?_; walk_at "my useT")))
local macro_rules | `(tactic| walk_at "call ref") => `(tactic| (k_here; (with_reducible show wpAny _ _ (call (Value.ref 200) [Value.str (shT (cutTold _ _) ++ fillT (shownT _ _)) _] _) _ _ _); k_dflt (refine' TellT.use (c_rshort _ _ _ ?m1 ?m2) ?k1 ?k2 ?k3 ?k4 ?k5 ?kXB ?kTB ?kK ?kd ?ku ?_; walk_at "my useT")))
local macro_rules | `(tactic| walk_at "call ref") => `(tactic| (k_here; (with_reducible show wpAny _ _ (call (Value.ref 200) [Value.str (againT _ ++ filT _) _] _) _ _ _); k_dflt (refine' TellT.use (c_ragain _ _) ?k1 ?k2 ?k3 ?k4 ?k5 ?kXB ?kTB ?kK ?kd ?ku ?_; walk_at "my useT")))
local macro_rules | `(tactic| walk_at "IfQ") => `(tactic| (refine Hold.out ?_))
def IfQ (h₀ : Heap) (L : Addr) (m : Str → Option Value) (led : List (Addr × Obj)) (s₁ : Shared) (f : Flow) (s' : Shared) : Prop := f = .next ∧ ∃ h' tk', s' = { s₁ with heap := h', toks := tk' } ∧ Fr h₀ L h' m ∧ News h₀ L h' led
def CutQ (ns : List Int) (h₀ : Heap) (L : Addr) (m : Str → Option Value) (led : List (Addr × Obj)) (s₁ : Shared) (v : Value) (s' : Shared) : Prop :=
  ∃ (T : Addr) (its : List Value) (n : Nat) (h' : Heap) (tk' : Nat), v = .ref T ∧ s' = { s₁ with heap := h', toks := tk' } ∧ Fr h₀ L h' m ∧ News h₀ L h' ((T, ({ cls := .type "tuple", data := .seq its.toArray n } : Obj)) :: led) ∧ (∀ p ∈ led, p.1 ≠ T) ∧ ∀ (i : Nat) v, its[i]? = some v → ∃ k t, v = Value.int k t ∧ (k = 0 ∨ k = 4 ∨ k = 5) ∧ (k < 5 → (rowsZ ns).length = 6)
local macro_rules | `(tactic| walk_at "CutQ") => `(tactic| (refine Hold.out ?_))
local macro_rules | `(tactic| walk_at "exec If") => `(tactic| ((fail_if_success (with_reducible show wpAny _ _ _ (IfQ _ _ _ _ _) _ _)); (with_reducible show wpAny _ _ (exec (Stmt.If (Expr.BoolOp BoolOp.And _ _) _ _ _) _) _ _ _); refine Hold.out ?_))
local macro_rules | `(tactic| walk_at "eval IfExp") => `(tactic| ((fail_if_success (with_reducible show wpAny _ _ _ (CutQ _ _ _ _ _ _) _ _)); refine Hold.out ?_))
theorem cut_join {M : Model} {A : Around} {E : Value → Shared → Prop} {Q : Value → Shared → Prop} {s : Shared} {t : Sem Value} {ns : List Int} {h₀ : Heap} {L : Addr} {m : Str → Option Value} {led : List (Addr × Obj)} (_F : Fr h₀ L s.heap m) (_N : News h₀ L s.heap led)
    (h1 : wpAny M A t (CutQ ns h₀ L m led s) E s) (h2 : ∀ (T : Addr) (its : List Value) (n : Nat) (h' : Heap) (tk' : Nat), Fr h₀ L h' m → News h₀ L h' ((T, ({ cls := .type "tuple", data := .seq its.toArray n } : Obj)) :: led) → (∀ p ∈ led, p.1 ≠ T) → (∀ (i : Nat) v, its[i]? = some v → ∃ k t, v = Value.int k t ∧ (k = 0 ∨ k = 4 ∨ k = 5) ∧ (k < 5 → (rowsZ ns).length = 6)) → Q (.ref T) { s with heap := h', toks := tk' }) : wpAny M A t Q E s :=
  wpAny_mono h1 (fun f s' h => by obtain ⟨T, its, n, h', tk', rfl, rfl, F', N', hT, hits⟩ := h; exact h2 T its n h' tk' F' N' hT hits) (fun _ _ e => e)
theorem if_join {M : Model} {A : Around} {E : Value → Shared → Prop} {Q : Flow → Shared → Prop} {s : Shared} {t : Sem Flow} {h₀ : Heap} {L : Addr} {m : Str → Option Value} {led : List (Addr × Obj)} (_F : Fr h₀ L s.heap m) (_N : News h₀ L s.heap led)
    (h1 : wpAny M A t (IfQ h₀ L m led s) E s) (h2 : ∀ h' tk', Fr h₀ L h' m → News h₀ L h' led → Q .next { s with heap := h', toks := tk' }) : wpAny M A t Q E s :=
  wpAny_mono h1 (fun f s' h => by obtain ⟨rfl, h', tk', rfl, F', N'⟩ := h; exact h2 h' tk' F' N') (fun _ _ e => e)
theorem fr_m {h₀ h : Heap} {L : Addr} {m : Str → Option Value} (F : Fr h₀ L h m) : ∃ m', m' = m ∧ Fr h₀ L h m' := ⟨_, rfl, F⟩
theorem law_names {h₀ h : Heap} {L Dd Dl Df C : Addr} {od ol od' oc : Obj} {t1 t2 x1 x2 x3 : Addr × Obj} (N : News h₀ L h [t1, t2, (Dd, od), (Dl, ol), (Df, od'), x1, x2, x3, (C, oc)]) :
    ∃ d l f, d = Dd ∧ l = Dl ∧ f = Df ∧ News h₀ L h [(d, od), (l, ol), (f, od'), (C, oc)] :=
  ⟨_, _, _, rfl, rfl, rfl, cb_drop N (by intro p hp; simp only [List.mem_cons, List.not_mem_nil, or_false] at hp ⊢; rcases hp with h | h | h | h <;> simp [h])⟩
def lwf (ns : List Int) (tr tf tt tl : Tok) (Dl Dd Df : Addr) (sc : Value) (vc vs vh : Option Value) : Str → Option Value := fun z =>
  if z = Str.ofString "short" then vh else if z = Str.ofString "shown" then vs else if z = Str.ofString "cuts" then vc
  else if z = Str.ofString "read" then some (.bytes (oct8 (letT ns ++ filT ns)).toArray tr) else if z = Str.ofString "fill" then some (.str (filT ns) tf) else if z = Str.ofString "told" then some (.str (toldT ns) tt)
  else if z = Str.ofString "letters" then some (.str (letT ns) tl) else if z = Str.ofString "listed" then some (.ref Dl) else if z = Str.ofString "due" then some (.ref Dd) else if z = Str.ofString "files" then some (.ref Df)
  else if z = Str.ofString "script" then some sc else none
theorem lwf_start {mb : Str → Option Value} {ns : List Int} {tr tf tt tl : Tok} {Dl Dd Df : Addr} {sc : Value} (hb : mb = fun z => if z = Str.ofString "script" then some sc else none) :
    (fun z => if z = Str.ofString "read" then some (.bytes (oct8 (letT ns ++ filT ns)).toArray tr) else if z = Str.ofString "fill" then some (.str (filT ns) tf) else if z = Str.ofString "told" then some (.str (toldT ns) tt)
      else if z = Str.ofString "letters" then some (.str (letT ns) tl) else if z = Str.ofString "listed" then some (.ref Dl) else if z = Str.ofString "due" then some (.ref Dd) else if z = Str.ofString "files" then some (.ref Df) else mb z) = lwf ns tr tf tt tl Dl Dd Df sc none none none := by
  subst hb
  funext z
  unfold lwf
  by_cases h1 : z = Str.ofString "short"
  · subst h1; rfl
  by_cases h2 : z = Str.ofString "shown"
  · subst h2; rfl
  by_cases h3 : z = Str.ofString "cuts"
  · subst h3; rfl
  rw [if_neg h1, if_neg h2, if_neg h3]
local macro_rules | `(tactic| walk_at "exec For Name Name cons nil") => `(tactic| (refine Hold.out ?_))
local macro_rules | `(tactic| walk_at "pyIter ref") => `(tactic| (refine Hold.out ?_))
theorem lwf_cuts {ns : List Int} {tr tf tt tl : Tok} {Dl Dd Df : Addr} {sc : Value} {vc vc' vs vh : Option Value} : (fun z => if z = Str.ofString "cuts" then vc' else lwf ns tr tf tt tl Dl Dd Df sc vc vs vh z) = lwf ns tr tf tt tl Dl Dd Df sc vc' vs vh := by
  funext z
  unfold lwf
  by_cases h3 : z = Str.ofString "cuts"
  · subst h3; rfl
  · rw [if_neg h3]
    by_cases h1 : z = Str.ofString "short"
    · subst h1; rfl
    by_cases h2 : z = Str.ofString "shown"
    · subst h2; rfl
    rw [if_neg h1, if_neg h2, if_neg h3, if_neg h1, if_neg h2, if_neg h3]
def CutJ (ns : List Int) (tr tf tt tl : Tok) (Dl Dd Df : Addr) (sc : Value) (T C : Addr) (od ol odf : Obj) (_i : Nat) (m' : Str → Option Value) (news' : List (Addr × Obj)) : Prop :=
  ∃ vs vh oc vC, m' = lwf ns tr tf tt tl Dl Dd Df sc (some (.ref T)) vs vh ∧ news' = [(Dd, od), (Dl, ol), (Df, odf), (C, oc)] ∧ oc.data = .cell vC
local macro_rules | `(tactic| walk_at "subscriptTail Name Slice ref ref") => `(tactic| (k_here; (with_reducible show wpAny _ _ (subscriptTail _ (PySem.Expr.Slice none (some _) none _) (Value.ref _) (Value.ref _)) _ _ _); k_dflt (refine' take_led (k := 5) ?j ?F ?N ?m ?S ?x ?_ ?s ?t; (case j => rfl); (case F => k_asm); (case N => k_asm); (case m => k_mem); (case S => assumption); (case x => (first | walk_at "my size" | omega)); (case s => with_unfolding_all rfl); (case t => kmk_pure)); intro D' ws' h' F' N' l1 hS' hb'; (try k_lt l1); (try k_sweep)))
local macro_rules | `(tactic| walk_at "subscriptTail Name Slice ref ref") => `(tactic| (k_here; (with_reducible show wpAny _ _ (subscriptTail _ (PySem.Expr.Slice (some _) none none _) (Value.ref _) (Value.ref _)) _ _ _); k_dflt (refine' drop_led (k := 5) ?j ?F ?N ?m ?S ?x ?_ ?s ?t; (case j => rfl); (case F => k_asm); (case N => k_asm); (case m => k_mem); (case S => assumption); (case x => (first | walk_at "my size" | omega)); (case s => with_unfolding_all rfl); (case t => kmk_pure)); intro D' ws' h' F' N' l1 hS' hb'; (try k_lt l1); (try k_sweep)))
local macro_rules | `(tactic| walk_at "subscriptTail Name Slice str ref") => `(tactic| ((with_reducible show wpAny _ _ (subscriptTail _ (Expr.Slice (some _) (some _) none _) _ _) _ _ _); (with_reducible rename Fr _ _ _ _ => F'); (with_reducible rename News _ _ _ _ => N'); (refine slice_strN_ss (hsz := ?hsz) (s := ⟨_, _, _, _, _⟩) F' N' ?_); (case hsz => (rw [sizeLine_eq]; (first | walk_at "my size" | omega))); intro _ _ _ _ _))
local macro_rules | `(tactic| walk_at "subscriptTail Name Slice str ref") => `(tactic| ((with_reducible show wpAny _ _ (subscriptTail _ (Expr.Slice (some _) none none _) _ _) _ _ _); (with_reducible rename Fr _ _ _ _ => F'); (with_reducible rename News _ _ _ _ => N'); (refine slice_strN_sn (hsz := ?hsz) (s := ⟨_, _, _, _, _⟩) F' N' ?_); (case hsz => (rw [sizeLine_eq]; (first | walk_at "my size" | omega))); intro _ _ _ _ _))
def ShQ (h₀ : Heap) (L : Addr) (m2 : Tok → Str → Option Value) (led : List (Addr × Obj)) (s₁ : Shared) (f : Flow) (s' : Shared) : Prop := f = .next ∧ ∃ t h' tk', s' = { s₁ with heap := h', toks := tk' } ∧ Fr h₀ L h' (m2 t) ∧ News h₀ L h' led
local macro_rules | `(tactic| walk_at "ShQ") => `(tactic| (refine Hold.out ?_))
local macro_rules | `(tactic| walk_at "exec If") => `(tactic| ((fail_if_success (with_reducible show wpAny _ _ _ (ShQ _ _ _ _ _) _ _)); (with_reducible show wpAny _ _ (exec (Stmt.If (Expr.Compare (Expr.Name (Str.ofString "cut") _) _ _ _) _ _ _) _) _ _ _); refine Hold.out ?_))
theorem sh_join {M : Model} {A : Around} {E : Value → Shared → Prop} {Q : Flow → Shared → Prop} {s : Shared} {t : Sem Flow} {h₀ : Heap} {L : Addr} {m : Str → Option Value} {led : List (Addr × Obj)} (m2 : Tok → Str → Option Value) (_F : Fr h₀ L s.heap m) (_N : News h₀ L s.heap led)
    (h1 : wpAny M A t (ShQ h₀ L m2 led s) E s) (h2 : ∀ t h' tk', Fr h₀ L h' (m2 t) → News h₀ L h' led → Q .next { s with heap := h', toks := tk' }) : wpAny M A t Q E s :=
  wpAny_mono h1 (fun f s' h => by obtain ⟨rfl, t, h', tk', rfl, F', N'⟩ := h; exact h2 t h' tk' F' N') (fun _ _ e => e)
theorem sh_joinL {M : Model} {A : Around} {E : Value → Shared → Prop} {Q : Flow → Shared → Prop} {s : Shared} {t : Sem Flow} {h₀ : Heap} {L : Addr} {led : List (Addr × Obj)} {ns : List Int} {tr tf tt tl : Tok} {Dl Dd Df : Addr} {sc : Value} {vc vs vh : Option Value} (k : Int)
    (F : Fr h₀ L s.heap (lwf ns tr tf tt tl Dl Dd Df sc vc vs vh)) (N : News h₀ L s.heap led) (h1 : wpAny M A t (ShQ h₀ L (fun t => lwf ns tr tf tt tl Dl Dd Df sc vc (some (.str (shownT ns k) t)) vh) led s) E s)
    (h2 : ∀ t h' tk', Fr h₀ L h' (lwf ns tr tf tt tl Dl Dd Df sc vc (some (.str (shownT ns k) t)) vh) → News h₀ L h' led → Q .next { s with heap := h', toks := tk' }) : wpAny M A t Q E s := sh_join _ F N h1 h2
theorem lwf_shown {ns : List Int} {tr tf tt tl : Tok} {Dl Dd Df : Addr} {sc : Value} {vc vs vs' vh : Option Value} : (fun z => if z = Str.ofString "shown" then vs' else lwf ns tr tf tt tl Dl Dd Df sc vc vs vh z) = lwf ns tr tf tt tl Dl Dd Df sc vc vs' vh := by
  funext z
  unfold lwf
  by_cases h3 : z = Str.ofString "shown"
  · subst h3; rfl
  · rw [if_neg h3]
    by_cases h1 : z = Str.ofString "short"
    · subst h1; rfl
    rw [if_neg h1, if_neg h3, if_neg h1, if_neg h3]
theorem lwf_short {ns : List Int} {tr tf tt tl : Tok} {Dl Dd Df : Addr} {sc : Value} {vc vs vh vh' : Option Value} : (fun z => if z = Str.ofString "short" then vh' else lwf ns tr tf tt tl Dl Dd Df sc vc vs vh z) = lwf ns tr tf tt tl Dl Dd Df sc vc vs vh' := by
  funext z
  unfold lwf
  by_cases h3 : z = Str.ofString "short"
  · subst h3; rfl
  · rw [if_neg h3, if_neg h3, if_neg h3]
theorem shownT_lt {ns : List Int} {k : Int} (h : k < 5) : shownT ns k = signsT (lettersOf (cutRows ns k)) ++ Str.ofString "truncated" := if_pos h
theorem shownT_ge {ns : List Int} {k : Int} (h : ¬ k < 5) : shownT ns k = signsT (lettersOf (cutRows ns k)) := if_neg h
theorem cut_end {g h' : Heap} {L : Addr} {ns : List Int} {tr tf tt tl : Tok} {Dl Dd Df : Addr} {sc : Value} {T C : Addr} {od ol odf oc o : Obj} {vs vh vC : Option Value} {own news' : List (Addr × Obj)} {i tk : Nat} {s₁ : Shared}
    (eF : Fr g L h' (lwf ns tr tf tt tl Dl Dd Df sc (some (.ref T)) vs vh)) (eN : News g L h' news') (h1 : (Dd, od) ∈ news') (h2 : (Dl, ol) ∈ news') (h3 : (Df, odf) ∈ news') (h4 : (C, oc) ∈ news') (ho : ∀ x ∈ own, x ∈ news') (dC : oc.data = .cell vC) :
    InvEndN g L (CutJ ns tr tf tt tl Dl Dd Df sc T C od ol odf (i + 1)) own (List.map (fun x => x.fst) [(Dd, od), (Dl, ol), (Df, odf), (C, o)]) s₁ { s₁ with heap := h', toks := tk } :=
  InvEndN.intro eF eN ⟨vs, vh, oc, vC, rfl, rfl, dC⟩ rfl (List.forall_mem_cons.mpr ⟨h1, List.forall_mem_cons.mpr ⟨h2, List.forall_mem_cons.mpr ⟨h3, List.forall_mem_cons.mpr ⟨h4, List.forall_mem_nil _⟩⟩⟩⟩) ho
local macro_rules | `(tactic| walk_at "call ref") => `(tactic| (k_here; (with_reducible show wpAny _ _ (call (Value.ref 193) [Value.str (letT _) _] _) _ _ _); k_dflt (refine' TellL.use (c_deal _ _) ?k1 ?k2 ?k3 ?k4 ?k5 ?kK ?kd ?ku ?_; walk_at "my goals"; intro l9 us9 c9 h9 tk9 hU9 l1 F9 N9; (try k_lt l1); (try dsimp only); (try k_fold))))
theorem gen_ints {h₀ h : Heap} {L D : Addr} {us ws : List Value} {c : Nat} {ns ms : List Int} {news : List (Addr × Obj)} (N : News h₀ L h ((D, listOf (us ++ ws).toArray c) :: news)) (hu : IntsAre us ns) (hw : IntsAre ws ms) :
    ∃ fv c, IntsAre fv (ns ++ ms) ∧ News h₀ L h ((D, listOf fv.toArray c) :: news) := ⟨_, c, hu.append hw, N⟩
theorem ints_name {vs : List Value} {ns : List Int} (h : IntsAre vs ns) : ∃ n', n' = ns ∧ IntsAre vs n' := ⟨_, rfl, h⟩
theorem law_holds : PySem.Challenge.rw_pa0049_01.Holds := hd (by
  k_go0
  all_goals try k_fold
  have hMk := kstMark
  (rename IntsAre _ _ => hI); (rename ¬ _ < _ => hns)
  obtain ⟨ns, rfl, hI⟩ := ints_name hI
  try ((rename LooseAre _ _ _ => j); clear j)
  try ((rename Flt.MathXP _ _ _ => j); clear j)
  try ((rename Glob _ _ _ _ _ _ _ _ => j); clear j)
  try ((rename Tables _ _ _ _ => j); clear j)
  try ((rename TopE _ _ _ _ => j); clear j)
  try ((rename TopW _ _ _ => j); clear j)
  try ((rename BMod _ _ _ _ _ => j); clear j)
  try ((rename Dflts _ _ _ _ _ _ => j); clear j)
  try ((rename ReadsAllW _ _ _ _ _ _ => j); clear j)
  try ((rename Well _ _ _ _ => j); clear j)
  try ((rename CellsAre _ _ _ => j); clear j)
  try ((rename Ground _ _ _ _ _ _ => j); clear j)
  k_steps
  refine ⟨?_⟩
  refine LCg.ListComp_U (F₀ := by k_asm) (by with_unfolding_all rfl) (by decide) (by rfl) (by decide) (by rfl) ?_
  k_steps
  refine ⟨?_⟩
  (rename IntsAre _ (List.take 4 _) => hI4)
  have hl4 := hI4.length
  rw [List.length_take] at hl4
  refine LCg.CompSrc.ledger (by rfl) (by k_asm) (by k_asm) (.head _) (by rw [sizeLine_eq, List.size_toArray, hl4]; (first | walk_at "my size" | omega)) ?_
  intro g1
  refine rest_map (mk := Value.int) (mkb := Value.int) (as := List.take 4 _) (fun n => n.fmod 1000000) (by rw [List.size_toArray]; exact hI4.length.symm) (fun i v _ hv => (Made.ofInts hI4).at i v (by simpa using hv)) ?_ ?_
  · intro k t₁ I oI C oC D m₂ ys h tk E' hmem hC hx F' N' off ne
    k_steps
    refine ⟨?_⟩
    exact LCg.CompEnd.intro (by assumption) (by assumption) _ (fun p hp => hp) off (.inr ⟨_, .head _, rfl, _, rfl⟩) ⟨rfl, _, rfl⟩
  · intro y1 hy1
    have hy1l := hy1.length
    rw [List.length_map, List.length_take] at hy1l
    k_steps
    refine ⟨?_⟩
    (rename News _ _ _ _ => N0)
    obtain ⟨fv, cf, hIF, N1⟩ := gen_ints N0 (.cons _ _ (.cons _ _ .nil)) hy1.ints
    clear N0
    have hfl := hIF.length
    change fv.length = (filesZ _).length at hfl
    rw [files_len] at hfl
    refine LCg.ListComp_U (F₀ := by k_asm) (by with_unfolding_all rfl) (by decide) (by rfl) (by decide) (by rfl) ?_
    k_steps
    refine ⟨?_⟩
    refine LCg.CompSrc.ledger (by rfl) (by k_asm) (by k_asm) (.head _) (by rw [sizeLine_eq, List.size_toArray, hfl]; (first | walk_at "my size" | omega)) ?_
    intro g2
    refine rest_map (mk := Value.int) (mkb := Value.str) (as := filesZ _) fmT (by rw [List.size_toArray]; exact hIF.length.symm) (fun i v _ hv => (Made.ofInts hIF).at i v (by simpa using hv)) ?_ ?_
    · intro k t₁ I oI C oC D m₂ ys h tk E' hmem hC hx F' N' off ne
      have hk0 := (files_in k hmem).1
      k_steps
      refine ⟨?_⟩
      exact LCg.CompEnd.intro (by assumption) (by assumption) _ (fun p hp => hp) off (.inr ⟨_, .head _, rfl, _, rfl⟩) ⟨rfl, _, rfl⟩
    · intro y2 hy2
      have hS2 : StrsAre y2 (rowsZ ns) := hy2.strs
      have hy2l := hy2.length
      rw [List.length_map, files_len] at hy2l
      k_steps
      refine ⟨?_⟩
      refine LCg.ListComp_U (F₀ := by k_asm) (by with_unfolding_all rfl) (by decide) (by rfl) (by decide) (by rfl) ?_
      k_steps
      refine ⟨?_⟩
      refine LCg.CompSrc.ledger (by rfl) (by k_asm) (by k_asm) (by k_mem) (by rw [sizeLine_eq, List.size_toArray, hfl]; (first | walk_at "my size" | omega)) ?_
      intro g3
      refine rest_map (mk := Value.int) (mkb := Value.str) (as := filesZ _) (fun n => lsText n 9) (by rw [List.size_toArray]; exact hIF.length.symm) (fun i v _ hv => (Made.ofInts hIF).at i v (by simpa using hv)) ?_ ?_
      · intro k t₁ I oI C oC D m₂ ys h tk E' hmem hC hx F' N' off ne
        have hk0 := (files_in k hmem).1
        have hk1 := (files_in k hmem).2
        k_steps
        refine ⟨?_⟩
        exact LCg.CompEnd.intro (by assumption) (by assumption) _ (fun p hp => hp) off (.inr ⟨_, by k_mem, rfl, _, rfl⟩) ⟨rfl, _, rfl⟩
      · intro y3 hy3
        have hS3 : StrsAre y3 (rowsZ ns) := by rw [← rows_ls]; exact hy3.strs
        have hb1 := told_len ns
        have hb2 := let_len ns
        have hb3 := fil_len ns
        have hwa := whole_asc ns
        have hy3l := hy3.length
        rw [List.length_map, files_len] at hy3l
        k_steps
        refine ⟨?_⟩
        (rename Fr _ _ _ _ => lF'); (rename News _ _ _ _ => lN')
        obtain ⟨Dd, Dl, Df, rfl, rfl, rfl, lN⟩ := law_names lN'
        obtain ⟨m₀, hm0, lF⟩ := fr_m lF'
        have hm := hm0.trans (lwf_start (by with_unfolding_all rfl))
        clear hm0 lF' lN'
        subst hm
        refine if_join lF lN ?_ ?_
        · k_steps
          all_goals (refine ⟨?_⟩; exact ⟨rfl, _, _, rfl, by k_asm, by k_asm⟩)
        · intro h' tk' F' N'
          clear lF lN
          dsimp only
          k_steps
          refine ⟨?_⟩
          (rename Fr _ _ _ _ => lF); (rename News _ _ _ _ => lN)
          have hrl : (rowsZ ns).length = 2 + min 4 ns.length := by unfold rowsZ; rw [List.length_map, files_len]
          refine cut_join (ns := ns) lF lN ?_ ?_
          · k_steps
            · refine ⟨?_⟩
              (rename _ = (6 : Int) => h6)
              simp only [List.length_map, List.length_take] at h6
              refine ⟨_, [.int 0 _, .int 4 _, .int 5 _], _, _, _, rfl, rfl, by k_asm, by k_asm, ?_, ?_⟩
              · exact List.forall_mem_cons.mpr ⟨by k_ne, List.forall_mem_cons.mpr ⟨by k_ne, List.forall_mem_cons.mpr ⟨by k_ne, List.forall_mem_cons.mpr ⟨by k_ne, List.forall_mem_nil _⟩⟩⟩⟩
              · intro i v hv
                rcases i with _ | _ | _ | i <;> simp at hv <;> subst hv
                · exact ⟨0, _, rfl, by omega, fun _ => by omega⟩
                · exact ⟨4, _, rfl, by omega, fun _ => by omega⟩
                · exact ⟨5, _, rfl, by omega, fun _ => by omega⟩
            · refine ⟨?_⟩
              refine ⟨_, [.int 5 _], _, _, _, rfl, rfl, by k_asm, by k_asm, ?_, ?_⟩
              · exact List.forall_mem_cons.mpr ⟨by k_ne, List.forall_mem_cons.mpr ⟨by k_ne, List.forall_mem_cons.mpr ⟨by k_ne, List.forall_mem_cons.mpr ⟨by k_ne, List.forall_mem_nil _⟩⟩⟩⟩
              · intro i v hv
                rcases i with _ | i <;> simp at hv <;> subst hv
                exact ⟨5, _, rfl, by omega, fun _ => by omega⟩
          · intro T its nt h' tk' F' N' hT hits
            clear lF lN
            dsimp only
            k_steps
            refine ⟨?_⟩
            refine wpAny_For ?_
            k_steps
            refine ⟨?_⟩
            (rename Fr _ _ _ _ => lF'); (rename News _ _ _ _ => lN')
            obtain ⟨m₀, hm0, lF⟩ := fr_m lF'
            have hm := hm0.trans lwf_cuts
            clear hm0 lF'
            subst hm
            refine' iter_tupN (vs := its) (CutJ ns _ _ _ _ Dl Dd Df _ T _ _ _ _) rfl lF (cb_drop lN' (by intro p hp; rw [List.mem_singleton.mp hp]; exact .head _)) ?_ (cb_drop lN' (by intro p hp; exact .tail _ hp)) ⟨none, none, _, _, rfl, rfl, by assumption⟩ ?_ ?_
            · exact hT
            · rintro i v m₁ news₁ h tk own hv ha₁ hoff ⟨vs, vh, oc, vC, rfl, rfl, hoc⟩ F' N'
              clear lF lN'
              simp only [List.map_cons, List.map_nil] at hoff
              simp only [List.cons_append, List.nil_append] at N'
              obtain ⟨k, t, rfl, hk, hk6⟩ := hits i v hv
              try k_fold
              k_steps
              refine ⟨?_⟩
              refine LCg.ListComp_U (F₀ := by k_asm) (by with_unfolding_all rfl) (by decide) (by rfl) (by decide) (by rfl) ?_
              k_steps
              refine ⟨?_⟩
              (rename StrsAre _ (List.take 5 _) => hS5); (rename StrsAre _ (List.drop 5 _) => hD5)
              refine LCg.CompSrc.ledger (by rfl) (by k_asm) (by k_asm) (.head _) (by rw [sizeLine_eq, List.size_toArray]; (first | walk_at "my size" | omega)) ?_
              intro g4
              refine rest_map (mk := Value.str) (mkb := Value.str) (as := (rowsZ ns).drop 5) (fun r => Txt.slice r (some k) (some (k + 8))) (by rw [List.size_toArray]; exact hD5.length.symm) (fun i v _ hv => (Made.ofStrs hD5).at i v (by simpa using hv)) ?_ ?_
              · intro r t₁ I oI C oC D m₂ ys h tk E' hmem hC hx F' N' off ne
                have hr10 := row_len ns r (List.mem_of_mem_drop hmem)
                k_steps
                refine ⟨?_⟩
                exact LCg.CompEnd.intro (by assumption) (by assumption) _ (fun p hp => hp) off (.inr ⟨_, .head _, rfl, _, rfl⟩) ⟨rfl, _, rfl⟩
              · intro y4 hy4
                have hSc : StrsAre (_ ++ y4) (cutRows ns k) := hS5.append' hy4.strs
                have hy4l := hy4.length
                rw [List.length_map, List.length_drop] at hy4l
                have hcl := cutl_len ns k
                k_steps
                refine ⟨?_⟩
                (rename Fr _ _ _ _ => lF'); (rename News _ _ _ _ => lN')
                obtain ⟨m₀, hm0, lF⟩ := fr_m lF'
                have hm := hm0.trans lwf_shown
                clear hm0 lF'
                subst hm
                refine sh_joinL k lF lN' ?_ ?_
                · k_steps
                  · refine ⟨?_⟩
                    (rename Fr _ _ _ _ => eF); (rename k < 5 => hk5)
                    rw [lwf_shown, ← shownT_lt hk5] at eF
                    exact ⟨rfl, _, _, _, rfl, eF, by k_asm⟩
                  · refine ⟨?_⟩
                    (rename ¬ k < 5 => hk5)
                    rw [← shownT_ge hk5] at lF
                    exact ⟨rfl, _, _, _, rfl, lF, by k_asm⟩
                · intro t5 h5 tk5 F5 N5
                  clear lF lN'
                  have hsl := shown_len ns k
                  have hfl2 := sfill_len ns k
                  have hsh := short_len ns k
                  dsimp only
                  k_steps
                  refine ⟨?_⟩
                  refine LCg.ListComp_U (F₀ := by k_asm) (by with_unfolding_all rfl) (by decide) (by rfl) (by decide) (by rfl) ?_
                  k_steps
                  refine ⟨?_⟩
                  (rename StrsAre _ (List.take 5 _) => hS6); (rename StrsAre _ (List.drop 5 _) => hD6)
                  refine LCg.CompSrc.ledger (by rfl) (by k_asm) (by k_asm) (.head _) (by rw [sizeLine_eq, List.size_toArray]; (first | walk_at "my size" | omega)) ?_
                  intro g5
                  refine rest_map (mk := Value.str) (mkb := Value.str) (as := (rowsZ ns).drop 5) (fun r => Txt.slice r (some k) none) (by rw [List.size_toArray]; exact hD6.length.symm) (fun i v _ hv => (Made.ofStrs hD6).at i v (by simpa using hv)) ?_ ?_
                  · intro r t₁ I oI C oC D m₂ ys h tk E' hmem hC hx F' N' off ne
                    have hr10 := row_len ns r (List.mem_of_mem_drop hmem)
                    k_steps
                    refine ⟨?_⟩
                    exact LCg.CompEnd.intro (by assumption) (by assumption) _ (fun p hp => hp) off (.inr ⟨_, .head _, rfl, _, rfl⟩) ⟨rfl, _, rfl⟩
                  · intro y5 hy5
                    have hSt : StrsAre (_ ++ y5) (cutTold ns k) := hS6.append' hy5.strs
                    have hy5l := hy5.length
                    rw [List.length_map, List.length_drop] at hy5l
                    k_steps
                    refine ⟨?_⟩
                    (rename Fr _ _ _ _ => eF); (rename News _ _ _ _ => eN)
                    rw [lwf_short] at eF
                    exact cut_end eF eN (by k_mem) (by k_mem) (by k_mem) (by k_mem) (by intro q hq; simp only [List.mem_cons]; simp [hq]) (by assumption)
            · rintro m₁ news₁ h tk ⟨vs, vh, oc, vC, rfl, rfl, hoc⟩ F' N'
              clear lF lN'
              try k_fold
              k_steps
              refine ⟨?_⟩
              refine LCg.ListComp_U (F₀ := by k_asm) (by with_unfolding_all rfl) (by decide) (by rfl) (by decide) (by rfl) ?_
              k_steps
              refine ⟨?_⟩
              (rename IntsAre _ (dealM ns) => hU)
              have hUl := hU.length
              have hdc := deal_cnt ns
              refine LCg.CompSrc.ledger (by rfl) (by k_asm) (by k_asm) (.head _) (by rw [sizeLine_eq, List.size_toArray, hUl]; (first | walk_at "my size" | omega)) ?_
              intro g6
              refine rest_map (mk := Value.int) (mkb := Value.str) (as := dealM ns) fmT (by rw [List.size_toArray]; exact hUl.symm) (fun i v _ hv => (Made.ofInts hU).at i v (by simpa using hv)) ?_ ?_
              · intro k t₁ I oI C oC D m₂ ys h tk E' hmem hC hx F' N' off ne
                have hk0 := deal_pos ns k hmem
                k_steps
                refine ⟨?_⟩
                exact LCg.CompEnd.intro (by assumption) (by assumption) _ (fun p hp => hp) off (.inr ⟨_, .head _, rfl, _, rfl⟩) ⟨rfl, _, rfl⟩
              · intro y6 hy6
                have hS7 : StrsAre y6 ((dealM ns).map fmT) := hy6.strs
                have hag := again_le ns
                k_steps)
end
end Mine
theorem PySem.Challenge.cw_pa0049_01_holds : PySem.Challenge.rw_pa0049_01.Holds := by
  exact Mine.law_holds
