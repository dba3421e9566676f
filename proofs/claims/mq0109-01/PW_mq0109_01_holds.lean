import PyProof.Rows.All
import Wide.All
import OpenK.AllK
import Wide.FinOn
import PySem.Challenge.RW_mq0109_01
open PySem PySem.W PySem.Calls PyProof.Rows
set_option Elab.async false
set_option maxRecDepth 100000
set_option maxHeartbeats 800000
namespace Mine
open_top hd for PySem.Challenge.rw_mq0109_01
end Mine

namespace Mine
abbrev AL (d u : Nat) : Around := { handled := none, depth := d, frames := none, guards := none, units := u }

theorem weaken {α : Type} {M : Model} {A : Around} {t : Sem α} {Q : α → Shared → Prop} {E : Value → Shared → Prop} {s : Shared} (d u : Nat) (h0 : A.handled = none) (hd : A.depth ≤ d) (hu : A.units ≤ u)
    (h : wpAny M (AL d u) t Q E s) : wpAny M A t Q E s :=
  fun Γ p hΓ => h Γ p ⟨hΓ.1.trans h0, Nat.le_trans hΓ.2.1 hd, (fun _ e => by cases e), (fun _ e => by cases e), Nat.le_trans hΓ.2.2.2.2 hu⟩

theorem enterP {prog : Program} {w : World} {A : Around} {E : Value → Shared → Prop} {s : Shared} {K : Frag} {Q : Value → Shared → Prop}
    {name qual : Str} {params : Arguments} {body : List Stmt} {scope : Scope} {dV kV doc pm cdv ct oc : Value} {an od : Option Addr} {osl : Array (Option Value)} {f : Addr} {pos : List Value} {kw : List (Str × Value)} {binds : List (Str × Value)}
    (X : K.In s.heap) (hlim : s.heap.NoLimit) (hroom : A.depth < recursionLimit)
    (ho : K.lookup f = some ⟨oc, od, .func (fnOf name qual params body scope dV kV doc pm an cdv ct), osl⟩) (hcd : codeIn K cdv qual = true)
    (hbind : BindsTo s (fnOf name qual params body scope dV kV doc pm an cdv ct) ⟨pos, kw⟩ binds) (hloc : ∀ y ∈ binds, scope.names.lookup y.1 = some .local)
    (h : ∀ L' h₁, Fr s.heap L' h₁ (fun y => binds.reverse.lookup y) → News s.heap L' h₁ [] →
      wpAny (model prog w) (A.deeper (envOf qual scope L' f cdv)) (execs body (envOf qual scope L' f cdv))
        (fun fl s' => Q (match fl with | .ret v => v | _ => .none) s') (fun _ _ => False)
        { s with heap := h₁, toks := s.toks + binds.length })
    (hco : scope.isCoroutine = false := by rfl) (hgen : scope.isGenerator = false := by rfl) (hk : scope.kind = .function := by rfl)
    (hcell : ∀ x ∈ scope.names, x.2 ≠ .cell := by decide) : wpAny (model prog w) A (call (.ref f) pos kw) Q E s := by
  refine wpAny_call (codeAny_call_def (fd := fnOf name qual params body scope dV kV doc pm an cdv ct) (body := body) (binds := binds) hroom (X _ _ ho) rfl hlim (codeRec_of X hcd) rfl hbind hcell hloc (fun h₁ hns hk₁ => ?_) hco hgen hk)
  exact wpAny_mono (h _ h₁ ⟨hns, fun b o e => hk₁ b o e, Nat.le_refl _⟩ News.nil) (fun fl s' hl => hl) fun _ _ y => y.elim


theorem frOn {h₀ h h' : Heap} {L : Addr} {m : Str → Option Value} (F : Fr h₀ L h m) (st : h.StaysIn h') : Fr h₀ L h' m := by
  obtain ⟨oL, a1, a2, hL, a3⟩ := F.ns
  exact ⟨⟨oL, a1, a2, st _ _ hL, a3⟩, fun b o e => st _ _ (F.keep b o e), F.above⟩
theorem newsOn {h₀ h h' : Heap} {L : Addr} {news : List (Addr × Obj)} (N : News h₀ L h news) (st : h.StaysIn h') : News h₀ L h' news :=
  fun p hp => ⟨st _ _ (N p hp).1, (N p hp).2⟩
theorem newsNew {h₀ h h' : Heap} {L x : Addr} {m : Str → Option Value} {o : Obj} {news : List (Addr × Obj)} (F : Fr h₀ L h m) (N : News h₀ L h news) (st : h.StaysIn h') (hx : h'.get? x = some o) (hn : h.get? x = none) : News h₀ L h' ((x, o) :: news) := by
  obtain ⟨oL, a1, a2, hL, a3⟩ := F.ns
  intro p hp
  rcases List.mem_cons.mp hp with rfl | hp
  · refine ⟨hx, fun e => ?_, ?_⟩
    · rw [show x = L from e, hL] at hn; cases hn
    · cases q : h₀.get? x with
      | none => rfl
      | some o' => rw [F.keep _ _ q] at hn; cases hn
  · exact newsOn N st p hp
theorem newsApart {h₀ h : Heap} {L x : Addr} {news : List (Addr × Obj)} (N : News h₀ L h news) (hn : h.get? x = none) : ∀ p ∈ news, p.1 ≠ x := fun p hp e => by
  have := (N p hp).1
  rw [e, hn] at this; cases this

end Mine

namespace Mine
local macro_rules | `(tactic| walk_at "call type:type") => `(tactic| ((with_reducible show wpAny _ _ (call _ [Value.bytes _ _]) _ _ _); refine call_type_of (Tx := "bytes") rfl (by decide +kernel) ?_))

theorem buffer_spec {w : World} {mean : ExcName → Option Value} {mg mb : Str → Option Value} {A : Around} {Q E : Value → Shared → Prop} {s : Shared} {h₀ : Heap} {L : Addr} {m : Str → Option Value} {news : List (Addr × Obj)} (F₀ : Fr h₀ L s.heap m) (N₀ : News h₀ L s.heap news) (X₀ : (hd.heap_39 w.params).In h₀) (T₀ : Top hd.view_39 (looseW hd.view_39 [Str.ofString "b2a_base64", Str.ofString "_NO_SEP", Str.ofString "b2a_hex", Str.ofString "hexlify", Str.ofString "b64encode"]) mean mg mb h₀) {b : Array UInt8} {tk : Tok} (h0 : A.handled = none) (hD : A.depth ≤ 700) (hU : A.units ≤ 2000)
    (h : ∀ h' tk', Fr h₀ L h' m → News h₀ L h' news → Q (.bytes b tk) { s with heap := h', toks := tk' }) : wpAny (model PySem.Challenge.rw_mq0109_01.row.prog w) A (call (.ref 35) [.bytes b tk]) Q E s := by
  refine weaken 700 2000 h0 hD hU ?_
  w_top off
  revert X₀; k_fill; intro X₀
  have X := X₀.keeps F₀.keep
  have T := T₀.keeps F₀.keep
  refine' enterP (binds := [("data", .bytes b tk)]) X T.nolimit (by decide) (by k_is) (by k_is) (BindsTo.of_eq rfl) (locs rfl) ?_
  intro L' h₁ F N
  (try dsimp only)
  k_steps
  exact h _ _ (frOn F₀ (Fr.keep (by assumption))) (newsOn N₀ (Fr.keep (by assumption)))

theorem truth_spec {w : World} {mean : ExcName → Option Value} {mg mb : Str → Option Value} {A : Around} {Q E : Value → Shared → Prop} {s : Shared} {h₀ : Heap} {L : Addr} {m : Str → Option Value} {news : List (Addr × Obj)} (F₀ : Fr h₀ L s.heap m) (N₀ : News h₀ L s.heap news) (X₀ : (hd.heap_39 w.params).In h₀) (T₀ : Top hd.view_39 (looseW hd.view_39 [Str.ofString "b2a_base64", Str.ofString "_NO_SEP", Str.ofString "b2a_hex", Str.ofString "hexlify", Str.ofString "b64encode"]) mean mg mb h₀) {b : Bool} (h0 : A.handled = none) (hD : A.depth ≤ 700) (hU : A.units ≤ 2000)
    (h : ∀ h' tk', Fr h₀ L h' m → News h₀ L h' news → Q (.bool b) { s with heap := h', toks := tk' }) : wpAny (model PySem.Challenge.rw_mq0109_01.row.prog w) A (call (.ref 42) [.bool b]) Q E s := by
  refine weaken 700 2000 h0 hD hU ?_
  w_top off
  revert X₀; k_fill; intro X₀
  have X := X₀.keeps F₀.keep
  have T := T₀.keeps F₀.keep
  refine' enterP (binds := [("x", .bool b)]) X T.nolimit (by decide) (by k_is) (by k_is) (BindsTo.of_eq rfl) (locs rfl) ?_
  intro L' h₁ F N
  (try dsimp only)
  k_steps
  all_goals (subst_vars; exact h _ _ (frOn F₀ (Fr.keep (by assumption))) (newsOn N₀ (Fr.keep (by assumption))))
end Mine

namespace Mine
open Builtin
theorem loop_run {β : Type} (f : Nat → β → Sem (ForInStep β)) (g : Nat → β) : ∀ (n k : Nat), (∀ i, k ≤ i → i < k + n → f i (g i) = pure (.yield (g (i + 1)))) → forIn (List.range' k n) (g k) f = pure (g (k + n))
  | 0, k, _ => by simp
  | n + 1, k, h => by
    rw [List.range'_succ, List.forIn_cons, h k (Nat.le_refl _) (by omega)]
    have ih := loop_run f g n (k + 1) fun i h1 h2 => h i (by omega) (by omega)
    rw [show k + (n + 1) = k + 1 + n by omega, ← ih]
    rfl
/-- what the codec's loop gives for octets below 128 -/
theorem run_ascii (id : String) (l : List UInt8) (hb : ∀ c ∈ l, c.toNat < 128) (hs : l.length ≤ sizeLine) :
    _codecs.runDecoder id _codecs.asciiDecoder none true l.toArray 0 [] = pure ((l.map UInt8.toNat).toArray, l.length) := by
  unfold _codecs.runDecoder
  simp only [Std.Legacy.Range.forIn_eq_forIn_range', Std.Legacy.Range.size, Nat.sub_zero, Nat.add_one_sub_one, Nat.div_one, List.size_toArray]
  have key := fun f h => loop_run (β := Nat × Array Nat × _codecs.Faults) f (fun i => (i, ((l.take i).map UInt8.toNat).toArray, {})) l.length 0 h
  simp only [List.take_zero, Nat.zero_add, List.take_length] at key
  refine (congrArg (fun t => t >>= fun __s => pure (__s.2.1, __s.1)) (key _ (fun i _ hi => ?_))).trans rfl
  have hlen : ¬ ((List.map UInt8.toNat (List.take i l)).toArray.size > sizeLine) := by simp; omega
  have hge : ¬ (i ≥ l.length) := by omega
  dsimp only
  rw [if_neg hlen, if_neg hge]
  have hf : _codecs.asciiDecoder.find true l.toArray i = _codecs.Found.text [(l[i]).toNat] (i + 1) := by
    show (if ((l.toArray.getD i 0).toNat) < 128 then _ else _) = _
    have : l.toArray.getD i 0 = l[i] := by simp [Array.getD, hi]
    rw [this, if_pos (hb _ (List.getElem_mem hi))]
    rfl
  rw [hf]
  dsimp only
  congr 3
  rw [List.take_succ_eq_append_getElem hi, List.map_append]; simp

theorem foldl_push (r : List Nat) : ∀ acc : Array UInt8, List.foldl (fun acc y => acc ++ [Nat.toUInt8 y].toArray) acc r = acc ++ (r.map Nat.toUInt8).toArray := by
  induction r with
  | nil => intro acc; simp
  | cons a r ih => intro acc; rw [List.foldl_cons, ih]; simp
theorem loop_two {β : Type} (f : Nat → β → Sem (ForInStep β)) (b0 b1 : β) (k n : Nat) (h0 : ∀ i, f i b0 = pure (.yield b1)) (h1 : ∀ i, f i b1 = pure (.done b1)) : forIn (List.range' k (n + 1)) b0 f = pure b1 := by
  rw [List.range'_succ, List.forIn_cons, h0]
  cases n with
  | zero => rfl
  | succ n =>
    rw [List.range'_succ]
    show forIn (_ :: _) b1 f = _
    rw [List.forIn_cons, h1]
    rfl
theorem enc_ascii (id : String) (self : Value) (l : List Nat) (hb : ∀ c ∈ l, c < 128) (hs : l.length ≤ sizeLine) :
    _codecs.encodeNarrow id _codecs.asciiCodec none self ⟨l.toArray⟩ = pure ((l.map Nat.toUInt8).toArray) := by
  cases l with
  | nil => unfold _codecs.encodeNarrow; simp only [Std.Legacy.Range.forIn_eq_forIn_range', Std.Legacy.Range.size, Str.length]; rfl
  | cons a r =>
    unfold _codecs.encodeNarrow
    simp only [Std.Legacy.Range.forIn_eq_forIn_range', Std.Legacy.Range.size, Nat.sub_zero, Nat.add_one_sub_one, Nat.div_one, List.size_toArray, Str.length, List.length_cons]
    have h0 : ¬ ((#[] : Array UInt8).size > sizeLine) := by decide
    have h1 : ((a :: r).toArray)[0]? = some a := by simp
    have h2 : (!_codecs.asciiCodec.bad a) = true := by
      have := hb a (.head _)
      simp [_codecs.asciiCodec]; omega
    have hex : (a :: r).toArray.extract 0 (r.length + 1) = (a :: r).toArray := by simp
    have hno : Array.findIdx? _codecs.asciiCodec.bad (a :: r).toArray = none := by
      rw [List.findIdx?_toArray, List.findIdx?_eq_none_iff]
      intro c hc
      have := hb c hc
      simp [_codecs.asciiCodec]; omega
    have hf : Array.foldl (fun acc y => acc ++ (_codecs.asciiCodec.bytesOf y).toArray) #[] (a :: r).toArray = ((a :: r).map Nat.toUInt8).toArray := by
      rw [List.foldl_toArray]
      have := foldl_push (a :: r) #[]
      rw [Array.empty_append] at this
      exact this
    rw [loop_two (b1 := (r.length + 1, ((a :: r).map Nat.toUInt8).toArray, {}))]
    · rfl
    · intro i
      dsimp only
      rw [if_neg h0, h1]
      dsimp only
      rw [if_pos h2]
      simp only [hex, hno, Option.getD_none, List.size_toArray, List.length_cons, Nat.zero_add]
      exact congrArg (fun z => (pure (ForInStep.yield (r.length + 1, z, ({} : _codecs.Faults))) : Sem (ForInStep (Nat × Array UInt8 × _codecs.Faults)))) hf
    · intro i
      dsimp only
      have h3 : ¬ ((List.map Nat.toUInt8 (a :: r)).toArray.size > sizeLine) := by simp at hs ⊢; omega
      have h4 : ((a :: r).toArray)[r.length + 1]? = none := by simp
      rw [if_neg h3, h4]
end Mine

namespace Mine
open Builtin
def hexs (l : List UInt8) : List Nat := l.flatMap fun c => [Bytes.hexDigit (c.toNat / 16), Bytes.hexDigit (c.toNat % 16)]
theorem hexs_length (l : List UInt8) : (hexs l).length = 2 * l.length := by
  induction l with
  | nil => rfl
  | cons a r ih => simp only [hexs, List.flatMap_cons, List.length_append] at ih ⊢; rw [ih]; simp; omega
theorem hex_fold (l : List UInt8) : ∀ (k : Nat) (acc : Array Nat), (l.zipIdx k).foldl (fun (out : Array Nat) (x : UInt8 × Nat) => (out.push (Bytes.hexDigit (x.1.toNat / 16))).push (Bytes.hexDigit (x.1.toNat % 16))) acc = acc ++ (hexs l).toArray := by
  induction l with
  | nil => intro k acc; simp [hexs]
  | cons a r ih => intro k acc; rw [List.zipIdx_cons, List.foldl_cons, ih]; simp [hexs]
section
variable {prog : Program} {w : World} {A : Around} {E : Value → Shared → Prop} {s : Shared} {l : List UInt8} {t t1 : Tok} {Q : Value → Shared → Prop}
theorem hex_eq : «bytes.hex» ⟨[.bytes l.toArray t], []⟩ = (mkStr ⟨(l.zipIdx.foldl (fun (out : Array Nat) (x : UInt8 × Nat) => (out.push (Bytes.hexDigit (x.1.toNat / 16))).push (Bytes.hexDigit (x.1.toNat % 16))) #[])⟩ >>= fun v => ret v) := by kernel_rfl
theorem meets_hex (hs : 2 * l.length ≤ sizeLine) : Meets («bytes.hex» ⟨[.bytes l.toArray t], []⟩) (fun _ R s => ∀ t' k, R (.ok (.ret (.str ⟨(hexs l).toArray⟩ t'))) { s with toks := k }) := by
  refine .of_wp fun prog w A R s h => ?_
  rw [hex_eq, hex_fold, Array.empty_append]
  refine wpAny_bind (wpAny_mkStr (wpAny_pure ⟨_, rfl, h _ _⟩) ?_)
  show (hexs l).toArray.size ≤ _
  rw [List.size_toArray, hexs_length]; exact hs
theorem call_hex (hs : 2 * l.length ≤ sizeLine) (h : ∀ t' k, Q (.str ⟨(hexs l).toArray⟩ t') { s with toks := k }) : wpAny (model prog w) A (call (.builtin "bytes.hex") [.bytes l.toArray t]) Q E s :=
  call_meets FB.slot_bytes_hex (typeIs_bytes _ _ _) FB.entry_bytes_hex (FB.args_bytes_hex_1 _) (meets_hex hs) h
theorem method_hex {M : Model} {pl : Sem Bool} {b : Array UInt8} {Q : Value × List Value → Shared → Prop} (h : Q (.builtin "bytes.hex", [.bytes b t]) s) : wpAny M A (getMethod (.bytes b t) "hex" pl) Q E s := by
  with_reducible exact KBd.method_of (.bytes b t) (typeIs_bytes _ _ _) FB.slot_bytes_hex FB.type_bytes_hex KBd.noRef h


theorem enc_eq {x : Str} : «str.encode» ⟨[.str x t, .str (Str.ofString "ascii") t1], []⟩ = ((_codecs.encodeNarrow "str.encode" _codecs.asciiCodec none (.str x t) x >>= fun b => mkBytes b) >>= fun v => ret v) := by kernel_rfl
theorem meets_enc {l : List Nat} (hb : ∀ c ∈ l, c < 128) (hs : l.length ≤ sizeLine) : Meets («str.encode» ⟨[.str ⟨l.toArray⟩ t, .str (Str.ofString "ascii") t1], []⟩) (fun _ R s => ∀ t' k, R (.ok (.ret (.bytes (l.map Nat.toUInt8).toArray t'))) { s with toks := k }) := by
  refine .of_wp fun prog w A R s h => ?_
  rw [enc_eq, enc_ascii _ _ _ hb hs]
  refine wpAny_bind (wpAny_bind (wpAny_pure ?_))
  have hz : ¬ ((l.map Nat.toUInt8).toArray.size > sizeLine) := by simp; omega
  exact wpAny_mkBytes (wpAny_pure ⟨_, rfl, h _ _⟩) (Nat.not_lt.mp hz)
theorem call_enc {l : List Nat} (hb : ∀ c ∈ l, c < 128) (hs : l.length ≤ sizeLine) (h : ∀ t' k, Q (.bytes (l.map Nat.toUInt8).toArray t') { s with toks := k }) :
    wpAny (model prog w) A (call (.builtin "str.encode") [.str ⟨l.toArray⟩ t, .str (Str.ofString "ascii") t1]) Q E s :=
  call_meets F.slot_str_encode rfl F.entry_str_encode (F.args_str_encode_2 _ _) (meets_enc hb hs) h

theorem method_enc {M : Model} {pl : Sem Bool} {x : Str} {Q : Value × List Value → Shared → Prop} (h : Q (.builtin "str.encode", [.str x t]) s) : wpAny M A (getMethod (.str x t) "encode" pl) Q E s := by
  with_reducible exact getMethod_builtin (typeIs_str _ _ _) F.plainAttrs_str F.slot_str_encode F.type_str_encode (fun _ e => nomatch e) h

theorem slot_upper : Slot "bytes" "upper" "bytes.upper" :=
  .of (owner := "bytes") (n := "upper") (by rw [typeLookup_type, builtinLookup_eq_fast]; kernel_rfl) (by decide +kernel) (by decide +kernel) (by decide +kernel)
    (by first | exact .inl (by decide +kernel) | exact .inr (by decide +kernel)) (by rw [isSubtype_type]; kernel_rfl)
theorem type_upper : typeOf (.builtin "bytes.upper") = pure (.type "method_descriptor") := by show builtinType _ = _; rw [builtinType_eq_fast]; kernel_rfl
theorem entry_upper : entryFor table "bytes.upper" = some Builtin.«bytes.upper» := entryFor_of_tree (by kernel_rfl)
theorem args_upper (a : Value) : argsOk "bytes.upper" ⟨[a], []⟩ := by unfold argsOk; kernel_rfl
theorem upper_eq : «bytes.upper» ⟨[.bytes l.toArray t], []⟩ = (mkBytes (l.map Bytes.toUpper).toArray >>= fun v => ret v) := by kernel_rfl
theorem meets_upper (hs : l.length ≤ sizeLine) : Meets («bytes.upper» ⟨[.bytes l.toArray t], []⟩) (fun _ R s => ∀ t' k, R (.ok (.ret (.bytes (l.map Bytes.toUpper).toArray t'))) { s with toks := k }) := by
  refine .of_wp fun prog w A R s h => ?_
  rw [upper_eq]
  refine wpAny_bind ?_
  have hz : ¬ ((l.map Bytes.toUpper).toArray.size > sizeLine) := by simp; omega
  exact wpAny_mkBytes (wpAny_pure ⟨_, rfl, h _ _⟩) (Nat.not_lt.mp hz)
theorem call_upper (hs : l.length ≤ sizeLine) (h : ∀ t' k, Q (.bytes (l.map Bytes.toUpper).toArray t') { s with toks := k }) : wpAny (model prog w) A (call (.builtin "bytes.upper") [.bytes l.toArray t]) Q E s :=
  call_meets slot_upper (typeIs_bytes _ _ _) entry_upper (args_upper _) (meets_upper hs) h
theorem method_upper {M : Model} {pl : Sem Bool} {b : Array UInt8} {Q : Value × List Value → Shared → Prop} (h : Q (.builtin "bytes.upper", [.bytes b t]) s) : wpAny M A (getMethod (.bytes b t) "upper" pl) Q E s := by
  with_reducible exact KBd.method_of (.bytes b t) (typeIs_bytes _ _ _) slot_upper type_upper KBd.noRef h

theorem args_decode (a b : Value) : argsOk "bytes.decode" ⟨[a, b], []⟩ := by unfold argsOk; kernel_rfl
theorem road_ascii {id : String} {b : Array UInt8} : _codecs.decodeRoad id b (Str.ofString "ascii") none [] = (_codecs.runDecoder id _codecs.asciiDecoder none true b 0 [] >>= fun r => mkStr ⟨r.1⟩) := by kernel_rfl
theorem meets_dtext {t1 t2 : Tok} {d : Str} (hb : ∀ c ∈ l, c.toNat < 128) (hs : l.length ≤ sizeLine) :
    Meets («_codecs.decode.text» ⟨[.bytes l.toArray t, .str (Str.ofString "ascii") t1, .none, .str d t2], []⟩) (fun _ R s => R (.ok (.ret (.str ⟨(l.map UInt8.toNat).toArray⟩ s.toks))) { s with toks := s.toks + 1 }) := by
  refine .of_wp fun prog w A R s h => ?_
  show wpAny _ _ (Bytes.bytesLike _ (.bytes l.toArray t) >>= fun r => _) _ _ s
  refine wpAny_bind (wpAny_of_eq KBd.like_eq ?_)
  refine wpAny_bind (wpAny_of_eq KBd.held_eq ?_)
  show wpAny _ _ (_codecs.decodeRoad _ l.toArray (Str.ofString "ascii") none [] >>= fun v => _) _ _ s
  rw [road_ascii, run_ascii _ _ hb hs]
  refine wpAny_bind (wpAny_bind (wpAny_pure ?_))
  exact wpAny_mkStr (wpAny_pure ⟨_, rfl, h⟩) (by show (l.map UInt8.toNat).toArray.size ≤ _; simpa using hs)
theorem dec_eq {c : UInt8} {cs : List UInt8} : «bytes.decode» ⟨[.bytes (c :: cs).toArray t, .str (Str.ofString "ascii") t1], []⟩ = (mkStr (Str.ofString "utf-8") >>= fun _ => mkStr (Str.ofString "ascii") >>= fun e => mkStr (Str.ofString "bytes.decode") >>= fun d =>
    call (.builtin "_codecs.decode.text") [.bytes (c :: cs).toArray t, e, .none, d] >>= fun v => ret v) := by kernel_rfl
theorem meets_dec {c : UInt8} {cs : List UInt8} (hb : ∀ x ∈ c :: cs, x.toNat < 128) (hs : (c :: cs).length ≤ sizeLine) :
    Meets («bytes.decode» ⟨[.bytes (c :: cs).toArray t, .str (Str.ofString "ascii") t1], []⟩) (fun _ R s => ∀ t' k, R (.ok (.ret (.str ⟨((c :: cs).map UInt8.toNat).toArray⟩ t'))) { s with toks := k }) := by
  refine .of_wp fun prog w A R s h => ?_
  rw [dec_eq]
  refine wpAny_bind (wpAny_mkStr ?_ (by decide))
  refine wpAny_bind (wpAny_mkStr ?_ (by decide))
  refine wpAny_bind (wpAny_mkStr ?_ (by decide))
  exact wpAny_bind (call_function_meets KBd.kind_text KBd.plain_text KBd.entry_text (KBd.args_text _ _ _ _) (meets_dtext hb hs) (wpAny_pure ⟨_, rfl, h _ _⟩))
theorem call_dec (hne : l ≠ []) (hb : ∀ x ∈ l, x.toNat < 128) (hs : l.length ≤ sizeLine) (h : ∀ t' k, Q (.str ⟨(l.map UInt8.toNat).toArray⟩ t') { s with toks := k }) :
    wpAny (model prog w) A (call (.builtin "bytes.decode") [.bytes l.toArray t, .str (Str.ofString "ascii") t1]) Q E s := by
  cases l with
  | nil => exact absurd rfl hne
  | cons c cs => exact call_meets FB.slot_bytes_decode (typeIs_bytes _ _ _) FB.entry_bytes_decode (args_decode _ _) (meets_dec hb hs) h
end
end Mine

namespace Mine
theorem hexs_small (l : List UInt8) : ∀ c ∈ hexs l, c < 128 := by
  intro c hc
  obtain ⟨x, _, hx⟩ := List.mem_flatMap.mp hc
  have h1 : x.toNat < 256 := x.toNat_lt
  simp only [List.mem_cons, List.not_mem_nil, or_false] at hx
  rcases hx with rfl | rfl <;> (unfold Builtin.Bytes.hexDigit; split <;> omega)
local macro_rules | `(tactic| walk_at "call ref") => `(tactic| (k_dflt (refine' buffer_spec ?k1 ?k2 ?k3 ?k4 rfl (Nat.le_of_ble_eq_true rfl) (Nat.le_of_ble_eq_true rfl) ?_; (case k1 => k_asm); (case k2 => k_asm); (case k3 => k_asm); (case k4 => k_asm)); intro h' tk' F' N'; (try k_sweep); (try dsimp only)))
local macro_rules | `(tactic| walk_at "getMethod bytes") => `(tactic| first | with_reducible refine method_hex ?_ | with_reducible refine method_upper ?_)
local macro_rules | `(tactic| walk_at "getMethod str") => `(tactic| with_reducible refine method_enc ?_)
local macro_rules | `(tactic| walk_at "call builtin:bytes.hex") => `(tactic| (refine call_hex (by assumption) ?_; intro t' k'; (try dsimp only)))
local macro_rules | `(tactic| walk_at "call builtin:str.encode") => `(tactic| (refine call_enc (hexs_small _) (by rw [hexs_length]; assumption) ?_; intro t' k'; (try dsimp only)))

theorem hex_spec {w : World} {mean : ExcName → Option Value} {mg mb : Str → Option Value} {A : Around} {Q E : Value → Shared → Prop} {s : Shared} {h₀ : Heap} {L : Addr} {m : Str → Option Value} {news : List (Addr × Obj)} (F₀ : Fr h₀ L s.heap m) (N₀ : News h₀ L s.heap news) (X₀ : (hd.heap_39 w.params).In h₀) (T₀ : Top hd.view_39 (looseW hd.view_39 [Str.ofString "b2a_base64", Str.ofString "_NO_SEP", Str.ofString "b2a_hex", Str.ofString "hexlify", Str.ofString "b64encode"]) mean mg mb h₀) {l : List UInt8} {tk : Tok} (h0 : A.handled = none) (hD : A.depth ≤ 600) (hU : A.units ≤ 1500) (hl : 2 * l.length ≤ sizeLine)
    (h : ∀ t, ∀ h' tk', Fr h₀ L h' m → News h₀ L h' news → Q (.bytes ((hexs l).map Nat.toUInt8).toArray t) { s with heap := h', toks := tk' }) : wpAny (model PySem.Challenge.rw_mq0109_01.row.prog w) A (call (.ref 59) [.bytes l.toArray tk]) Q E s := by
  refine weaken 600 1500 h0 hD hU ?_
  w_top off
  revert X₀; k_fill; intro X₀
  have X := X₀.keeps F₀.keep
  have T := T₀.keeps F₀.keep
  refine' enterP (binds := [("data", .bytes l.toArray tk), ("sep", .ref 51), ("bytes_per_sep", .int 1 _)]) X T.nolimit (by decide) (by k_is) (by k_is) (binds_K X rfl (by k_is) rfl rfl rfl) (locs rfl) ?_
  intro L' h₁ F N
  (try dsimp only)
  k_steps
  exact h _ _ _ (frOn F₀ (Fr.keep (by assumption))) (newsOn N₀ (Fr.keep (by assumption)))

local macro_rules | `(tactic| walk_at "call ref") => `(tactic| (k_dflt (refine' hex_spec ?k1 ?k2 ?k3 ?k4 rfl (Nat.le_of_ble_eq_true rfl) (Nat.le_of_ble_eq_true rfl) ?k5 ?_; (case k1 => k_asm); (case k2 => k_asm); (case k3 => k_asm); (case k4 => k_asm); (case k5 => assumption)); intro t' h' tk' F' N'; (try k_sweep); (try dsimp only)))
local macro_rules | `(tactic| walk_at "call builtin:bytes.upper") => `(tactic| (refine call_upper (by rw [List.length_map, hexs_length]; assumption) ?_; intro t' k'; (try dsimp only)))

def b16 (l : List UInt8) : List UInt8 := ((hexs l).map Nat.toUInt8).map Builtin.Bytes.toUpper
theorem b16_spec {w : World} {mean : ExcName → Option Value} {mg mb : Str → Option Value} {A : Around} {Q E : Value → Shared → Prop} {s : Shared} {h₀ : Heap} {L : Addr} {m : Str → Option Value} {news : List (Addr × Obj)} (F₀ : Fr h₀ L s.heap m) (N₀ : News h₀ L s.heap news) (X₀ : (hd.heap_39 w.params).In h₀) (T₀ : Top hd.view_39 (looseW hd.view_39 [Str.ofString "b2a_base64", Str.ofString "_NO_SEP", Str.ofString "b2a_hex", Str.ofString "hexlify", Str.ofString "b64encode"]) mean mg mb h₀) {l : List UInt8} {tk : Tok} (h0 : A.handled = none) (hD : A.depth ≤ 500) (hU : A.units ≤ 1000) (hl : 2 * l.length ≤ sizeLine)
    (h : ∀ t, ∀ h' tk', Fr h₀ L h' m → News h₀ L h' news → Q (.bytes (b16 l).toArray t) { s with heap := h', toks := tk' }) : wpAny (model PySem.Challenge.rw_mq0109_01.row.prog w) A (call (.ref 74) [.bytes l.toArray tk]) Q E s := by
  refine weaken 500 1000 h0 hD hU ?_
  w_top off
  revert X₀; k_fill; intro X₀
  have X := X₀.keeps F₀.keep
  have T := T₀.keeps F₀.keep
  refine' enterP (binds := [("s", .bytes l.toArray tk)]) X T.nolimit (by decide) (by k_is) (by k_is) (BindsTo.of_eq rfl) (locs rfl) ?_
  intro L' h₁ F N
  (try dsimp only)
  k_steps
  exact h _ _ _ (frOn F₀ (Fr.keep (by assumption))) (newsOn N₀ (Fr.keep (by assumption)))
end Mine

namespace Mine
theorem or_add {x y : Int} (hx : 0 ≤ x) (hy : 0 ≤ y) (hy2 : y < 256) : Builtin.bitOr (x * 256) y = x * 256 + y := by
  have e : Builtin.bitOr (x * 256) y = (((x * 256).toNat ||| y.toNat : Nat) : Int) := by
    unfold Builtin.bitOr Builtin.bitAnd
    have h1 : decide (0 ≤ Builtin.bitNot (x * 256)) = false := decide_eq_false (by unfold Builtin.bitNot; omega)
    have h2 : decide (0 ≤ Builtin.bitNot y) = false := decide_eq_false (by unfold Builtin.bitNot; omega)
    have hb : ∀ z, Builtin.bitNot (Builtin.bitNot z) = z := fun z => by unfold Builtin.bitNot; omega
    rw [h1, h2]
    dsimp only
    rw [hb, hb, hb]
  rw [e]
  have h1 : (x * 256).toNat = 2 ^ 8 * x.toNat := by omega
  rw [h1, ← Nat.two_pow_add_eq_or_of_lt (by omega)]
  omega
section
variable {prog : Program} {w : World} {A : Around} {E : Value → Shared → Prop} {s : Shared} {a b n : Int} {t u : Tok} {Q : Value → Shared → Prop}
theorem op_shl8 (h0 : 0 ≤ a) (h1 : a < 65536) (h : Q (.int (a * 256) s.toks) { s with toks := s.toks + 1 }) : wpAny (model prog w) A (binaryOp .LShift (.int a t) (.int 8 u)) Q E s :=
  lshift_int_small (by decide) (by decide) (by omega) h
theorem op_or8 (h0 : 0 ≤ a) (h1 : 0 ≤ b) (h2 : b < 256) (h : Q (.int (a * 256 + b) s.toks) { s with toks := s.toks + 1 }) : wpAny (model prog w) A (binaryOp .BitOr (.int (a * 256) t) (.int b u)) Q E s :=
  or_int (by rw [or_add h0 h1 h2]; exact h)
theorem op_and16 (h : Q (.int (a % 65536) s.toks) { s with toks := s.toks + 1 }) : wpAny (model prog w) A (binaryOp .BitAnd (.int a t) (.int 65535 u)) Q E s :=
  and_int (by rw [bitAnd_m16]; exact h)
theorem op_and6 (h : Q (.int (a % 64) s.toks) { s with toks := s.toks + 1 }) : wpAny (model prog w) A (binaryOp .BitAnd (.int a t) (.int 63 u)) Q E s :=
  and_int (by rw [bitAnd_m6]; exact h)
theorem op_shr (k : Nat) (hk : n = k) (h : Q (.int (a / 2 ^ k) s.toks) { s with toks := s.toks + 1 }) : wpAny (model prog w) A (binaryOp .RShift (.int a t) (.int n u)) Q E s := by
  subst hk
  refine rshift_int (Int.natCast_nonneg _) ?_
  rw [Int.toNat_natCast, Int.fdiv_eq_ediv_of_nonneg _ (by exact Int.le_of_lt (Int.pow_pos (by decide)))]
  exact h
end

def b64L : List UInt8 := [65, 66, 67, 68, 69, 70, 71, 72, 73, 74, 75, 76, 77, 78, 79, 80, 81, 82, 83, 84, 85, 86, 87, 88, 89, 90, 97, 98, 99, 100, 101, 102, 103, 104, 105, 106, 107, 108, 109, 110, 111, 112, 113, 114, 115, 116, 117, 118, 119, 120, 121, 122, 48, 49, 50, 51, 52, 53, 54, 55, 56, 57, 43, 47]
def b64c (i : Int) : Int := ((b64L.getD i.toNat 0).toNat : Int)
def b64step (c : List Int × Int × Int) (b : Int) : List Int × Int × Int :=
  let k := (c.2.2 * 256 + b) % 65536
  if c.2.1 = 0 then (c.1 ++ [b64c (k / 4 % 64)], 2, k)
  else if c.2.1 = 2 then (c.1 ++ [b64c (k / 16 % 64)], 4, k)
  else (c.1 ++ [b64c (k / 64 % 64)] ++ [b64c (k / 1 % 64)], 0, k)
def b64st (pre : List Int) : List Int × Int × Int := pre.foldl b64step ([], 0, 0)
theorem b64st_snoc (pre : List Int) (n : Int) : b64st (pre ++ [n]) = b64step (b64st pre) n := by simp [b64st]
/-- an end that no line of the walk looks into -/
def Halt (P : Prop) : Prop := P
theorem inv_next {M : Model} {A : Around} {t : Sem Flow} {E : Value → Shared → Prop} {s s₁ : Shared} {h₀ : Heap} {L : Addr} {J : (Str → Option Value) → List (Addr × Obj) → Prop} {own : List (Addr × Obj)} {adr : List Addr} {Q : Flow → Shared → Prop}
    (h : wpAny M A t (fun fl s' => Halt (fl = .next ∧ InvEndN h₀ L J own adr s₁ s')) E s) : wpAny M A t (InvPostN h₀ L J own adr s₁ Q) E s :=
  wpAny_mono h (fun fl s' z => by obtain ⟨rfl, z⟩ := z; exact z) fun _ _ z => z
theorem b64_item {prog : Program} {w : World} {A : Around} {E : Value → Shared → Prop} {s : Shared} {i : Int} {t u : Tok} {value slice : Expr} {Q : Value → Shared → Prop} (h0 : 0 ≤ i) (h1 : i < 64) (h : Q (.int (b64c i) s.toks) { s with toks := s.toks + 1 })
    (hs : subscripted slice false (.bytes b64L.toArray t) (.int i u) = operate [.bytes b64L.toArray t, .int i u] (getItem (.bytes b64L.toArray t) (.int i u)) := by with_unfolding_all rfl) :
    wpAny (model prog w) A (subscriptTail value slice (.bytes b64L.toArray t) (.int i u)) Q E s :=
  tail_any (typeIs_bytes s _ t) FB.slot_bytes_getitem.lookup (getItem_bytes (l := b64L) (by decide) h0 h1 h) hs
theorem kst_end {σ : Type} {h₀ h' : Heap} {L : Addr} {m' m₀ : Str → Option Value} {news' own : List (Addr × Obj)} {adr : List Addr} {s₁ : Shared} {tk : Nat} {Led : σ → List (Addr × Obj)} {ps : σ → List (Str × Value)} {Facts : σ → Prop} {x : Str} {stored : List Str} {P : List Int → σ → Prop} {pre : List Int}
    (c : σ) (F : Fr h₀ L h' m') (N : News h₀ L h' news') (hnx : ∀ p ∈ Led c, p ∈ news') (hown : ∀ p ∈ own, p ∈ news') (hadr : (Led c).map (·.1) = adr) (hf : Facts c) (hps : ∀ p ∈ ps c, m' p.1 = some p.2)
    (hrest : ∀ z, z ≠ x → (∀ p ∈ ps c, z ≠ p.1) → stored.contains z = false → m' z = m₀ z) (hP : P pre c) :
    Halt (Flow.next = .next ∧ InvEndN h₀ L (KstS Led ps Facts x stored m₀ P pre) own adr s₁ { s₁ with heap := h', toks := tk }) :=
  ⟨rfl, h', tk, m', news', Led c, rfl, F, N, hnx, hown, hadr, c, rfl, hf, hps, hrest, hP⟩
theorem snoc_ind {α : Type} {P : List α → Prop} (h0 : P []) (h1 : ∀ l a, P l → P (l ++ [a])) (l : List α) : P l := by
  have : ∀ r : List α, P r.reverse := fun r => by
    induction r with
    | nil => exact h0
    | cons a r ih => rw [List.reverse_cons]; exact h1 _ _ ih
  have := this l.reverse
  rwa [List.reverse_reverse] at this
theorem b64st_facts (pre : List Int) : ((b64st pre).2.1 = 0 ∨ (b64st pre).2.1 = 2 ∨ (b64st pre).2.1 = 4) ∧ 0 ≤ (b64st pre).2.2 ∧ (b64st pre).2.2 < 65536 ∧ (b64st pre).1.length ≤ 2 * pre.length := by
  induction pre using snoc_ind with
  | h0 => simp [b64st]
  | h1 pre n ih =>
    rw [b64st_snoc]
    obtain ⟨h1, h2, h3, h4⟩ := ih
    unfold b64step
    have e1 : 0 ≤ ((b64st pre).2.2 * 256 + n) % 65536 := Int.emod_nonneg _ (by decide)
    have e2 : ((b64st pre).2.2 * 256 + n) % 65536 < 65536 := Int.emod_lt_of_pos _ (by decide)
    dsimp only
    split
    · refine ⟨.inr (.inl rfl), e1, e2, ?_⟩; simp; omega
    · split
      · refine ⟨.inr (.inr rfl), e1, e2, ?_⟩; simp; omega
      · refine ⟨.inl rfl, e1, e2, ?_⟩; simp; omega

theorem b64c_byte (i : Int) : 0 ≤ b64c i ∧ b64c i < 256 := by
  unfold b64c
  have := (b64L.getD i.toNat 0).toNat_lt
  omega
theorem b64st_bytes (pre : List Int) : ∀ n ∈ (b64st pre).1, 0 ≤ n ∧ n < 256 := by
  induction pre using snoc_ind with
  | h0 => simp [b64st]
  | h1 pre n ih =>
    rw [b64st_snoc]
    unfold b64step
    dsimp only
    split
    · intro k hk; rcases List.mem_append.mp hk with hk | hk
      · exact ih k hk
      · rw [List.mem_singleton.mp hk]; exact b64c_byte _
    · split
      · intro k hk; rcases List.mem_append.mp hk with hk | hk
        · exact ih k hk
        · rw [List.mem_singleton.mp hk]; exact b64c_byte _
      · intro k hk; rcases List.mem_append.mp hk with hk | hk
        · rcases List.mem_append.mp hk with hk | hk
          · exact ih k hk
          · rw [List.mem_singleton.mp hk]; exact b64c_byte _
        · rw [List.mem_singleton.mp hk]; exact b64c_byte _
local macro_rules | `(tactic| walk_at "call ref") => `(tactic| (k_dflt (refine' buffer_spec ?k1 ?k2 ?k3 ?k4 rfl (Nat.le_of_ble_eq_true rfl) (Nat.le_of_ble_eq_true rfl)  ?_; (case k1 => k_asm); (case k2 => k_asm); (case k3 => k_asm); (case k4 => k_asm)); intro h' tk' F' N'; (try k_sweep); (try dsimp only)))
local macro_rules | `(tactic| walk_at "binaryOp LShift int int") => `(tactic| with_reducible refine op_shl8 (by assumption) (by assumption) ?_)
local macro_rules | `(tactic| walk_at "binaryOp BitOr int int") => `(tactic| with_reducible refine op_or8 (by assumption) (by assumption) (by assumption) ?_)
local macro_rules | `(tactic| walk_at "binaryOp BitAnd int int") => `(tactic| first | with_reducible refine op_and16 ?_ | with_reducible refine op_and6 ?_)
local macro_rules | `(tactic| walk_at "binaryOp RShift int int") => `(tactic| first | refine op_shr 2 (by decide) ?_ | refine op_shr 4 (by decide) ?_ | refine op_shr 6 (by decide) ?_ | refine op_shr 0 (by decide) ?_)

local macro_rules | `(tactic| walk_at "call ref") => `(tactic| (k_dflt (refine' truth_spec ?k1 ?k2 ?k3 ?k4 rfl (Nat.le_of_ble_eq_true rfl) (Nat.le_of_ble_eq_true rfl)  ?_; (case k1 => k_asm); (case k2 => k_asm); (case k3 => k_asm); (case k4 => k_asm)); intro h' tk' F' N'; (try k_sweep); (try dsimp only)))
local macro_rules | `(tactic| walk_at "call builtin:list.append") => `(tactic| ((with_reducible show wpAny _ _ (call (Value.builtin _) [Value.ref _, _]) _ _ _); k_dflt (refine' append_K ?k1 ?k2 ?k3 ?_ ?z; (case k1 => k_asm); (case k2 => k_asm); (case k3 => k_upd); (case z => (simp only [Array.size_push, List.size_toArray]; omega))); intro h' F' N'; (try k_sweep)))
local macro_rules | `(tactic| walk_at "subscriptTail") => `(tactic| ((with_reducible show wpAny _ _ (subscriptTail _ _ (Value.bytes _ _) (Value.int _ _)) _ _ _); k_dflt (refine' b64_item ?k1 ?k2 ?_; (case k1 => exact Int.emod_nonneg _ (by decide)); (case k2 => exact Int.emod_lt_of_pos _ (by decide)))))
theorem b2a_spec {w : World} {mean : ExcName → Option Value} {mg mb : Str → Option Value} {A : Around} {Q E : Value → Shared → Prop} {s : Shared} {h₀ : Heap} {L : Addr} {m : Str → Option Value} {news : List (Addr × Obj)} (F₀ : Fr h₀ L s.heap m) (N₀ : News h₀ L s.heap news) (X₀ : (hd.heap_39 w.params).In h₀) (T₀ : Top hd.view_39 (looseW hd.view_39 [Str.ofString "b2a_base64", Str.ofString "_NO_SEP", Str.ofString "b2a_hex", Str.ofString "hexlify", Str.ofString "b64encode"]) mean mg mb h₀) {l : List UInt8} {tk : Tok} (h0 : A.handled = none) (hD : A.depth ≤ 600) (hU : A.units ≤ 1500) (hl : 2 * l.length ≤ sizeLine) {out : List Int} {lcz : Int} (hst : b64st (KBw.bInts l.toArray) = (out, 0, lcz))
    (h : ∀ t, ∀ h' tk', Fr h₀ L h' m → News h₀ L h' news → Q (.bytes (out.map fun n => n.toNat.toUInt8).toArray t) { s with heap := h', toks := tk' }) : wpAny (model PySem.Challenge.rw_mq0109_01.row.prog w) A (call (.ref 50) [.bytes l.toArray tk] [(Str.ofString "newline", .bool false)]) Q E s := by
  refine weaken 600 1500 h0 hD hU ?_
  w_top off
  revert X₀; k_fill; intro X₀
  have X := X₀.keeps F₀.keep
  have T := T₀.keeps F₀.keep
  refine' enterP (binds := [("data", .bytes l.toArray tk), ("newline", .bool false)]) X T.nolimit (by decide) (by k_is) (by k_is) (BindsTo.of_eq rfl) (locs rfl) ?_
  intro L' h₁ F N
  (try dsimp only)
  k_steps
  rename_i oa h3 l1 h2 h1' hh FF NN
  refine KStb.kst_bytes (σ := List Value × Nat × Int × Tok × Int × Tok) (fun c => [(oa, W.listOf c.1.toArray c.2.1)]) (fun c => [("out", .ref oa), ("leftbits", .int c.2.2.1 c.2.2.2.1), ("leftchar", .int c.2.2.2.2.1 c.2.2.2.2.2)]) (fun _ => True) ["leftbits", "leftchar"]
    (fun pre c => IntsAre c.1 (b64st pre).1 ∧ c.2.2.1 = (b64st pre).2.1 ∧ c.2.2.2.2.1 = (b64st pre).2.2) ([], 0, 0, tk, 0, tk + 1 + 1) rfl rfl rfl FF NN trivial ?_ ⟨IntsAre.nil, rfl, rfl⟩ ?_ ?_
  · intro p hp
    simp only [List.mem_cons, List.not_mem_nil, or_false] at hp
    rcases hp with rfl | rfl | rfl <;> rfl
  · rintro ⟨vs, nv, lb, tb, lc, tc⟩ pre post n t u h9 tk9 own hks hpre hn0 hn1 hoff - ⟨hI, e1, e2⟩ F' N'
    dsimp only at e1 e2 hI
    obtain ⟨q1, q2, q3, q4⟩ := b64st_facts pre
    change Fr s.heap L' h9 _ at F'
    dsimp only [kstB] at F'
    change News s.heap L' h9 ((oa, W.listOf vs.toArray nv) :: own) at N'
    replace hoff : OwnOff own [oa] := hoff
    refine inv_next ?_
    have g1 : 0 ≤ lc := by omega
    have g2 : lc < 65536 := by omega
    have g3 : vs.length ≤ 2 * pre.length := by have := hI.length; omega
    have g4 : vs.length + 2 ≤ sizeLine := by rw [KBw.ints_length, List.size_toArray] at hpre; omega
    dsimp only
    rcases q1 with q | q | q
    · rw [q] at e1
      subst e1
      k_steps
      refine kst_end (c := (vs ++ [.int (b64c (((lc * 256 + n) % 65536) / 4 % 64)) ?a0], nv + 1, 2, ?a1, (lc * 256 + n) % 65536, ?a2)) (by assumption) (by assumption) ?g1 ?g2 rfl trivial ?g3 ?g4 ?g5
      case g1 => intro p hp; rw [List.mem_singleton.mp hp]; simp only [List.push_toArray]; exact .head _
      case g2 => intro p hp; exact .tail _ hp
      case g3 =>
        intro p hp
        simp only [List.mem_cons, List.not_mem_nil, or_false] at hp
        rcases hp with rfl | rfl | rfl <;> rfl
      case g4 =>
        intro z z1 z2 z3
        have a1 := z2 _ (.head _)
        have a2 := z2 _ (.tail _ (.head _))
        have a3 := z2 _ (.tail _ (.tail _ (.head _)))
        dsimp only at a1 a2 a3 z1
        simp only [if_neg z1, if_neg a1, if_neg a2, if_neg a3, z3]
        rfl
      case g5 =>
        rw [b64st_snoc]
        unfold b64step
        rw [q, ← e2]
        exact ⟨hI.append (IntsAre.cons _ _ IntsAre.nil), rfl, rfl⟩
    · rw [q] at e1
      subst e1
      k_steps
      refine kst_end (c := (vs ++ [.int (b64c (((lc * 256 + n) % 65536) / 16 % 64)) ?b0], nv + 1, 4, ?b1, (lc * 256 + n) % 65536, ?b2)) (by assumption) (by assumption) ?g1 ?g2 rfl trivial ?g3 ?g4 ?g5
      case g1 => intro p hp; rw [List.mem_singleton.mp hp]; simp only [List.push_toArray]; exact .head _
      case g2 => intro p hp; exact .tail _ hp
      case g3 =>
        intro p hp
        simp only [List.mem_cons, List.not_mem_nil, or_false] at hp
        rcases hp with rfl | rfl | rfl <;> rfl
      case g4 =>
        intro z z1 z2 z3
        have a1 := z2 _ (.head _)
        have a2 := z2 _ (.tail _ (.head _))
        have a3 := z2 _ (.tail _ (.tail _ (.head _)))
        dsimp only at a1 a2 a3 z1
        simp only [if_neg z1, if_neg a1, if_neg a2, if_neg a3, z3]
        rfl
      case g5 =>
        rw [b64st_snoc]
        unfold b64step
        rw [q, ← e2]
        exact ⟨hI.append (IntsAre.cons _ _ IntsAre.nil), rfl, rfl⟩
    · rw [q] at e1
      subst e1
      k_steps
      refine kst_end (c := (vs ++ [.int (b64c (((lc * 256 + n) % 65536) / 64 % 64)) ?c0] ++ [.int (b64c (((lc * 256 + n) % 65536) / 1 % 64)) ?c3], nv + 2, 0, ?c1, (lc * 256 + n) % 65536, ?c2)) (by assumption) (by assumption) ?g1 ?g2 rfl trivial ?g3 ?g4 ?g5
      case g1 => intro p hp; rw [List.mem_singleton.mp hp]; simp only [List.push_toArray]; exact .head _
      case g2 => intro p hp; exact .tail _ hp
      case g3 =>
        intro p hp
        simp only [List.mem_cons, List.not_mem_nil, or_false] at hp
        rcases hp with rfl | rfl | rfl <;> rfl
      case g4 =>
        intro z z1 z2 z3
        have a1 := z2 _ (.head _)
        have a2 := z2 _ (.tail _ (.head _))
        have a3 := z2 _ (.tail _ (.tail _ (.head _)))
        dsimp only at a1 a2 a3 z1
        simp only [if_neg z1, if_neg a1, if_neg a2, if_neg a3, z3]
        rfl
      case g5 =>
        rw [b64st_snoc]
        unfold b64step
        rw [q, ← e2]
        exact ⟨(hI.append (IntsAre.cons _ _ IntsAre.nil)).append (IntsAre.cons _ _ IntsAre.nil), rfl, rfl⟩
  · rintro ⟨vs, nv, lb, tb, lc, tc⟩ u h9 tk9 - - ⟨hI, e1, e2⟩ F' N'
    change Fr s.heap L' h9 _ at F'
    dsimp only [kstB] at F'
    change News s.heap L' h9 [(oa, W.listOf vs.toArray nv)] at N'
    dsimp only at e1 e2 hI
    rw [hst] at hI e1 e2
    dsimp only at e1 e2 hI
    subst e1
    k_steps
    have hz := (b64st_facts (KBw.bInts l.toArray)).2.2.2
    rw [hst, KBw.ints_length, List.size_toArray] at hz
    refine bytes_K (by assumption) (by assumption) (News.isList (by assumption) (.head _)) hI ?_ ?_ rfl ?_
    · intro n hn
      exact b64st_bytes (KBw.bInts l.toArray) n (by rw [hst]; exact hn)
    · have := hI.length
      dsimp only at hz
      omega
    · intro h' t' k' F' N' _
      exact h _ _ _ (frOn F₀ (Fr.keep (by assumption))) (newsOn N₀ (Fr.keep (by assumption)))
end Mine

namespace Mine
local macro_rules | `(tactic| walk_at "call ref") => `(tactic| (k_dflt (refine' b2a_spec ?k1 ?k2 ?k3 ?k4 rfl (Nat.le_of_ble_eq_true rfl) (Nat.le_of_ble_eq_true rfl) ?k5 ?k6 ?_; (case k1 => k_asm); (case k2 => k_asm); (case k3 => k_asm); (case k4 => k_asm); (case k5 => assumption); (case k6 => assumption)); intro t' h' tk' F' N'; (try k_sweep); (try dsimp only)))
theorem b64_spec {w : World} {mean : ExcName → Option Value} {mg mb : Str → Option Value} {A : Around} {Q E : Value → Shared → Prop} {s : Shared} {h₀ : Heap} {L : Addr} {m : Str → Option Value} {news : List (Addr × Obj)} (F₀ : Fr h₀ L s.heap m) (N₀ : News h₀ L s.heap news) (X₀ : (hd.heap_39 w.params).In h₀) (T₀ : Top hd.view_39 (looseW hd.view_39 [Str.ofString "b2a_base64", Str.ofString "_NO_SEP", Str.ofString "b2a_hex", Str.ofString "hexlify", Str.ofString "b64encode"]) mean mg mb h₀) {l : List UInt8} {tk : Tok} (h0 : A.handled = none) (hD : A.depth ≤ 500) (hU : A.units ≤ 1000) (hl : 2 * l.length ≤ sizeLine) {out : List Int} {lcz : Int} (hst : b64st (KBw.bInts l.toArray) = (out, 0, lcz))
    (h : ∀ t, ∀ h' tk', Fr h₀ L h' m → News h₀ L h' news → Q (.bytes (out.map fun n => n.toNat.toUInt8).toArray t) { s with heap := h', toks := tk' }) : wpAny (model PySem.Challenge.rw_mq0109_01.row.prog w) A (call (.ref 67) [.bytes l.toArray tk]) Q E s := by
  refine weaken 500 1000 h0 hD hU ?_
  w_top off
  revert X₀; k_fill; intro X₀
  have X := X₀.keeps F₀.keep
  have T := T₀.keeps F₀.keep
  refine' enterP (binds := [("s", .bytes l.toArray tk), ("altchars", .none)]) X T.nolimit (by decide) (by k_is) (by k_is) (binds_K X rfl (by k_is) rfl rfl rfl) (locs rfl) ?_
  intro L' h₁ F N
  (try dsimp only)
  k_steps
  exact h _ _ _ (frOn F₀ (Fr.keep (by assumption))) (newsOn N₀ (Fr.keep (by assumption)))
end Mine

namespace Mine
open Builtin in
theorem upper_small {l : List UInt8} (h : ∀ c ∈ l, c.toNat < 128) : ∀ c ∈ l.map Bytes.toUpper, c.toNat < 128 := by
  intro c hc
  obtain ⟨x, hx, rfl⟩ := List.mem_map.mp hc
  have := h x hx
  unfold Bytes.toUpper
  split
  · rename_i q
    unfold Bytes.isLower at q
    simp only [Bool.and_eq_true, decide_eq_true_eq] at q
    have h1 : (97 : UInt8) ≤ x := q.1
    have h2 : (97 : UInt8).toNat ≤ x.toNat := h1
    have : (97 : UInt8).toNat = 97 := rfl
    have : (32 : UInt8).toNat = 32 := rfl
    rw [UInt8.toNat_sub_of_le _ _ (by show (32 : UInt8).toNat ≤ x.toNat; omega)]
    omega
  · exact this
theorem b16_small (l : List UInt8) : ∀ c ∈ b16 l, c.toNat < 128 := by
  refine upper_small ?_
  intro c hc
  obtain ⟨x, hx, rfl⟩ := List.mem_map.mp hc
  have h := hexs_small l x hx
  show (UInt8.ofNat x).toNat < 128
  rw [UInt8.toNat_ofNat', Nat.mod_eq_of_lt (by omega)]
  exact h
theorem b16_length (l : List UInt8) : (b16 l).length = 2 * l.length := by unfold b16; rw [List.length_map, List.length_map, hexs_length]
def octs (ns : List Int) : List UInt8 := ns.map fun n => n.toNat.toUInt8
def wr4 (ns : List Int) : List Nat := (b16 (octs ns)).map UInt8.toNat
def wr6 (ns : List Int) : List Nat := ((b64st ns).1.map fun n => n.toNat.toUInt8).map UInt8.toNat
theorem b64L_small : ∀ c ∈ b64L, c.toNat < 128 := by decide
theorem b64c_small (i : Int) : b64c i < 128 := by
  unfold b64c
  rw [List.getD_eq_getElem?_getD]
  cases h : b64L[i.toNat]? with
  | none => decide
  | some c => have := b64L_small c (List.mem_of_getElem? h); simp only [Option.getD_some]; omega
theorem b64st_small (pre : List Int) : ∀ n ∈ (b64st pre).1, n < 128 := by
  induction pre using snoc_ind with
  | h0 => simp [b64st]
  | h1 pre n ih =>
    rw [b64st_snoc]
    unfold b64step
    dsimp only
    split
    · intro k hk; rcases List.mem_append.mp hk with hk | hk
      · exact ih k hk
      · rw [List.mem_singleton.mp hk]; exact b64c_small _
    · split
      · intro k hk; rcases List.mem_append.mp hk with hk | hk
        · exact ih k hk
        · rw [List.mem_singleton.mp hk]; exact b64c_small _
      · intro k hk; rcases List.mem_append.mp hk with hk | hk
        · rcases List.mem_append.mp hk with hk | hk
          · exact ih k hk
          · rw [List.mem_singleton.mp hk]; exact b64c_small _
        · rw [List.mem_singleton.mp hk]; exact b64c_small _
theorem out_small (pre : List Int) : ∀ c ∈ (b64st pre).1.map (fun n => n.toNat.toUInt8), c.toNat < 128 := by
  intro c hc
  obtain ⟨x, hx, rfl⟩ := List.mem_map.mp hc
  have h1 := b64st_small pre x hx
  have h2 := b64st_bytes pre x hx
  show (UInt8.ofNat x.toNat).toNat < 128
  rw [UInt8.toNat_ofNat', Nat.mod_eq_of_lt (by omega)]
  omega

local macro_rules | `(tactic| walk_at "call type:bytes") => `(tactic| ((with_reducible show wpAny _ _ (call (Value.type _) [Value.ref _]) _ _ _); k_dflt (refine' bytes_K ?F ?N ?l ?i ?r ?z ?h ?_; (case F => k_asm); (case N => k_asm); (case l => is_list); (case i => assumption); (case r => assumption); (case z => assumption); (case h => with_unfolding_all rfl); k_whole); intro h' t' k' F' N' _; (try k_sweep); (try dsimp only)))
local macro_rules | `(tactic| walk_at "call ref") => `(tactic| (k_dflt (refine' b16_spec ?k1 ?k2 ?k3 ?k4 rfl (Nat.le_of_ble_eq_true rfl) (Nat.le_of_ble_eq_true rfl) ?e0 ?_; (case k1 => k_asm); (case k2 => k_asm); (case k3 => k_asm); (case k4 => k_asm); (case e0 => assumption)); intro t' h' tk' F' N'; (try k_sweep); (try dsimp only)))
local macro_rules | `(tactic| walk_at "call builtin:bytes.decode") => `(tactic| (refine call_dec (by assumption) (b16_small _) (by assumption) ?_; intro t' k'; (try dsimp only)))
theorem written4_spec {w : World} {mean : ExcName → Option Value} {mg mb : Str → Option Value} {A : Around} {Q E : Value → Shared → Prop} {s : Shared} {h₀ : Heap} {L : Addr} {m : Str → Option Value} {news : List (Addr × Obj)} (F₀ : Fr h₀ L s.heap m) (N₀ : News h₀ L s.heap news) (X₀ : (hd.heap_39 w.params).In h₀) (T₀ : Top hd.view_39 (looseW hd.view_39 [Str.ofString "b2a_base64", Str.ofString "_NO_SEP", Str.ofString "b2a_hex", Str.ofString "hexlify", Str.ofString "b64encode"]) mean mg mb h₀) {l : Addr} {vs : List Value} {ns : List Int} {tk : Tok} (h0 : A.handled = none) (hD : A.depth ≤ 400) (hU : A.units ≤ 500) (hL : s.heap.IsList l vs.toArray) (hI : IntsAre vs ns) (hr : ∀ n ∈ ns, 0 ≤ n ∧ n < 256) (hz : 2 * ns.length ≤ sizeLine) (hne : ns ≠ [])
    (h : ∀ t, ∀ h' tk', Fr h₀ L h' m → News h₀ L h' news → Q (.str ⟨(wr4 ns).toArray⟩ t) { s with heap := h', toks := tk' }) : wpAny (model PySem.Challenge.rw_mq0109_01.row.prog w) A (call (.ref 98) [.ref l, .int 4 tk]) Q E s := by
  refine weaken 400 500 h0 hD hU ?_
  w_top off
  revert X₀; k_fill; intro X₀
  have X := X₀.keeps F₀.keep
  have T := T₀.keeps F₀.keep
  refine' enterP (binds := [("octets", .ref l), ("step", .int 4 tk)]) X T.nolimit (by decide) (by k_is) (by k_is) (BindsTo.of_eq rfl) (locs rfl) ?_
  intro L' h₁ F N
  have z1 : vs.length ≤ sizeLine := by have := hI.length; omega
  have z2 : 2 * (octs ns).length ≤ sizeLine := by unfold octs; rw [List.length_map]; exact hz
  have z3 : b16 (octs ns) ≠ [] := by
    intro e
    have := b16_length (octs ns)
    rw [e] at this
    unfold octs at this
    rw [List.length_map] at this
    exact hne (List.eq_nil_of_length_eq_zero (by simp at this; omega))
  have z4 : (b16 (octs ns)).length ≤ sizeLine := by rw [b16_length]; exact z2
  (try dsimp only)
  k_steps
  exact h _ _ _ (frOn F₀ (Fr.keep (by assumption))) (newsOn N₀ (Fr.keep (by assumption)))

local macro_rules | `(tactic| walk_at "call ref") => `(tactic| (k_dflt (refine' b64_spec ?k1 ?k2 ?k3 ?k4 rfl (Nat.le_of_ble_eq_true rfl) (Nat.le_of_ble_eq_true rfl) ?e0 ?e1 ?_; (case k1 => k_asm); (case k2 => k_asm); (case k3 => k_asm); (case k4 => k_asm); (case e0 => assumption); (case e1 => assumption)); intro t' h' tk' F' N'; (try k_sweep); (try dsimp only)))
local macro_rules | `(tactic| walk_at "call builtin:bytes.decode") => `(tactic| (refine call_dec (by assumption) (out_small _) (by assumption) ?_; intro t' k'; (try dsimp only)))
theorem written6_spec {w : World} {mean : ExcName → Option Value} {mg mb : Str → Option Value} {A : Around} {Q E : Value → Shared → Prop} {s : Shared} {h₀ : Heap} {L : Addr} {m : Str → Option Value} {news : List (Addr × Obj)} (F₀ : Fr h₀ L s.heap m) (N₀ : News h₀ L s.heap news) (X₀ : (hd.heap_39 w.params).In h₀) (T₀ : Top hd.view_39 (looseW hd.view_39 [Str.ofString "b2a_base64", Str.ofString "_NO_SEP", Str.ofString "b2a_hex", Str.ofString "hexlify", Str.ofString "b64encode"]) mean mg mb h₀) {l : Addr} {vs : List Value} {ns : List Int} {tk : Tok} {lcz : Int} (h0 : A.handled = none) (hD : A.depth ≤ 400) (hU : A.units ≤ 500) (hL : s.heap.IsList l vs.toArray) (hI : IntsAre vs ns) (hr : ∀ n ∈ ns, 0 ≤ n ∧ n < 256) (hz : 2 * ns.length ≤ sizeLine) (hst : b64st ns = ((b64st ns).1, 0, lcz)) (hne : (b64st ns).1 ≠ [])
    (h : ∀ t, ∀ h' tk', Fr h₀ L h' m → News h₀ L h' news → Q (.str ⟨(wr6 ns).toArray⟩ t) { s with heap := h', toks := tk' }) : wpAny (model PySem.Challenge.rw_mq0109_01.row.prog w) A (call (.ref 98) [.ref l, .int 6 tk]) Q E s := by
  refine weaken 400 500 h0 hD hU ?_
  w_top off
  revert X₀; k_fill; intro X₀
  have X := X₀.keeps F₀.keep
  have T := T₀.keeps F₀.keep
  refine' enterP (binds := [("octets", .ref l), ("step", .int 6 tk)]) X T.nolimit (by decide) (by k_is) (by k_is) (BindsTo.of_eq rfl) (locs rfl) ?_
  intro L' h₁ F N
  have z1 : vs.length ≤ sizeLine := by have := hI.length; omega
  have z2 : 2 * (ns.map fun n => n.toNat.toUInt8).length ≤ sizeLine := by rw [List.length_map]; exact hz
  have hB : KBw.bInts (ns.map fun n => n.toNat.toUInt8).toArray = ns := by
    have := KBa.ints_make (ns := ns) hr
    exact this
  have z5 : b64st (KBw.bInts (ns.map fun n => n.toNat.toUInt8).toArray) = ((b64st ns).1, 0, lcz) := by rw [hB]; exact hst
  have z3 : (b64st ns).1.map (fun n => n.toNat.toUInt8) ≠ [] := by simpa using hne
  have z4 : ((b64st ns).1.map (fun n => n.toNat.toUInt8)).length ≤ sizeLine := by
    have := (b64st_facts ns).2.2.2
    rw [List.length_map]; omega
  (try dsimp only)
  k_steps
  exact h _ _ _ (frOn F₀ (Fr.keep (by assumption))) (newsOn N₀ (Fr.keep (by assumption)))
end Mine

namespace Mine
section
variable {prog : Program} {w : World} {A : Around} {E : Value → Shared → Prop} {s : Shared} {h₀ : Heap} {L a : Addr} {m : Str → Option Value} {news news' : List (Addr × Obj)} {v : Value} {vs : List Value} {n : Nat} {i : Int} {u : Tok}
theorem list_item {value slice : Expr} {Q : Value → Shared → Prop} (hl : s.heap.IsList a vs.toArray) (h0 : 0 ≤ i) (h1 : i < 2 ^ 63) (hx : vs[i.toNat]? = some v) (h : Q v s)
    (hs : subscripted slice false (.ref a) (.int i u) = operate [.ref a, .int i u] (getItem (.ref a) (.int i u)) := by with_unfolding_all rfl) :
    wpAny (model prog w) A (subscriptTail value slice (.ref a) (.int i u)) Q E s :=
  tail_any hl.typeIs slot_list_getitem.lookup (wpAny_getItem_list hl h0 h1 (by simpa using hx) h) hs
theorem list_last {value slice : Expr} {Q : Value → Shared → Prop} (hl : s.heap.IsList a (vs ++ [v]).toArray) (hz : vs.length < 2 ^ 62) (h : Q v s)
    (hs : subscripted slice false (.ref a) (.int (-1) u) = operate [.ref a, .int (-1) u] (getItem (.ref a) (.int (-1) u)) := by with_unfolding_all rfl) :
    wpAny (model prog w) A (subscriptTail value slice (.ref a) (.int (-1) u)) Q E s := by
  refine tail_any hl.typeIs slot_list_getitem.lookup (wpAny_getItem_list_neg hl (by decide) ?_ (by decide) ?_ h) hs
  · simp; omega
  · have e : (-1 + (((vs ++ [v]).toArray.size : Nat) : Int)).toNat = vs.length := by simp; omega
    rw [e]; simp
theorem delL_last : ∀ (vs : List Value) (v : Value), ki_delL (vs ++ [v]) vs.length = some vs
  | [], v => rfl
  | x :: r, v => by
    have := delL_last r v
    simp only [List.cons_append, List.length_cons, ki_delL, this]
theorem sv_length (l : List (Str × Tok)) : (strValues l).length = l.length := by simp [strValues]
theorem sv_get {l : List (Str × Tok)} {k : Nat} {v : Value} (h : (strValues l)[k]? = some v) : ∃ p, l[k]? = some p ∧ v = .str p.1 p.2 := by
  unfold strValues at h
  rw [List.getElem?_map] at h
  cases e : l[k]? with
  | none => rw [e] at h; cases h
  | some p => rw [e] at h; exact ⟨p, rfl, (Option.some.inj h).symm⟩
variable {l r : List (Str × Tok)} {x : Str} {tx : Tok}
theorem sv_item0 {value slice : Expr} {Q : Value → Shared → Prop} (N : News h₀ L s.heap news) (hm : (a, listOf (strValues ((x, tx) :: l ++ r)).toArray n) ∈ news) (h : Q (.str x tx) s)
    (hs : subscripted slice false (.ref a) (.int 0 u) = operate [.ref a, .int 0 u] (getItem (.ref a) (.int 0 u)) := by with_unfolding_all rfl) :
    wpAny (model prog w) A (subscriptTail value slice (.ref a) (.int 0 u)) Q E s :=
  list_item (News.isList N hm) (by decide) (by decide) rfl h hs
theorem sv_last {value slice : Expr} {Q : Value → Shared → Prop} (N : News h₀ L s.heap news) (hm : (a, listOf (strValues (l ++ [(x, tx)])).toArray n) ∈ news) (hz : (l ++ [(x, tx)]).length ≤ 100000) (h : Q (.str x tx) s)
    (hs : subscripted slice false (.ref a) (.int (-1) u) = operate [.ref a, .int (-1) u] (getItem (.ref a) (.int (-1) u)) := by with_unfolding_all rfl) :
    wpAny (model prog w) A (subscriptTail value slice (.ref a) (.int (-1) u)) Q E s := by
  have e : strValues (l ++ [(x, tx)]) = strValues l ++ [.str x tx] := by simp [strValues]
  rw [e] at hm
  exact list_last (News.isList N hm) (by rw [sv_length]; simp at hz; omega) h hs
theorem sv_del0 {Q : Unit → Shared → Prop} (F : Fr h₀ L s.heap m) (N : News h₀ L s.heap news) (hz : ((x, tx) :: l ++ r).length ≤ 100000) (U : Upd a (listOf (strValues ((x, tx) :: l ++ r)).toArray n) (listOf (strValues (l ++ r)).toArray (n + 1)) news news')
    (h : ∀ h', Fr h₀ L h' m → News h₀ L h' news' → Q () { s with heap := h' }) : wpAny (model prog w) A (delItem (.ref a) (.int 0 u)) Q E s := by
  refine ki_del (k := 0) (q := strValues (l ++ r)) F N (by decide) ?_ rfl U ?_ h
  · have e : ((strValues ((x, tx) :: l ++ r)).toArray.size : Nat) = (l ++ r).length + 1 := by simp [strValues]
    rw [e]; simp [seqIndex?]; omega
  · show (strValues ((x, tx) :: l ++ r)).length ≤ _
    rw [sv_length]
    have : sizeLine = 16777216 := rfl
    omega
theorem sv_delL {Q : Unit → Shared → Prop} (F : Fr h₀ L s.heap m) (N : News h₀ L s.heap news) (hz : (l ++ [(x, tx)]).length ≤ 100000) (U : Upd a (listOf (strValues (l ++ [(x, tx)])).toArray n) (listOf (strValues l).toArray (n + 1)) news news')
    (h : ∀ h', Fr h₀ L h' m → News h₀ L h' news' → Q () { s with heap := h' }) : wpAny (model prog w) A (delItem (.ref a) (.int (-1) u)) Q E s := by
  have e : strValues (l ++ [(x, tx)]) = strValues l ++ [.str x tx] := by simp [strValues]
  refine ki_del (k := (strValues l).length) (q := strValues l) F N (by decide) ?_ ?_ U ?_ h
  · have e' : ((strValues (l ++ [(x, tx)])).toArray.size : Nat) = (strValues l).length + 1 := by simp [strValues]
    rw [e']; simp [seqIndex?]; omega
  · show ki_delL (strValues (l ++ [(x, tx)])) _ = _
    rw [e]; exact delL_last _ _
  · show (strValues (l ++ [(x, tx)])).length ≤ _
    rw [sv_length]
    have : sizeLine = 16777216 := rfl
    omega
end

open Builtin Builtin.Str in
def find4 (x y : Str) (i j : Int) : Int := match occurrences x y (fromIndex x.length i) (min (fromIndex x.length j) x.length) 1 with | k :: _ => (k : Int) | [] => -1
open Builtin Builtin.Str in
theorem gives_find4 (x y : Str) (i j : Int) (t u v z : Tok) : Gives («str.find» ⟨[.str x t, .str y u, .int i v, .int j z], []⟩) (.int (find4 x y i j)) := by
  unfold find4
  show Gives (match occurrences x y (fromIndex x.length i) (min (fromIndex x.length j) x.length) 1 with | k :: _ => retInt k | [] => (do rule "str.find.not-found"; retInt (-1))) _
  cases occurrences x y (fromIndex x.length i) (min (fromIndex x.length j) x.length) 1 with
  | nil => exact .rule (.of_eq rfl)
  | cons k _ => exact .of_eq rfl
theorem call_find4 {prog : Program} {w : World} {A : Around} {E : Value → Shared → Prop} {s : Shared} {x y : Str} {t u v z : Tok} {i j : Int} {Q : Value → Shared → Prop}
    (hq : Q (.int (find4 x y i j) s.toks) { s with toks := s.toks + 1 }) : wpAny (model prog w) A (call (.builtin "str.find") [.str x t, .str y u, .int i v, .int j z]) Q E s :=
  call_gives F.slot_str_find (typeIs_str _ _ _) F.entry_str_find (F.args_str_find_4 _ _ _ _) (gives_find4 x y i j t u v z) hq
abbrev dots : Str := Str.ofString "..."
theorem split_rule {prog : Program} {w : World} {A : Around} {E : Value → Shared → Prop} {s : Shared} {h₀ : Heap} {L : Addr} {m : Str → Option Value} {news : List (Addr × Obj)} {x w0 wl : Str} {mid : List Str} {t u : Tok} {Q : Value → Shared → Prop}
    (F : Fr h₀ L s.heap m) (N : News h₀ L s.heap news) (hs : Txt.split x dots = w0 :: (mid ++ [wl])) (hsz : x.length + 2 ≤ sizeLine)
    (h : ∀ a t0 tl lm h' k, lm.map (·.1) = mid → Fr h₀ L h' m → News h₀ L h' ((a, listOf (strValues ((w0, t0) :: lm ++ [(wl, tl)])).toArray 0) :: news) → (∀ p ∈ news, p.1 < a) → Q (.ref a) { s with heap := h', toks := k }) :
    wpAny (model prog w) A (call (.builtin "str.split") [.str x t, .str dots u]) Q E s := by
  refine splitN1 F N (by decide +kernel) (fun l h' k e F' N' => ?_) hsz
  rw [hs] at e
  cases l with
  | nil => cases e
  | cons p r =>
    rw [List.map_cons] at e
    obtain ⟨e1, e2⟩ := List.cons.inj e
    have hr : r ≠ [] := by rintro rfl; simp at e2
    obtain ⟨lm, pl, rfl⟩ : ∃ lm pl, r = lm ++ [pl] := ⟨r.dropLast, r.getLast hr, (List.dropLast_concat_getLast hr).symm⟩
    rw [List.map_append, List.map_cons, List.map_nil] at e2
    obtain ⟨e3, e4⟩ := List.append_inj' e2 rfl
    obtain ⟨e5, _⟩ := List.cons.inj e4
    obtain ⟨p0, t0⟩ := p
    obtain ⟨p1, t1⟩ := pl
    dsimp only at e1 e5
    subst e1 e5
    refine h s.heap.objs.size t0 t1 lm h' k e3 F' ?_ fun p hp => Heap.lt_size (N p hp).1
    simpa [strValues] using N'
/-- what holds between two turns: the names' values, the ledger, a word of the turn's number -/
def KS {σ : Type} (Led : σ → List (Addr × Obj)) (ps : σ → List (Str × Value)) (x : Str) (stored : List Str) (m₀ : Str → Option Value) (P : Nat → σ → Prop) (i : Nat) (m : Str → Option Value) (nx : List (Addr × Obj)) : Prop :=
  ∃ c : σ, nx = Led c ∧ (∀ p ∈ ps c, m p.1 = some p.2) ∧ (∀ z, z ≠ x → (∀ p ∈ ps c, z ≠ p.1) → stored.contains z = false → m z = m₀ z) ∧ P i c
section
variable {prog : Program} {w : World} {A : Around} {E : Value → Shared → Prop} {s : Shared} {env : Env} {h₀ : Heap} {x : Str} {body : List Stmt} {Q : Flow → Shared → Prop}
/-- a for over a list of the ledger, whatever it holds -/
theorem loopL {σ : Type} {l : Addr} {vs : List Value} {nn : Nat} {m₀ : Str → Option Value} (Led : σ → List (Addr × Obj)) (ps : σ → List (Str × Value)) (stored : List Str) (P : Nat → σ → Prop) (c₀ : σ)
    (hh : A.handled = none) (hl : ∀ c : σ, (l, listOf vs.toArray nn) ∈ Led c) (F : Fr h₀ env.locals s.heap m₀) (N : News h₀ env.locals s.heap (Led c₀)) (hk : ∀ p ∈ ps c₀, m₀ p.1 = some p.2) (hp : P 0 c₀)
    (turn : ∀ (c : σ) i v (u : Str → Option Value) h tk own, vs[i]? = some v → OwnOff own ((Led c).map (·.1)) → P i c →
      Fr h₀ env.locals h (fun y => if y = x then some v else kstB (fun z => if stored.contains z then u z else m₀ z) (ps c) y) → News h₀ env.locals h (Led c ++ own) →
      wpAny (model prog w) A (execs body env) (InvPostG h₀ env.locals (fun m' nx => (l, listOf vs.toArray nn) ∈ nx ∧ KS Led ps x stored m₀ P (i + 1) m' nx) own { s with heap := h, toks := tk } Q) E { s with heap := h, toks := tk })
    (done : ∀ (c : σ) (u : Str → Option Value) h tk, P vs.length c → Fr h₀ env.locals h (fun y => if y = x then u y else kstB (fun z => if stored.contains z then u z else m₀ z) (ps c) y) → News h₀ env.locals h (Led c) → Q .next { s with heap := h, toks := tk }) :
    wpAny (model prog w) A (pyIter (.ref l)) (fun it s₂ => LoopAtV prog w A h₀ env x body Q E it s₂) E s := by
  refine kdl_iter (fun i m nx => KS Led ps x stored m₀ P i m nx) hh (hl c₀) F N ⟨c₀, rfl, hk, fun _ _ _ _ => rfl, hp⟩ ?_ ?_
  · rintro i v m₁ nx h tk own hv hoff _ ⟨c, rfl, h1, h2, hp'⟩ F₁ N₁
    exact turn c i v m₁ h tk own hv hoff hp' (kst_fr h1 h2 F₁) N₁
  · rintro m₁ nx h tk ⟨c, rfl, h1, h2, hp'⟩ F₁ N₁
    exact done c m₁ h tk hp' (kst_frOut h1 h2 F₁) N₁
end
theorem str_true {prog : Program} {w : World} {A : Around} {E : Value → Shared → Prop} {s : Shared} {x : Str} {t : Tok} {Q : Bool → Shared → Prop} (h0 : x.length ≠ 0) (hf : x.length ≤ 1000) (h : Q true { s with toks := s.toks + 1 + 1 }) : wpAny (model prog w) A (truthy (.str x t)) Q E s := by
  refine P.truthy_str (by omega) ?_
  have : ((x.length : Int) != 0) = true := by simp; omega
  rw [this]; exact h
theorem str_false {prog : Program} {w : World} {A : Around} {E : Value → Shared → Prop} {s : Shared} {x : Str} {t : Tok} {Q : Bool → Shared → Prop} (h0 : x.length = 0) (h : Q false { s with toks := s.toks + 1 + 1 }) : wpAny (model prog w) A (truthy (.str x t)) Q E s := by
  refine P.truthy_str (by omega) ?_
  have : ((x.length : Int) != 0) = false := by simp; omega
  rw [this]; exact h
theorem halt_mk {P : Prop} (h : Halt P) : P := h
theorem halt_out {P : Prop} (h : P) : Halt P := h
theorem halt_in {M : Model} {A : Around} {α : Type} {t : Sem α} {E : Value → Shared → Prop} {s : Shared} {Q : α → Shared → Prop} (h : wpAny M A t (fun a s' => Halt (Q a s')) E s) : wpAny M A t Q E s := h

/-- the end of a turn of a for over a list of the ledger that makes nothing that stays and changes no object -/
def PostC {σ : Type} (h₀ : Heap) (L : Addr) (ps : σ → List (Str × Value)) (x : Str) (stored : List Str) (m₀ : Str → Option Value) (led : List (Addr × Obj)) (lo : Addr × Obj) (P : σ → Prop) (own : List (Addr × Obj)) (s₁ : Shared) (Q : Flow → Shared → Prop) (f : Flow) (s₂ : Shared) : Prop :=
  InvPostG h₀ L (fun m' nx => lo ∈ nx ∧ KS (fun _ => led) ps x stored m₀ (fun _ c => P c) 0 m' nx) own s₁ Q f s₂
section
variable {prog : Program} {w : World} {A : Around} {E : Value → Shared → Prop} {s : Shared} {env : Env} {h₀ : Heap} {x : Str} {body : List Stmt} {Q : Flow → Shared → Prop}
theorem loopC {σ : Type} {l : Addr} {vs : List Value} {nn : Nat} {m₀ : Str → Option Value} {led : List (Addr × Obj)} (ps : σ → List (Str × Value)) (stored : List Str) (P : Nat → σ → Prop) (c₀ : σ)
    (hh : A.handled = none) (hl : (l, listOf vs.toArray nn) ∈ led) (F : Fr h₀ env.locals s.heap m₀) (N : News h₀ env.locals s.heap led) (hk : ∀ p ∈ ps c₀, m₀ p.1 = some p.2) (hp : P 0 c₀)
    (turn : ∀ (c : σ) i v (u : Str → Option Value) h tk own, vs[i]? = some v → OwnOff own (led.map (·.1)) → P i c →
      Fr h₀ env.locals h (fun y => if y = x then some v else kstB (fun z => if stored.contains z then u z else m₀ z) (ps c) y) → News h₀ env.locals h (led ++ own) →
      wpAny (model prog w) A (execs body env) (fun f s₂ => Halt (PostC h₀ env.locals ps x stored m₀ led (l, listOf vs.toArray nn) (P (i + 1)) own { s with heap := h, toks := tk } Q f s₂)) E { s with heap := h, toks := tk })
    (done : ∀ (c : σ) (u : Str → Option Value) h tk, P vs.length c → Fr h₀ env.locals h (fun y => if y = x then u y else kstB (fun z => if stored.contains z then u z else m₀ z) (ps c) y) → News h₀ env.locals h led → Q .next { s with heap := h, toks := tk }) :
    wpAny (model prog w) A (pyIter (.ref l)) (fun it s₂ => LoopAtV prog w A h₀ env x body Q E it s₂) E s := by
  refine loopL (fun _ => led) ps stored P c₀ hh (fun _ => hl) F N hk hp (fun c i v u h tk own hv ho hP F' N' => ?_) done
  refine wpAny_mono (turn c i v u h tk own hv ho hP F' N') (fun f s₂ z => ?_) fun _ _ z => z
  exact z
end
theorem endC {σ : Type} {h₀ h' : Heap} {L : Addr} {m' m₀ : Str → Option Value} {news' own led : List (Addr × Obj)} {s₁ : Shared} {tk : Nat} {ps : σ → List (Str × Value)} {x : Str} {stored : List Str} {P : σ → Prop} {lo : Addr × Obj} {Q : Flow → Shared → Prop}
    (c : σ) (F : Fr h₀ L h' m') (N : News h₀ L h' news') (hl : lo ∈ led) (hnx : ∀ p ∈ led ++ own, p ∈ news') (hoff : OwnOff own (led.map (·.1))) (hps : ∀ p ∈ ps c, m' p.1 = some p.2)
    (hrest : ∀ z, z ≠ x → (∀ p ∈ ps c, z ≠ p.1) → stored.contains z = false → m' z = m₀ z) (hP : P c) :
    Halt (PostC h₀ L ps x stored m₀ led lo P own s₁ Q .next { s₁ with heap := h', toks := tk }) :=
  ⟨h', tk, m', news', led, rfl, F, N, (fun p hp => hnx p (List.mem_append_left _ hp)), (fun p hp => hnx p (List.mem_append_right _ hp)), hoff, hl, c, rfl, hps, hrest, hP⟩
theorem retC {σ : Type} {h₀ : Heap} {L : Addr} {m₀ : Str → Option Value} {own led : List (Addr × Obj)} {s₁ s₂ : Shared} {ps : σ → List (Str × Value)} {x : Str} {stored : List Str} {P : σ → Prop} {lo : Addr × Obj} {Q : Flow → Shared → Prop} {v : Value}
    (h : Q (.ret v) s₂) : Halt (PostC h₀ L ps x stored m₀ led lo P own s₁ Q (.ret v) s₂) := h
end Mine

namespace Mine
def ellLoop (got : Str) (ep : Int) : List Str → Int → Option Int
  | [], sp => some sp
  | w :: r, sp => if find4 got w sp ep < 0 then none else ellLoop got ep r (find4 got w sp ep + w.length)
def ellTail (got : Str) (ws : List Str) (sp ep : Int) : Bool := if sp > ep then false else (ellLoop got ep ws sp).isSome
theorem ellLoop_snoc {got : Str} {ep : Int} (w : Str) : ∀ (ws : List Str) (sp sp' : Int), ellLoop got ep ws sp = some sp' → ellLoop got ep (ws ++ [w]) sp = if find4 got w sp' ep < 0 then none else some (find4 got w sp' ep + w.length)
  | [], sp, sp', h => by cases h; rfl
  | x :: r, sp, sp', h => by
    unfold ellLoop at h
    show (if find4 got x sp ep < 0 then none else ellLoop got ep (r ++ [w]) _) = _
    split at h
    · cases h
    · rename_i q
      rw [if_neg q]
      exact ellLoop_snoc w r _ _ h
theorem ellLoop_none {got : Str} {ep : Int} (w : Str) (rest : List Str) : ∀ (ws : List Str) (sp sp' : Int), ellLoop got ep ws sp = some sp' → find4 got w sp' ep < 0 → ellLoop got ep (ws ++ w :: rest) sp = none
  | [], sp, sp', h, q => by cases h; exact if_pos q
  | x :: r, sp, sp', h, q => by
    unfold ellLoop at h
    show (if find4 got x sp ep < 0 then none else ellLoop got ep (r ++ w :: rest) _) = _
    split at h
    · cases h
    · rename_i q'
      rw [if_neg q']
      exact ellLoop_none w rest r _ _ h q
theorem ell_step {got : Str} {ep sp sp' : Int} {l : List (Str × Tok)} {i : Nat} {p : Str × Tok} (hp : l[i]? = some p) (h : ellLoop got ep ((l.map (·.1)).take i) sp = some sp') (q : ¬ find4 got p.1 sp' ep < 0) :
    ellLoop got ep ((l.map (·.1)).take (i + 1)) sp = some (find4 got p.1 sp' ep + p.1.length) := by
  rw [List.take_add_one, List.getElem?_map, hp]
  have := ellLoop_snoc (got := got) (ep := ep) p.1 _ _ _ h
  rw [if_neg q] at this
  exact this
theorem ell_fail {got : Str} {ep sp sp' : Int} {l : List (Str × Tok)} {i : Nat} {p : Str × Tok} (hp : l[i]? = some p) (h : ellLoop got ep ((l.map (·.1)).take i) sp = some sp') (q : find4 got p.1 sp' ep < 0) :
    ellLoop got ep (l.map (·.1)) sp = none := by
  have hi : i < l.length := (List.getElem?_eq_some_iff.mp hp).1
  have e : l.map (·.1) = (l.map (·.1)).take i ++ p.1 :: (l.map (·.1)).drop (i + 1) := by
    conv => lhs; rw [← List.take_append_drop i (l.map (·.1))]
    rw [List.drop_eq_getElem_cons (by simpa using hi)]
    congr 2
    rw [List.getElem_map]
    have := (List.getElem?_eq_some_iff.mp hp).2
    rw [this]
  rw [e]
  exact ellLoop_none p.1 _ _ _ _ h q
local macro_rules | `(tactic| walk_at "call builtin:str.split") => `(tactic| (k_dflt (refine' split_rule ?k1 ?k2 ?k3 ?k4 ?_; (case k1 => k_asm); (case k2 => k_asm); (case k3 => assumption); (case k4 => assumption)); intro a' t0' tl' lm' h' k' hlm' F' N' l1; (try k_lt l1); (try dsimp only)))
local macro_rules | `(tactic| walk_at "pyIter ref") => `(tactic| refine halt_mk ?_)
local macro_rules | `(tactic| walk_at "call builtin:str.find") => `(tactic| refine call_find4 ?_)
local macro_rules | `(tactic| walk_at "truthy str") => `(tactic| first | refine str_false (by with_reducible assumption) ?_ | refine str_true (by with_reducible assumption) (by with_reducible assumption) ?_)
local macro_rules | `(tactic| walk_at "subscriptTail") => `(tactic| ((with_reducible show wpAny _ _ (subscriptTail _ _ (Value.ref _) (Value.int _ _)) _ _ _); refine halt_mk ?_))
local macro_rules | `(tactic| walk_at "delItem ref int") => `(tactic| refine halt_mk ?_)

theorem ell_spec_CE {w : World} {mean : ExcName → Option Value} {mg mb : Str → Option Value} {A : Around} {Q E : Value → Shared → Prop} {s : Shared} {h₀ : Heap} {L : Addr} {m : Str → Option Value} {news : List (Addr × Obj)} (F₀ : Fr h₀ L s.heap m) (N₀ : News h₀ L s.heap news) (X₀ : (hd.heap_39 w.params).In h₀) (T₀ : Top hd.view_39 (looseW hd.view_39 [Str.ofString "b2a_base64", Str.ofString "_NO_SEP", Str.ofString "b2a_hex", Str.ofString "hexlify", Str.ofString "b64encode"]) mean mg mb h₀) {want got w0 wl : Str} {mid : List Str} {t1 t2 : Tok} (h0 : A.handled = none) (hD : A.depth ≤ 400) (hU : A.units ≤ 500) (hw : want.length + 2 ≤ sizeLine) (hin : (Builtin.Str.occurrences want dots 0 want.length 1).isEmpty = false) (hmid : mid.length + 2 ≤ 1000) (hg : got.length ≤ 1000) (hl0 : w0.length ≤ 1000) (hll : wl.length ≤ 1000) (hlm0 : ∀ a ∈ mid, a.length ≤ 1000) (hs : Txt.split want dots = w0 :: (mid ++ [wl]))
    (e0 : w0.length = 0) (el : wl.length = 0)
    (h : ∀ h' tk', Fr h₀ L h' m → News h₀ L h' news → Q (.bool (ellTail got (w0 :: (mid ++ [wl])) 0 got.length)) { s with heap := h', toks := tk' }) : wpAny (model PySem.Challenge.rw_mq0109_01.row.prog w) A (call (.ref 28) [.str want t1, .str got t2]) Q E s := by
  refine weaken 400 500 h0 hD hU ?_
  w_top off
  revert X₀; k_fill; intro X₀
  have X := X₀.keeps F₀.keep
  have T := T₀.keeps F₀.keep
  refine' enterP (binds := [("want", .str want t1), ("got", .str got t2)]) X T.nolimit (by decide) (by k_is) (by k_is) (BindsTo.of_eq rfl) (locs rfl) ?_
  intro L' h₁ F N
  (try dsimp only)
  refine halt_in ?_
  k_steps
  rename_i wa t0 tl lm _ _ hlm _ _ F' N'
  clear hs hin
  have hz0 : lm.length = mid.length := by rw [← hlm]; simp
  have hz : (strValues ((w0, t0) :: lm ++ [(wl, tl)])).length = mid.length + 2 := by rw [sv_length]; simp; omega
  have hA : ∀ p ∈ lm, p.1.length ≤ 1000 := fun p hp => hlm0 _ (by rw [← hlm]; exact List.mem_map_of_mem hp)
  have hz1 : ((w0, t0) :: lm ++ [(wl, tl)]).length ≤ 100000 := by simp; omega
  have hz2 : (lm ++ [(wl, tl)]).length ≤ 100000 := by simp; omega
  refine kst_len (k := mid.length + 2) (by assumption) (.head _) hz (by omega) ?_
  k_steps
  refine halt_out (sv_item0 (by assumption) (.tail _ (.head _)) ?_)
  k_steps
  refine halt_out (sv_last (by assumption) (.tail _ (.head _)) hz1 ?_)
  k_steps
  have hml : ((w0, t0) :: lm ++ [(wl, tl)]).map (·.1) = w0 :: (mid ++ [wl]) := by simp [hlm]
  refine halt_out (loopC (σ := Int × Tok) (fun c => [(Str.ofString "startpos", .int c.1 c.2)]) [Str.ofString "startpos"] (fun i c => ellLoop got (got.length) ((((w0, t0) :: lm ++ [(wl, tl)]).map (·.1)).take i) (0) = some c.1) (0, ?t9) rfl (.tail _ (.head _)) (by assumption) (by assumption) ?g1 rfl ?g2 ?g3)
  case g1 => intro p hp; rw [List.mem_singleton.mp hp]; rfl
  case g2 =>
    rintro ⟨sp, ts⟩ i v u h9 tk9 own hv hoff hP F9 N9
    obtain ⟨p, hp, rfl⟩ := sv_get hv
    dsimp only [kstB] at F9
    dsimp only at hP
    have hpl : p.1.length ≤ 1000 := by
      have := List.mem_of_getElem? hp
      (try simp only [List.mem_append, List.mem_cons, List.not_mem_nil, or_false] at this)
      rcases this with (rfl | hm) | rfl <;> first | exact hl0 | exact hll | exact hA _ (by assumption)
    k_steps
    · refine retC ?_
      have hb := ell_fail hp hP (by assumption)
      rw [hml] at hb
      have hr : (ellTail got (w0 :: (mid ++ [wl])) 0 got.length) = false := by
        skip
        unfold ellTail
        rw [hb]
        split <;> rfl
      rw [hr] at h
      exact h _ _ (frOn F₀ (Fr.keep (by assumption))) (newsOn N₀ (Fr.keep (by assumption)))
    · refine endC (c := (find4 got p.1 sp (got.length) + p.1.length, ?t8)) (by assumption) (by assumption) (.tail _ (.head _)) ?h1 hoff ?h2 ?h3 ?h4
      case h1 => exact fun p hp => hp
      case h2 => intro p hp; rw [List.mem_singleton.mp hp]; rfl
      case h3 =>
        intro z z1 z2 z3
        have a1 := z2 _ (.head _)
        dsimp only at a1 z1
        simp only [if_neg z1, if_neg a1, z3]
        rfl
      case h4 => exact ell_step hp hP (by assumption)
  case g3 =>
    rintro ⟨sp, ts⟩ u h9 tk9 hP F9 N9
    dsimp only [kstB] at F9
    dsimp only at hP
    rw [sv_length, List.take_of_length_le (by simp), hml] at hP
    k_steps
    have hr : (ellTail got (w0 :: (mid ++ [wl])) 0 got.length) = true := by
      skip
      unfold ellTail
      rw [hP, if_neg (by omega)]
      rfl
    rw [hr] at h
    exact h _ _ (frOn F₀ (Fr.keep (by assumption))) (newsOn N₀ (Fr.keep (by assumption)))

theorem ell_spec_A {w : World} {mean : ExcName → Option Value} {mg mb : Str → Option Value} {A : Around} {Q E : Value → Shared → Prop} {s : Shared} {h₀ : Heap} {L : Addr} {m : Str → Option Value} {news : List (Addr × Obj)} (F₀ : Fr h₀ L s.heap m) (N₀ : News h₀ L s.heap news) (X₀ : (hd.heap_39 w.params).In h₀) (T₀ : Top hd.view_39 (looseW hd.view_39 [Str.ofString "b2a_base64", Str.ofString "_NO_SEP", Str.ofString "b2a_hex", Str.ofString "hexlify", Str.ofString "b64encode"]) mean mg mb h₀) {want got w0 wl : Str} {mid : List Str} {t1 t2 : Tok} (h0 : A.handled = none) (hD : A.depth ≤ 400) (hU : A.units ≤ 500) (hw : want.length + 2 ≤ sizeLine) (hin : (Builtin.Str.occurrences want dots 0 want.length 1).isEmpty = false) (hmid : mid.length + 2 ≤ 1000) (hg : got.length ≤ 1000) (hl0 : w0.length ≤ 1000) (hll : wl.length ≤ 1000) (hlm0 : ∀ a ∈ mid, a.length ≤ 1000) (hs : Txt.split want dots = w0 :: (mid ++ [wl]))
    (e0 : w0.length ≠ 0) (el : wl.length = 0)
    (h : ∀ h' tk', Fr h₀ L h' m → News h₀ L h' news → Q (.bool (if Txt.startswith got w0 = true then ellTail got (mid ++ [wl]) w0.length got.length else false)) { s with heap := h', toks := tk' }) : wpAny (model PySem.Challenge.rw_mq0109_01.row.prog w) A (call (.ref 28) [.str want t1, .str got t2]) Q E s := by
  refine weaken 400 500 h0 hD hU ?_
  w_top off
  revert X₀; k_fill; intro X₀
  have X := X₀.keeps F₀.keep
  have T := T₀.keeps F₀.keep
  refine' enterP (binds := [("want", .str want t1), ("got", .str got t2)]) X T.nolimit (by decide) (by k_is) (by k_is) (BindsTo.of_eq rfl) (locs rfl) ?_
  intro L' h₁ F N
  (try dsimp only)
  refine halt_in ?_
  k_steps
  rename_i wa t0 tl lm _ _ hlm _ _ F' N'
  clear hs hin
  have hz0 : lm.length = mid.length := by rw [← hlm]; simp
  have hz : (strValues ((w0, t0) :: lm ++ [(wl, tl)])).length = mid.length + 2 := by rw [sv_length]; simp; omega
  have hA : ∀ p ∈ lm, p.1.length ≤ 1000 := fun p hp => hlm0 _ (by rw [← hlm]; exact List.mem_map_of_mem hp)
  have hz1 : ((w0, t0) :: lm ++ [(wl, tl)]).length ≤ 100000 := by simp; omega
  have hz2 : (lm ++ [(wl, tl)]).length ≤ 100000 := by simp; omega
  refine kst_len (k := mid.length + 2) (by assumption) (.head _) hz (by omega) ?_
  k_steps
  refine halt_out (sv_item0 (by assumption) (.tail _ (.head _)) ?_)
  k_steps
  · refine halt_out (sv_del0 (by assumption) (by assumption) hz1 (by k_upd) ?_)
    intro h8 F8 N8
    k_steps
    refine halt_out (sv_last (by assumption) (.tail _ (.head _)) hz2 ?_)
    k_steps
    · have hr : (if Txt.startswith got w0 = true then ellTail got (mid ++ [wl]) w0.length got.length else false) = false := by
        rw [if_pos (by assumption)]; unfold ellTail; rw [if_pos (by omega)]
      rw [hr] at h
      exact h _ _ (frOn F₀ (Fr.keep (by assumption))) (newsOn N₀ (Fr.keep (by assumption)))
    · have hml : (lm ++ [(wl, tl)]).map (·.1) = mid ++ [wl] := by simp [hlm]
      refine halt_out (loopC (σ := Int × Tok) (fun c => [(Str.ofString "startpos", .int c.1 c.2)]) [Str.ofString "startpos"] (fun i c => ellLoop got (got.length) (((lm ++ [(wl, tl)]).map (·.1)).take i) (w0.length) = some c.1) (w0.length, ?t9) rfl (.tail _ (.head _)) (by assumption) (by assumption) ?g1 rfl ?g2 ?g3)
      case g1 => intro p hp; rw [List.mem_singleton.mp hp]; rfl
      case g2 =>
        rintro ⟨sp, ts⟩ i v u h9 tk9 own hv hoff hP F9 N9
        obtain ⟨p, hp, rfl⟩ := sv_get hv
        dsimp only [kstB] at F9
        dsimp only at hP
        have hpl : p.1.length ≤ 1000 := by
          have := List.mem_of_getElem? hp
          (try simp only [List.mem_append, List.mem_cons, List.not_mem_nil, or_false] at this)
          rcases this with hm | rfl <;> first | exact hll | exact hA _ (by assumption)
        k_steps
        · refine retC ?_
          have hb := ell_fail hp hP (by assumption)
          rw [hml] at hb
          have hr : (if Txt.startswith got w0 = true then ellTail got (mid ++ [wl]) w0.length got.length else false) = false := by
            rw [if_pos (by assumption)]
            unfold ellTail
            rw [hb]
            split <;> rfl
          rw [hr] at h
          exact h _ _ (frOn F₀ (Fr.keep (by assumption))) (newsOn N₀ (Fr.keep (by assumption)))
        · refine endC (c := (find4 got p.1 sp (got.length) + p.1.length, ?t8)) (by assumption) (by assumption) (.tail _ (.head _)) ?h1 hoff ?h2 ?h3 ?h4
          case h1 => exact fun p hp => hp
          case h2 => intro p hp; rw [List.mem_singleton.mp hp]; rfl
          case h3 =>
            intro z z1 z2 z3
            have a1 := z2 _ (.head _)
            dsimp only at a1 z1
            simp only [if_neg z1, if_neg a1, z3]
            rfl
          case h4 => exact ell_step hp hP (by assumption)
      case g3 =>
        rintro ⟨sp, ts⟩ u h9 tk9 hP F9 N9
        dsimp only [kstB] at F9
        dsimp only at hP
        rw [sv_length, List.take_of_length_le (by simp), hml] at hP
        k_steps
        have hr : (if Txt.startswith got w0 = true then ellTail got (mid ++ [wl]) w0.length got.length else false) = true := by
          rw [if_pos (by assumption)]
          unfold ellTail
          rw [hP, if_neg (by omega)]
          rfl
        rw [hr] at h
        exact h _ _ (frOn F₀ (Fr.keep (by assumption))) (newsOn N₀ (Fr.keep (by assumption)))
  · have hr : (if Txt.startswith got w0 = true then ellTail got (mid ++ [wl]) w0.length got.length else false) = false := by
      rw [show Txt.startswith got w0 = false by assumption]; rfl
    rw [hr] at h
    exact h _ _ (frOn F₀ (Fr.keep (by assumption))) (newsOn N₀ (Fr.keep (by assumption)))

theorem ell_spec_B {w : World} {mean : ExcName → Option Value} {mg mb : Str → Option Value} {A : Around} {Q E : Value → Shared → Prop} {s : Shared} {h₀ : Heap} {L : Addr} {m : Str → Option Value} {news : List (Addr × Obj)} (F₀ : Fr h₀ L s.heap m) (N₀ : News h₀ L s.heap news) (X₀ : (hd.heap_39 w.params).In h₀) (T₀ : Top hd.view_39 (looseW hd.view_39 [Str.ofString "b2a_base64", Str.ofString "_NO_SEP", Str.ofString "b2a_hex", Str.ofString "hexlify", Str.ofString "b64encode"]) mean mg mb h₀) {want got w0 wl : Str} {mid : List Str} {t1 t2 : Tok} (h0 : A.handled = none) (hD : A.depth ≤ 400) (hU : A.units ≤ 500) (hw : want.length + 2 ≤ sizeLine) (hin : (Builtin.Str.occurrences want dots 0 want.length 1).isEmpty = false) (hmid : mid.length + 2 ≤ 1000) (hg : got.length ≤ 1000) (hl0 : w0.length ≤ 1000) (hll : wl.length ≤ 1000) (hlm0 : ∀ a ∈ mid, a.length ≤ 1000) (hs : Txt.split want dots = w0 :: (mid ++ [wl]))
    (e0 : w0.length = 0) (el : wl.length ≠ 0)
    (h : ∀ h' tk', Fr h₀ L h' m → News h₀ L h' news → Q (.bool (if Txt.endswith got wl = true then ellTail got (w0 :: mid) 0 (got.length - wl.length) else false)) { s with heap := h', toks := tk' }) : wpAny (model PySem.Challenge.rw_mq0109_01.row.prog w) A (call (.ref 28) [.str want t1, .str got t2]) Q E s := by
  refine weaken 400 500 h0 hD hU ?_
  w_top off
  revert X₀; k_fill; intro X₀
  have X := X₀.keeps F₀.keep
  have T := T₀.keeps F₀.keep
  refine' enterP (binds := [("want", .str want t1), ("got", .str got t2)]) X T.nolimit (by decide) (by k_is) (by k_is) (BindsTo.of_eq rfl) (locs rfl) ?_
  intro L' h₁ F N
  (try dsimp only)
  refine halt_in ?_
  k_steps
  rename_i wa t0 tl lm _ _ hlm _ _ F' N'
  clear hs hin
  have hz0 : lm.length = mid.length := by rw [← hlm]; simp
  have hz : (strValues ((w0, t0) :: lm ++ [(wl, tl)])).length = mid.length + 2 := by rw [sv_length]; simp; omega
  have hA : ∀ p ∈ lm, p.1.length ≤ 1000 := fun p hp => hlm0 _ (by rw [← hlm]; exact List.mem_map_of_mem hp)
  have hz1 : ((w0, t0) :: lm ++ [(wl, tl)]).length ≤ 100000 := by simp; omega
  have hz2 : (lm ++ [(wl, tl)]).length ≤ 100000 := by simp; omega
  refine kst_len (k := mid.length + 2) (by assumption) (.head _) hz (by omega) ?_
  k_steps
  refine halt_out (sv_item0 (by assumption) (.tail _ (.head _)) ?_)
  k_steps
  refine halt_out (sv_last (by assumption) (.tail _ (.head _)) hz1 ?_)
  k_steps
  · refine halt_out (sv_delL (by assumption) (by assumption) hz1 (by k_upd) ?_)
    intro h8 F8 N8
    k_steps
    · have hr : (if Txt.endswith got wl = true then ellTail got (w0 :: mid) 0 (got.length - wl.length) else false) = false := by
        rw [if_pos (by assumption)]; unfold ellTail; rw [if_pos (by omega)]
      rw [hr] at h
      exact h _ _ (frOn F₀ (Fr.keep (by assumption))) (newsOn N₀ (Fr.keep (by assumption)))
    · have hml : ((w0, t0) :: lm).map (·.1) = w0 :: mid := by simp [hlm]
      refine halt_out (loopC (σ := Int × Tok) (fun c => [(Str.ofString "startpos", .int c.1 c.2)]) [Str.ofString "startpos"] (fun i c => ellLoop got (got.length - wl.length) ((((w0, t0) :: lm).map (·.1)).take i) (0) = some c.1) (0, ?t9) rfl (.tail _ (.head _)) (by assumption) (by assumption) ?g1 rfl ?g2 ?g3)
      case g1 => intro p hp; rw [List.mem_singleton.mp hp]; rfl
      case g2 =>
        rintro ⟨sp, ts⟩ i v u h9 tk9 own hv hoff hP F9 N9
        obtain ⟨p, hp, rfl⟩ := sv_get hv
        dsimp only [kstB] at F9
        dsimp only at hP
        have hpl : p.1.length ≤ 1000 := by
          have := List.mem_of_getElem? hp
          (try simp only [List.mem_append, List.mem_cons, List.not_mem_nil, or_false] at this)
          rcases this with rfl | hm <;> first | exact hl0 | exact hA _ (by assumption)
        k_steps
        · refine retC ?_
          have hb := ell_fail hp hP (by assumption)
          rw [hml] at hb
          have hr : (if Txt.endswith got wl = true then ellTail got (w0 :: mid) 0 (got.length - wl.length) else false) = false := by
            rw [if_pos (by assumption)]
            unfold ellTail
            rw [hb]
            split <;> rfl
          rw [hr] at h
          exact h _ _ (frOn F₀ (Fr.keep (by assumption))) (newsOn N₀ (Fr.keep (by assumption)))
        · refine endC (c := (find4 got p.1 sp (got.length - wl.length) + p.1.length, ?t8)) (by assumption) (by assumption) (.tail _ (.head _)) ?h1 hoff ?h2 ?h3 ?h4
          case h1 => exact fun p hp => hp
          case h2 => intro p hp; rw [List.mem_singleton.mp hp]; rfl
          case h3 =>
            intro z z1 z2 z3
            have a1 := z2 _ (.head _)
            dsimp only at a1 z1
            simp only [if_neg z1, if_neg a1, z3]
            rfl
          case h4 => exact ell_step hp hP (by assumption)
      case g3 =>
        rintro ⟨sp, ts⟩ u h9 tk9 hP F9 N9
        dsimp only [kstB] at F9
        dsimp only at hP
        rw [sv_length, List.take_of_length_le (by simp), hml] at hP
        k_steps
        have hr : (if Txt.endswith got wl = true then ellTail got (w0 :: mid) 0 (got.length - wl.length) else false) = true := by
          rw [if_pos (by assumption)]
          unfold ellTail
          rw [hP, if_neg (by omega)]
          rfl
        rw [hr] at h
        exact h _ _ (frOn F₀ (Fr.keep (by assumption))) (newsOn N₀ (Fr.keep (by assumption)))
  · have hr : (if Txt.endswith got wl = true then ellTail got (w0 :: mid) 0 (got.length - wl.length) else false) = false := by
      rw [show Txt.endswith got wl = false by assumption]; rfl
    rw [hr] at h
    exact h _ _ (frOn F₀ (Fr.keep (by assumption))) (newsOn N₀ (Fr.keep (by assumption)))

theorem ell_spec_D {w : World} {mean : ExcName → Option Value} {mg mb : Str → Option Value} {A : Around} {Q E : Value → Shared → Prop} {s : Shared} {h₀ : Heap} {L : Addr} {m : Str → Option Value} {news : List (Addr × Obj)} (F₀ : Fr h₀ L s.heap m) (N₀ : News h₀ L s.heap news) (X₀ : (hd.heap_39 w.params).In h₀) (T₀ : Top hd.view_39 (looseW hd.view_39 [Str.ofString "b2a_base64", Str.ofString "_NO_SEP", Str.ofString "b2a_hex", Str.ofString "hexlify", Str.ofString "b64encode"]) mean mg mb h₀) {want got w0 wl : Str} {mid : List Str} {t1 t2 : Tok} (h0 : A.handled = none) (hD : A.depth ≤ 400) (hU : A.units ≤ 500) (hw : want.length + 2 ≤ sizeLine) (hin : (Builtin.Str.occurrences want dots 0 want.length 1).isEmpty = false) (hmid : mid.length + 2 ≤ 1000) (hg : got.length ≤ 1000) (hl0 : w0.length ≤ 1000) (hll : wl.length ≤ 1000) (hlm0 : ∀ a ∈ mid, a.length ≤ 1000) (hs : Txt.split want dots = w0 :: (mid ++ [wl]))
    (e0 : w0.length ≠ 0) (el : wl.length ≠ 0)
    (h : ∀ h' tk', Fr h₀ L h' m → News h₀ L h' news → Q (.bool (if Txt.startswith got w0 = true then (if Txt.endswith got wl = true then ellTail got mid w0.length (got.length - wl.length) else false) else false)) { s with heap := h', toks := tk' }) : wpAny (model PySem.Challenge.rw_mq0109_01.row.prog w) A (call (.ref 28) [.str want t1, .str got t2]) Q E s := by
  refine weaken 400 500 h0 hD hU ?_
  w_top off
  revert X₀; k_fill; intro X₀
  have X := X₀.keeps F₀.keep
  have T := T₀.keeps F₀.keep
  refine' enterP (binds := [("want", .str want t1), ("got", .str got t2)]) X T.nolimit (by decide) (by k_is) (by k_is) (BindsTo.of_eq rfl) (locs rfl) ?_
  intro L' h₁ F N
  (try dsimp only)
  refine halt_in ?_
  k_steps
  rename_i wa t0 tl lm _ _ hlm _ _ F' N'
  clear hs hin
  have hz0 : lm.length = mid.length := by rw [← hlm]; simp
  have hz : (strValues ((w0, t0) :: lm ++ [(wl, tl)])).length = mid.length + 2 := by rw [sv_length]; simp; omega
  have hA : ∀ p ∈ lm, p.1.length ≤ 1000 := fun p hp => hlm0 _ (by rw [← hlm]; exact List.mem_map_of_mem hp)
  have hz1 : ((w0, t0) :: lm ++ [(wl, tl)]).length ≤ 100000 := by simp; omega
  have hz2 : (lm ++ [(wl, tl)]).length ≤ 100000 := by simp; omega
  refine kst_len (k := mid.length + 2) (by assumption) (.head _) hz (by omega) ?_
  k_steps
  refine halt_out (sv_item0 (by assumption) (.tail _ (.head _)) ?_)
  k_steps
  · refine halt_out (sv_del0 (by assumption) (by assumption) hz1 (by k_upd) ?_)
    intro h8 F8 N8
    k_steps
    refine halt_out (sv_last (by assumption) (.tail _ (.head _)) hz2 ?_)
    k_steps
    · refine halt_out (sv_delL (by assumption) (by assumption) hz2 (by k_upd) ?_)
      intro h8 F8 N8
      k_steps
      · have hr : (if Txt.startswith got w0 = true then (if Txt.endswith got wl = true then ellTail got mid w0.length (got.length - wl.length) else false) else false) = false := by
          rw [if_pos (by assumption)]; rw [if_pos (by assumption)]; unfold ellTail; rw [if_pos (by omega)]
        rw [hr] at h
        exact h _ _ (frOn F₀ (Fr.keep (by assumption))) (newsOn N₀ (Fr.keep (by assumption)))
      · have hml : (lm).map (·.1) = mid := by simp [hlm]
        refine halt_out (loopC (σ := Int × Tok) (fun c => [(Str.ofString "startpos", .int c.1 c.2)]) [Str.ofString "startpos"] (fun i c => ellLoop got (got.length - wl.length) (((lm).map (·.1)).take i) (w0.length) = some c.1) (w0.length, ?t9) rfl (.tail _ (.head _)) (by assumption) (by assumption) ?g1 rfl ?g2 ?g3)
        case g1 => intro p hp; rw [List.mem_singleton.mp hp]; rfl
        case g2 =>
          rintro ⟨sp, ts⟩ i v u h9 tk9 own hv hoff hP F9 N9
          obtain ⟨p, hp, rfl⟩ := sv_get hv
          dsimp only [kstB] at F9
          dsimp only at hP
          have hpl : p.1.length ≤ 1000 := by
            have := List.mem_of_getElem? hp
            (try simp only [List.mem_append, List.mem_cons, List.not_mem_nil, or_false] at this)
            exact hA _ this
          k_steps
          · refine retC ?_
            have hb := ell_fail hp hP (by assumption)
            rw [hml] at hb
            have hr : (if Txt.startswith got w0 = true then (if Txt.endswith got wl = true then ellTail got mid w0.length (got.length - wl.length) else false) else false) = false := by
              rw [if_pos (by assumption)]; rw [if_pos (by assumption)]
              unfold ellTail
              rw [hb]
              split <;> rfl
            rw [hr] at h
            exact h _ _ (frOn F₀ (Fr.keep (by assumption))) (newsOn N₀ (Fr.keep (by assumption)))
          · refine endC (c := (find4 got p.1 sp (got.length - wl.length) + p.1.length, ?t8)) (by assumption) (by assumption) (.tail _ (.head _)) ?h1 hoff ?h2 ?h3 ?h4
            case h1 => exact fun p hp => hp
            case h2 => intro p hp; rw [List.mem_singleton.mp hp]; rfl
            case h3 =>
              intro z z1 z2 z3
              have a1 := z2 _ (.head _)
              dsimp only at a1 z1
              simp only [if_neg z1, if_neg a1, z3]
              rfl
            case h4 => exact ell_step hp hP (by assumption)
        case g3 =>
          rintro ⟨sp, ts⟩ u h9 tk9 hP F9 N9
          dsimp only [kstB] at F9
          dsimp only at hP
          rw [sv_length, List.take_of_length_le (by simp), hml] at hP
          k_steps
          have hr : (if Txt.startswith got w0 = true then (if Txt.endswith got wl = true then ellTail got mid w0.length (got.length - wl.length) else false) else false) = true := by
            rw [if_pos (by assumption)]; rw [if_pos (by assumption)]
            unfold ellTail
            rw [hP, if_neg (by omega)]
            rfl
          rw [hr] at h
          exact h _ _ (frOn F₀ (Fr.keep (by assumption))) (newsOn N₀ (Fr.keep (by assumption)))
    · have hr : (if Txt.startswith got w0 = true then (if Txt.endswith got wl = true then ellTail got mid w0.length (got.length - wl.length) else false) else false) = false := by
        rw [if_pos (by assumption)]; rw [show Txt.endswith got wl = false by assumption]; rfl
      rw [hr] at h
      exact h _ _ (frOn F₀ (Fr.keep (by assumption))) (newsOn N₀ (Fr.keep (by assumption)))
  · have hr : (if Txt.startswith got w0 = true then (if Txt.endswith got wl = true then ellTail got mid w0.length (got.length - wl.length) else false) else false) = false := by
      rw [show Txt.startswith got w0 = false by assumption]; rfl
    rw [hr] at h
    exact h _ _ (frOn F₀ (Fr.keep (by assumption))) (newsOn N₀ (Fr.keep (by assumption)))
end Mine

namespace Mine
theorem enterC {prog : Program} {w : World} {A : Around} {E : Value → Shared → Prop} {s : Shared} {K : Frag} {Q : Value → Shared → Prop}
    {name qual : Str} {params : Arguments} {body : List Stmt} {scope : Scope} {dV kV doc pm cdv ct oc : Value} {an od : Option Addr} {osl : Array (Option Value)} {f : Addr} {pos : List Value} {kw : List (Str × Value)} {binds : List (Str × Value)}
    (X : K.In s.heap) (hlim : s.heap.NoLimit) (hroom : A.depth < recursionLimit)
    (ho : K.lookup f = some ⟨oc, od, .func (fnOf name qual params body scope dV kV doc pm an cdv ct), osl⟩) (hcd : codeIn K cdv qual = true)
    (hbind : BindsTo s (fnOf name qual params body scope dV kV doc pm an cdv ct) ⟨pos, kw⟩ binds)
    (hkind : (binds.all fun y => scope.names.lookup y.1 == some .local || scope.names.lookup y.1 == some .cell) = true)
    (hnd : ((cellsFrom 0 scope.names []).map (·.1)).Nodup)
    (h : ∀ L' h₁ tk cells, Fr s.heap L' h₁ (bindL (envOfC qual scope L' f cdv).kindOf binds fun _ => none) → News s.heap L' h₁ cells →
      CellsAre (bindC (envOfC qual scope L' f cdv).kindOf binds fun _ => none) (cellsFrom (L' + 1) scope.names []) cells →
      wpAny (model prog w) (A.deeper (envOfC qual scope L' f cdv)) (execs body (envOfC qual scope L' f cdv))
        (fun fl s' => Q (match fl with | .ret v => v | _ => .none) s') (fun _ _ => False)
        { s with heap := h₁, toks := tk })
    (hco : scope.isCoroutine = false := by rfl) (hgen : scope.isGenerator = false := by rfl) (hk : scope.kind = .function := by rfl) : wpAny (model prog w) A (call (.ref f) pos kw) Q E s := by
  refine wpAny_call (codeAny_call_function hroom (X _ _ ho) rfl hco hgen rfl (codeRec_of X hcd) (hbind _ _ _ _ ?_))
  refine wpAny_newFunctionEnv_cells hk (kindsX hkind _) fun env' he s' x => ?_
  subst he
  refine ⟨hlim.keeps x.toInCall.keep, codeAny_func ?_⟩
  obtain ⟨h₁, tk, rfl, _⟩ := x.done
  have nd : ((cellsFrom (s.heap.objs.size + 1) scope.names []).map (·.1)).Nodup := cellsFrom_names scope.names 0 (s.heap.objs.size + 1) [] [] rfl ▸ hnd
  obtain ⟨cells, NC, Y⟩ := Cl.news (h₀ := s.heap) (Nat.le_refl _) fun n c hm => ⟨x.cell n c (lookup_of_mem_nodup nd hm), x.above n c hm⟩
  exact wpAny_mono (h _ h₁ tk cells ⟨x.toInCall.ns, fun b o e => x.toInCall.keep b o e, Nat.le_refl _⟩ NC Y) (fun fl s' hl => hl) fun _ _ y => y.elim

/-- what holds between two turns, where the loop's own name is no plain local -/
def KT {σ : Type} (Led : σ → List (Addr × Obj)) (ps : σ → List (Str × Value)) (stored : List Str) (m₀ : Str → Option Value) (P : Nat → σ → Prop) (i : Nat) (m : Str → Option Value) (nx : List (Addr × Obj)) : Prop :=
  ∃ c : σ, nx = Led c ∧ (∀ p ∈ ps c, m p.1 = some p.2) ∧ (∀ z, (∀ p ∈ ps c, z ≠ p.1) → stored.contains z = false → m z = m₀ z) ∧ P i c
theorem fr_norm {h₀ h : Heap} {L : Addr} {m₁ m₀ : Str → Option Value} {ps : List (Str × Value)} {stored : List Str} (h1 : ∀ p ∈ ps, m₁ p.1 = some p.2) (h2 : ∀ z, (∀ p ∈ ps, z ≠ p.1) → stored.contains z = false → m₁ z = m₀ z) (F : Fr h₀ L h m₁) :
    Fr h₀ L h (kstB (fun z => if stored.contains z then m₁ z else m₀ z) ps) := by
  have e : kstB (fun z => if stored.contains z then m₁ z else m₀ z) ps = m₁ := by
    funext z
    refine kstB_eq h1 fun hz => ?_
    cases hc : stored.contains z with
    | true => simp
    | false => simp only [Bool.false_eq_true, if_false]; exact (h2 z hz hc).symm
  rw [e]; exact F
section
variable {prog : Program} {w : World} {A : Around} {E : Value → Shared → Prop} {s : Shared} {env : Env} {h₀ : Heap} {target : Expr} {body : List Stmt} {Q : Flow → Shared → Prop}
/-- a for over a list that stood ahead of the call; any target -/
theorem turnsB {σ : Type} {l : Addr} {vs : List Value} {m₀ : Str → Option Value} (Led : σ → List (Addr × Obj)) (ps : σ → List (Str × Value)) (stored : List Str) (P : Nat → σ → Prop) (c₀ : σ)
    (hh : A.handled = none) (hl : h₀.IsList l vs.toArray) (F : Fr h₀ env.locals s.heap m₀) (N : News h₀ env.locals s.heap (Led c₀)) (hk : ∀ p ∈ ps c₀, m₀ p.1 = some p.2) (hp : P 0 c₀)
    (hgo : ∀ v I, letOwnedTupleGo target (.ref I) v = pure ())
    (turn : ∀ (c : σ) i v (u : Str → Option Value) h tk own, vs[i]? = some v → OwnOff own ((Led c).map (·.1)) → P i c →
      Fr h₀ env.locals h (kstB (fun z => if stored.contains z then u z else m₀ z) (ps c)) → News h₀ env.locals h (Led c ++ own) →
      wpAny (model prog w) A (assign target env v) (fun _ s₃ => wpAny (model prog w) A (execs body env) (fun f s₂ => Halt (InvPostG h₀ env.locals (KT Led ps stored m₀ P (i + 1)) own { s with heap := h, toks := tk } Q f s₂)) E s₃) E { s with heap := h, toks := tk })
    (done : ∀ (c : σ) (u : Str → Option Value) h tk, P vs.length c → Fr h₀ env.locals h (kstB (fun z => if stored.contains z then u z else m₀ z) (ps c)) → News h₀ env.locals h (Led c) → Q .next { s with heap := h, toks := tk }) :
    wpAny (model prog w) A (pyIter (.ref l)) (fun it s₂ => TurnsAt prog w A h₀ env target body Q E it s₂) E s := by
  have hls : s.heap.IsList l vs.toArray := hl.at fun o e => F.keep l o e
  obtain ⟨ol, hol, _⟩ := id hl
  have hlt : l < h₀.objs.size := Heap.lt_size hol
  have hne : l ≠ s.heap.objs.size := Nat.ne_of_lt (Nat.lt_trans (Nat.lt_of_lt_of_le hlt F.above) F.ns.lt)
  refine wpAny_pyIter_list hls ?_
  have W := KTurns.ofWalks (target := target) (Walks.list (prog := prog) (w := w) hh s.heap.objs.size l hne vs.toArray) fun _ v _ _ _ _ hQ => by rw [hgo]; exact wpAny_pure hQ
  refine ⟨_, _, _, _, _, _, _, m₀, Led c₀, KT Led ps stored m₀ P, rfl, W, ?_, ?_, ?_, ⟨⟨_, Heap.get?_push_size _ rfl, rfl, rfl⟩, hls.at fun o e => Heap.get?_push_of_some _ e⟩, F.push _, (fun p hp => ⟨Heap.get?_push_of_some _ (N p hp).1, (N p hp).2⟩), ⟨c₀, rfl, hk, fun _ _ _ => rfl, hp⟩, ?_, ?_⟩
  · intro hm
    rcases List.mem_cons.mp hm with e | hm
    · exact absurd F.ns.lt (e ▸ Nat.lt_irrefl _)
    · exact absurd (Nat.lt_of_lt_of_le hlt F.above) ((List.mem_singleton.mp hm) ▸ Nat.lt_irrefl _)
  · intro b hb
    rw [List.mem_singleton.mp hb]
    exact next_is_new F
  · intro p hp hI
    exact absurd (Heap.lt_size (N p hp).1) ((List.mem_singleton.mp hI) ▸ Nat.lt_irrefl _)
  · rintro i v m₁ news₁ h₁ tk₁ own _ hP ⟨c, rfl, h1, h2, hp'⟩ hoff hown _ hfp hst F₁ N₁
    have hI0 : h₀.get? s.heap.objs.size = none := next_is_new F
    obtain ⟨⟨oI, hoI, _⟩, _⟩ := id hst
    have hIown : (s.heap.objs.size, oI) ∈ own := hfp _ (List.mem_cons.mpr (.inl rfl)) hI0 _ hoI
    have hsep : OwnOff own ((Led c).map (·.1)) := by
      intro p hp b hb e
      obtain ⟨q, hq, rfl⟩ := List.mem_map.mp hb
      rcases List.mem_cons.mp (hown p hp) with h3 | h3
      · exact hoff q hq (List.mem_singleton.mpr (e ▸ h3))
      · have h4 := List.mem_singleton.mp h3
        have h5 := (N₁ q (List.mem_append.mpr (.inr hq))).2.2
        rw [← e, h4, hol] at h5
        cases h5
    have N₂ : News h₀ env.locals h₁ (Led c ++ own) := fun p hp => N₁ p ((List.mem_append.mp hp).elim (fun h => List.mem_append.mpr (.inr h)) fun h => List.mem_append.mpr (.inl h))
    refine wpAny_mono (turn c i v m₁ h₁ tk₁ own (by simpa using hP) hsep hp' (fr_norm h1 h2 F₁) N₂) (fun _ s₃ z => wpAny_mono z (fun f s₂ p => ?_) fun _ _ e => e) fun _ _ e => e
    have fin : InvEndG h₀ env.locals (KT Led ps stored m₀ P (i + 1)) own { s with heap := h₁, toks := tk₁ } s₂ → LoopStepU h₀ env.locals [s.heap.objs.size] own (KT Led ps stored m₀ P (i + 1)) { s with heap := h₁, toks := tk₁ } .next s₂ := by
      rintro ⟨h', tk, m', news', nx, e, F', N', hn, ho, ha, hm⟩
      refine ⟨rfl, h', tk, m', nx, e, F', fun p hp => N' p ((List.mem_append.mp hp).elim (ho p) (hn p)), fun p hp hq => ?_, hm⟩
      exact ha _ hIown p.1 (List.mem_map.mpr ⟨p, hp, rfl⟩) (List.mem_singleton.mp hq).symm
    cases f with
    | ret v => exact .ret p
    | brk => exact .brk p
    | next => exact .next (fin p)
    | cont => exact .cont (fin p)
  · rintro h' tk m' news' F' N' _ ⟨c, rfl, h1, h2, hp'⟩
    exact done c m' h' tk (by simpa using hp') (fr_norm h1 h2 F') N'
end
theorem endT {σ : Type} {h₀ h' : Heap} {L : Addr} {m' m₀ : Str → Option Value} {news' own : List (Addr × Obj)} {s₁ : Shared} {tk : Nat} {Led : σ → List (Addr × Obj)} {ps : σ → List (Str × Value)} {stored : List Str} {P : Nat → σ → Prop} {i : Nat} {Q : Flow → Shared → Prop}
    (c : σ) (F : Fr h₀ L h' m') (N : News h₀ L h' news') (hnx : ∀ p ∈ Led c, p ∈ news') (hown : ∀ p ∈ own, p ∈ news') (hoff : OwnOff own ((Led c).map (·.1))) (hps : ∀ p ∈ ps c, m' p.1 = some p.2)
    (hrest : ∀ z, (∀ p ∈ ps c, z ≠ p.1) → stored.contains z = false → m' z = m₀ z) (hP : P i c) :
    Halt (InvPostG h₀ L (KT Led ps stored m₀ P i) own s₁ Q .next { s₁ with heap := h', toks := tk }) :=
  ⟨h', tk, m', news', Led c, rfl, F, N, hnx, hown, hoff, c, rfl, hps, hrest, hP⟩

theorem truthy_cons {prog : Program} {w : World} {A : Around} {E : Value → Shared → Prop} {s : Shared} {l : Addr} {v : Value} {vs : List Value} {Q : Bool → Shared → Prop} (hl : s.heap.IsList l (v :: vs).toArray) (hz : (v :: vs).length ≤ 100000)
    (h : Q true { s with toks := s.toks + 1 + 1 }) : wpAny (model prog w) A (truthy (.ref l)) Q E s := by
  refine wpAny_truthy_list hl ?_ ?_
  · rw [List.size_toArray]; omega
  · have e : (!(v :: vs).toArray.isEmpty) = true := by simp
    rw [e]; exact h
theorem ints_of_items {f : Nat → Int} : ∀ {n : Nat} {vs : List Value}, vs.length = n → (∀ (j : Nat) (v : Value), vs[j]? = some v → ∃ t, v = Value.int (f j) t) → IntsAre vs ((_root_.List.range n).map f) := by
  intro n
  induction n generalizing f with
  | zero => intro vs h _; rw [List.eq_nil_of_length_eq_zero h]; exact IntsAre.nil
  | succ n ih =>
    intro vs h hv
    cases vs with
    | nil => cases h
    | cons v vs =>
      obtain ⟨t, rfl⟩ := hv 0 v (by simp)
      rw [List.range_succ_eq_map, List.map_cons, List.map_map]
      exact IntsAre.cons _ _ (ih (f := f ∘ Nat.succ) (by simpa using h) fun j v hj => hv (j + 1) v (by simpa using hj))
theorem list_range_K {prog : Program} {w : World} {A : Around} {E : Value → Shared → Prop} {s : Shared} {h₀ : Heap} {L r : Addr} {m : Str → Option Value} {news : List (Addr × Obj)} {a b c : Int} {t u v : Tok} {n : Nat} {Q : Value → Shared → Prop}
    (hh : A.handled = none) (F : Fr h₀ L s.heap m) (N : News h₀ L s.heap news) (hr : IsRange s.heap r a b c t u v) (hsm : Builtin.Range.small a b c = true) (hn : Builtin.Range.rangeSize a b c = n) (hlen : n ≤ 2 ^ 24)
    (h : ∀ la vs nn h' tk, Fr h₀ L h' m → News h₀ L h' ((la, listOf vs.toArray nn) :: news) → (∀ p ∈ news, p.1 < la) → IntsAre vs ((_root_.List.range n).map fun (i : Nat) => a + (i : Int) * c) → Q (.ref la) { s with heap := h', toks := tk }) :
    wpAny (model prog w) A (call (.type "list") [.ref r]) Q E s := by
  refine call_list_range hh hr hsm hn hlen fun h' tk acc c' hk hl hacc => ?_
  obtain ⟨vs⟩ := acc
  have hnone : s.heap.get? s.heap.objs.size = none := by
    cases q : s.heap.get? s.heap.objs.size with
    | none => rfl
    | some o => exact absurd (Heap.lt_size q) (Nat.lt_irrefl _)
  refine h s.heap.objs.size vs c' h' tk (frOn F hk) (newsNew F N hk hl hnone) (fun p hp => Heap.lt_size (N p hp).1) (ints_of_items (f := fun i => a + (i : Int) * c) (by simpa using hacc.1) fun j v hj => hacc.2 j v (by simpa using hj))

theorem rangeSize_pos {a b c : Int} (hc : 1 ≤ c) (hab : a < b) : Builtin.Range.rangeSize a b c = (b - a - 1) / c + 1 := by
  unfold Builtin.Range.rangeSize
  rw [if_pos (by omega), if_pos hab]
theorem rangeSize_none {a b c : Int} (hc : 1 ≤ c) (hab : b ≤ a) : Builtin.Range.rangeSize a b c = 0 := by
  unfold Builtin.Range.rangeSize
  rw [if_pos (by omega), if_neg (by omega)]
theorem rangeSize_bound {a b c : Int} (hc : 1 ≤ c) (ha : 0 ≤ a) (hb : 0 ≤ b) : 0 ≤ Builtin.Range.rangeSize a b c ∧ Builtin.Range.rangeSize a b c ≤ b := by
  by_cases hab : a < b
  · rw [rangeSize_pos hc hab]
    have h1 : (b - a - 1) / c ≤ b - a - 1 := Int.ediv_le_self _ (by omega)
    have h2 : 0 ≤ (b - a - 1) / c := Int.ediv_nonneg (by omega) (by omega)
    omega
  · rw [rangeSize_none hc (by omega)]; omega
theorem small_ok {a b c : Int} (ha : 0 ≤ a) (ha2 : a ≤ 1000000) (hb : 0 ≤ b) (hb2 : b ≤ 1000000) (hc : 1 ≤ c) (hc2 : c ≤ 1000000) : Builtin.Range.small a b c = true := by
  have h := rangeSize_bound hc ha hb
  unfold Builtin.Range.small Builtin.Range.rangeFitsLong
  rw [if_pos (by omega)]
  simp only [Bool.and_eq_true, Bool.or_eq_true, decide_eq_true_eq]
  refine ⟨⟨⟨⟨?_, ?_⟩, ?_⟩, ?_⟩, .inr ?_⟩ <;> omega
theorem range3_K {prog : Program} {w : World} {A : Around} {E : Value → Shared → Prop} {s : Shared} {h₀ : Heap} {L : Addr} {m : Str → Option Value} {news : List (Addr × Obj)} {a b c : Int} {t u v : Tok} {Q : Value → Shared → Prop}
    (F : Fr h₀ L s.heap m) (N : News h₀ L s.heap news) (ha : 0 ≤ a) (ha2 : a ≤ 1000000) (hb : 0 ≤ b) (hb2 : b ≤ 1000000) (hc : 1 ≤ c) (hc2 : c ≤ 1000000)
    (h : ∀ r h' tk t₁ u₁ v₁, IsRange h' r a b c t₁ u₁ v₁ → Fr h₀ L h' m → News h₀ L h' news → Q (.ref r) { s with heap := h', toks := tk }) :
    wpAny (model prog w) A (call (.type "range") [.int a t, .int b u, .int c v]) Q E s :=
  range3_rows F N (by omega) (fun h' tk t₁ u₁ v₁ hr F' N' _ => h _ h' tk t₁ u₁ v₁ hr F' N') (.inl (PyProof.noPylong_small (by omega)))
end Mine

namespace Mine
/-- one part more -/
def fitStep (ws ps : List Int) (half : Int) (ends : List Int) (part : Int) : List Int :=
  if part < 0 then (if ends = [] then [] else ((_root_.List.range (Builtin.Range.rangeSize (ends.headD 0) ((ws.length : Int) + 11 + 1) half).toNat).map fun (i : Nat) => ends.headD 0 + (i : Int) * half))
  else (ends.filter fun e => decide (e < (ws.length : Int)) && decide (ws.getD e.toNat 0 = ps.getD part.toNat 0)).map (· + 12)
def fitEnds (ws ps : List Int) (half : Int) (qs : List Int) : List Int := qs.foldl (fitStep ws ps half) [0]
def fitG (ws ps : List Int) (q : Int) (l : List Int) (e : Int) : List Int := if (decide (e < (ws.length : Int)) && decide (ws.getD e.toNat 0 = ps.getD q.toNat 0)) = true then l ++ [e + 12] else l
theorem fitG_pos {ws ps l : List Int} {q e : Int} (h1 : e < (ws.length : Int)) (h2 : ws.getD e.toNat 0 = ps.getD q.toNat 0) : fitG ws ps q l e = l ++ [e + 12] := by
  unfold fitG; rw [decide_eq_true h1, decide_eq_true h2]; rfl
theorem fitG_neg1 {ws ps l : List Int} {q e : Int} (h1 : ¬ e < (ws.length : Int)) : fitG ws ps q l e = l := by
  unfold fitG; rw [decide_eq_false h1]; rfl
theorem fitG_neg2 {ws ps l : List Int} {q e : Int} (h2 : ¬ ws.getD e.toNat 0 = ps.getD q.toNat 0) : fitG ws ps q l e = l := by
  unfold fitG; rw [decide_eq_false h2, Bool.and_false]; rfl
theorem fitG_fold (ws ps : List Int) (q : Int) : ∀ (es acc : List Int), es.foldl (fitG ws ps q) acc = acc ++ (es.filter fun e => decide (e < (ws.length : Int)) && decide (ws.getD e.toNat 0 = ps.getD q.toNat 0)).map (· + 12)
  | [], acc => by simp
  | e :: es, acc => by
    rw [List.foldl_cons, fitG_fold ws ps q es, List.filter_cons]
    unfold fitG
    split
    · rw [List.map_cons]; simp
    · rfl
theorem fitEnds_snoc (ws ps : List Int) (half : Int) (qs : List Int) (q : Int) : fitEnds ws ps half (qs ++ [q]) = fitStep ws ps half (fitEnds ws ps half qs) q := by simp [fitEnds]
theorem fitEnds_facts {ws ps : List Int} {half : Int} (hh : 1 ≤ half) (qs : List Int) : (∀ e ∈ fitEnds ws ps half qs, 0 ≤ e ∧ e ≤ (ws.length : Int) + 11) ∧ (fitEnds ws ps half qs).length ≤ ws.length + 12 := by
  induction qs using snoc_ind with
  | h0 => simp [fitEnds]; omega
  | h1 qs q ih =>
    rw [fitEnds_snoc]
    obtain ⟨h1, h2⟩ := ih
    generalize fitEnds ws ps half qs = es at h1 h2
    unfold fitStep
    split
    · split
      · simp
      · rename_i hne
        obtain ⟨e0, er, rfl⟩ := List.exists_cons_of_ne_nil hne
        have b0 := h1 e0 (.head _)
        simp only [List.headD_cons]
        have hr := rangeSize_pos (a := e0) (b := (ws.length : Int) + 11 + 1) hh (by omega)
        have hd : 0 ≤ ((ws.length : Int) + 11 + 1 - e0 - 1) / half := Int.ediv_nonneg (by omega) (by omega)
        have hm : ((ws.length : Int) + 11 + 1 - e0 - 1) / half * half ≤ (ws.length : Int) + 11 + 1 - e0 - 1 := Int.ediv_mul_le _ (by omega)
        have hs : ((ws.length : Int) + 11 + 1 - e0 - 1) / half ≤ (ws.length : Int) + 11 + 1 - e0 - 1 := Int.ediv_le_self _ (by omega)
        refine ⟨?_, ?_⟩
        · intro e he
          obtain ⟨i, hi, rfl⟩ := List.mem_map.mp he
          have hi := List.mem_range.mp hi
          rw [hr] at hi
          have h3 : (i : Int) ≤ ((ws.length : Int) + 11 + 1 - e0 - 1) / half := by omega
          have h4 : (i : Int) * half ≤ ((ws.length : Int) + 11 + 1 - e0 - 1) / half * half := Int.mul_le_mul_of_nonneg_right h3 (by omega)
          have h5 : 0 ≤ (i : Int) * half := Int.mul_nonneg (by omega) (by omega)
          omega
        · rw [List.length_map, List.length_range, hr]; omega
    · refine ⟨?_, ?_⟩
      · intro e he
        obtain ⟨x, hx, rfl⟩ := List.mem_map.mp he
        have hx := List.mem_filter.mp hx
        have := h1 x hx.1
        have h3 := hx.2
        simp only [Bool.and_eq_true, decide_eq_true_eq] at h3
        omega
      · rw [List.length_map]
        exact Nat.le_trans (List.length_filter_le _ _) h2
theorem off1_ne {D : Addr} {news : List (Addr × Obj)} (h : LCg.Off1 D news) : ∀ p ∈ news, p.1 ≠ D := by
  induction news with
  | nil => intro p hp; cases hp
  | cons q r ih =>
    intro p hp
    have h1 : q.1 ≠ D := h.1
    have h2 : LCg.Off1 D r := h.2
    rcases List.mem_cons.mp hp with e | hp
    · rw [e]; exact h1
    · exact ih h2 p hp
theorem offNew' {own : List (Addr × Obj)} {ea b c d la : Addr} (h : OwnOff own [ea, b, c, d]) (hl : ∀ p ∈ own, p.1 ≠ la) : OwnOff own [la, b, c, d] := by
  intro p hp x hx
  rcases List.mem_cons.mp hx with rfl | hx
  · exact hl p hp
  · exact h p hp x (.tail _ hx)
theorem offNew {own : List (Addr × Obj)} {ea b c d la : Addr} (h : OwnOff own [ea, b, c, d]) (hl : ∀ p ∈ own, p.1 < la) : OwnOff own [la, b, c, d] := by
  intro p hp x hx
  rcases List.mem_cons.mp hx with rfl | hx
  · exact Nat.ne_of_lt (hl p hp)
  · exact h p hp x (.tail _ hx)
local macro_rules | `(tactic| walk_at "compareOp In int ref") => `(tactic| refine halt_mk ?_)
local macro_rules | `(tactic| walk_at "call type:list") => `(tactic| refine halt_mk ?_)
local macro_rules | `(tactic| walk_at "call type:range") => `(tactic| refine halt_mk ?_)
local macro_rules | `(tactic| walk_at "pyIter ref") => `(tactic| refine halt_mk ?_)
local macro_rules | `(tactic| walk_at "CompSrcT") => `(tactic| refine halt_mk ?_)
theorem fits_spec {w : World} {mean : ExcName → Option Value} {mg mb : Str → Option Value} {A : Around} {Q E : Value → Shared → Prop} {s : Shared} {h₀ : Heap} {L : Addr} {m : Str → Option Value} {news : List (Addr × Obj)} (F₀ : Fr h₀ L s.heap m) (N₀ : News h₀ L s.heap news) (X₀ : (hd.heap_39 w.params).In h₀) (T₀ : Top hd.view_39 (looseW hd.view_39 [Str.ofString "b2a_base64", Str.ofString "_NO_SEP", Str.ofString "b2a_hex", Str.ofString "hexlify", Str.ofString "b64encode"]) mean mg mb h₀) {wa pa qa : Addr} {wv pv qv : List Value} {ws ps qs : List Int} {half : Int} {t : Tok} (h0 : A.handled = none) (hD : A.depth ≤ 400) (hU : A.units ≤ 500)
    (hw : s.heap.IsList wa wv.toArray) (iw : IntsAre wv ws) (hp : s.heap.IsList pa pv.toArray) (ip : IntsAre pv ps) (hq : s.heap.IsList qa qv.toArray) (iq : IntsAre qv qs)
    (lw : ws.length ≤ 1000) (lp : ps.length ≤ 1000) (lq : qs.length ≤ 1000) (hh : 1 ≤ half) (hh2 : half ≤ 1000) (hqp : ∀ q ∈ qs, q < (ps.length : Int))
    (h : ∀ h' tk', Fr h₀ L h' m → News h₀ L h' news → Q (.bool ((fitEnds ws ps half qs).any (· == (ws.length : Int) + 11))) { s with heap := h', toks := tk' }) : wpAny (model PySem.Challenge.rw_mq0109_01.row.prog w) A (call (.ref 103) [.ref wa, .ref pa, .ref qa, .int (2 * half) t]) Q E s := by
  refine weaken 400 500 h0 hD hU ?_
  w_top off
  revert X₀; k_fill; intro X₀
  have X := X₀.keeps F₀.keep
  have T := T₀.keeps F₀.keep
  refine' enterC (binds := [("windows", .ref wa), ("pieces", .ref pa), ("parts", .ref qa), ("step", .int (2 * half) t)]) X T.nolimit (by decide) (by k_is) (by k_is) (BindsTo.of_eq rfl) rfl (by decide +kernel) ?_
  intro L' h₁ tk cells F N Y
  k_cells Y
  rename_i op oq ow dp dq dw
  replace dp : op.data = .cell none := dp
  replace dq : oq.data = .cell (some (.ref pa)) := dq
  replace dw : ow.data = .cell (some (.ref wa)) := dw
  (try dsimp only)
  refine halt_in ?_
  k_steps
  rename_i ea _ _ _ _ _ _ _ _ F' N'
  refine For_turns (by assumption) ?_
  k_steps
  refine halt_out (turnsB (σ := Obj × Addr × List Value × Nat) (fun c => [(c.2.1, W.listOf c.2.2.1.toArray c.2.2.2), (L' + 1 + 1 + 1, c.1), (L' + 1 + 1, oq), (L' + 1, ow)]) (fun c => [(Str.ofString "ends", .ref c.2.1)]) [Str.ofString "ends"]
    (fun i c => (∃ v, c.1.data = .cell v) ∧ c.2.1 ≠ L' + 1 + 1 + 1 ∧ c.2.1 ≠ L' + 1 + 1 ∧ c.2.1 ≠ L' + 1 ∧ IntsAre c.2.2.1 (fitEnds ws ps half (qs.take i))) (op, ea, [.int 0 ?tz], 0) rfl hq (by assumption) ?g1 ?g2 ?g3 (fun _ _ => rfl) ?g4 ?g5)
  case g1 => exact fun p hp => (by assumption : News _ _ _ _) p (.tail _ hp)
  case g2 => intro p hp; rw [List.mem_singleton.mp hp]; rfl
  case g3 => exact ⟨⟨_, dp⟩, by k_ne, by k_ne, by k_ne, IntsAre.cons _ _ IntsAre.nil⟩
  case g4 =>
    rintro ⟨op, ea, ev, en⟩ i v u h9 tk9 own hv hoff ⟨⟨vp, dp⟩, n1, n2, n3, iE⟩ F9 N9
    obtain ⟨q, tq, rfl, hqi⟩ := IntsAre.at iq i v hv
    dsimp only [kstB] at F9
    dsimp only at iE n1 n2 n3 dp
    change News s.heap L' h9 ((ea, W.listOf ev.toArray en) :: (L' + 1 + 1 + 1, op) :: (L' + 1 + 1, oq) :: (L' + 1, ow) :: own) at N9
    replace hoff : OwnOff own [ea, L' + 1 + 1 + 1, L' + 1 + 1, L' + 1] := hoff
    have hstep : fitEnds ws ps half (qs.take (i + 1)) = fitStep ws ps half (fitEnds ws ps half (qs.take i)) q := by
      unfold fitEnds; rw [List.take_add_one, hqi]; simp
    have hF := fitEnds_facts (ws := ws) (ps := ps) hh (qs.take i)
    have hF1 := fitEnds_facts (ws := ws) (ps := ps) hh (qs.take (i + 1))
    generalize fitEnds ws ps half (qs.take i) = es at iE hstep hF
    obtain ⟨hF, lE⟩ := hF
    have hq1 := hqp q (List.mem_of_getElem? hqi)
    by_cases hq0 : q < 0
    · cases iE with
      | nil =>
        k_steps
        rename_i _ o9 d9 _ _ la _ l1 _ FF NN
        refine endT (c := (o9, la, [], 0)) FF NN ?h1 ?h2 ?h3 ?h4 ?h5 ?h6
        case h1 => exact fun p hp => by simp only [List.mem_cons, List.not_mem_nil, or_false] at hp ⊢; rcases hp with rfl | rfl | rfl | rfl <;> simp
        case h2 => exact fun p hp => .tail _ (.tail _ (.tail _ (.tail _ (.tail _ hp))))
        case h3 => exact offNew hoff (kst_ltOf l1.2.2.2.2)
        case h4 => intro p hp; rw [List.mem_singleton.mp hp]; rfl
        case h5 =>
          intro z z2 z3
          have a1 := z2 _ (.head _)
          dsimp only at a1
          simp only [if_neg a1, z3]
          rfl
        case h6 =>
          refine ⟨⟨_, d9⟩, by k_ne, by k_ne, by k_ne, ?_⟩
          rw [hstep]
          unfold fitStep
          rw [if_pos hq0, if_pos rfl]
          exact IntsAre.nil
      | cons e0 te iE =>
        k_steps
        refine truthy_cons (News.isList (by assumption) (.head _)) ?hz ?_
        case hz => have := iE.length; simp only [List.length_cons] at lE ⊢; omega
        k_steps
        have b0 := hF e0 (.head _)
        have eh : Int.fdiv (2 * half) 2 = half := by rw [Int.fdiv_eq_ediv_of_nonneg _ (by decide)]; omega
        refine halt_out ?_
        rw [eh]
        change wpAny _ _ (call (Value.type "range") [Value.int e0 _, Value.int _ _, Value.int half _]) _ _ _
        refine range3_K (by assumption) (by assumption) (by omega) (by omega) (by omega) (by omega) (by omega) (by omega) ?_
        intro r8 h8 tk8 t8 u8 v8 R8 F8 N8
        k_steps
        have hz := rangeSize_bound (a := e0) (b := (ws.length : Int) + 11 + 1) hh (by omega) (by omega)
        refine halt_out (list_range_K (n := (Builtin.Range.rangeSize e0 ((ws.length : Int) + 11 + 1) half).toNat) rfl (by assumption) (by assumption) R8 (small_ok (by omega) (by omega) (by omega) (by omega) (by omega) (by omega)) (by omega) (by omega) ?_)
        intro la lv ln h7 tk7 F7 N7 l8 iL
        k_lt l8
        k_steps
        rename_i o9 d9 _ _ _ _ FF NN
        refine endT (c := (o9, la, lv, ln)) FF NN ?h1 ?h2 ?h3 ?h4 ?h5 ?h6
        case h6 =>
          refine ⟨⟨_, d9⟩, by k_ne, by k_ne, by k_ne, ?_⟩
          rw [hstep]
          unfold fitStep
          rw [if_pos hq0, if_neg (List.cons_ne_nil _ _)]
          exact iL
        case h1 => exact fun p hp => by simp only [List.mem_cons, List.not_mem_nil, or_false] at hp ⊢; rcases hp with rfl | rfl | rfl | rfl <;> simp
        case h2 => exact fun p hp => .tail _ (.tail _ (.tail _ (.tail _ (.tail _ hp))))
        case h3 => exact offNew hoff (kst_ltOf l8.2.2.2.2)
        case h4 => intro p hp; rw [List.mem_singleton.mp hp]; rfl
        case h5 =>
          intro z z2 z3
          have a1 := z2 _ (.head _)
          dsimp only at a1
          simp only [if_neg a1, z3]
          rfl
    · k_steps
      rename_i _ o9 F8 N8 d9 _
      refine halt_out (LCt.CompSrcT.ledger rfl (by assumption) (by assumption) (.head _) ?_ ?_)
      · have := iE.length
        have : sizeLine = 16777216 := rfl
        rw [List.size_toArray]; omega
      intro g8
      refine kci_list (fitG ws ps q) iE ?h1 ?h2 ?h3
      case h3 => intro l k; unfold fitG; split <;> simp
      case h1 =>
        intro e te I oI C oC D m2 ys l9 h7 tk7 E7 he iY hC hx F7 N7 off ne _
        have b0 := hF e he
        k_steps
        · rename_i g1 _ _ g2
          exact ⟨_, _, _, rfl, by assumption, by assumption, off, .inr ⟨_, .head _, rfl, _, rfl⟩, rfl, e + 12, _, rfl, fitG_pos g1 g2⟩
        · rename_i g1 _ _ g2
          exact ⟨_, _, _, rfl, by assumption, by assumption, off, .inr ⟨_, .head _, rfl, _, rfl⟩, rfl, fitG_neg2 g2⟩
        · rename_i g1
          exact ⟨_, _, _, rfl, by assumption, by assumption, off, .inr ⟨_, .head _, rfl, _, rfl⟩, rfl, fitG_neg1 g1⟩
      case h2 =>
        intro lv iL lL
        intro la h6 tk6 F6 N6 l6
        k_steps
        refine endT (c := (o9, la, lv, lv.length)) F6 N6 ?h1 ?h2 ?h3 ?h4 ?h5 ?h6
        case h6 =>
          refine ⟨⟨_, d9⟩, ?_, ?_, ?_, ?_⟩
          · exact fun e => off1_ne l6 _ (.tail _ (.head _)) e.symm
          · exact fun e => off1_ne l6 _ (.tail _ (.tail _ (.head _))) e.symm
          · exact fun e => off1_ne l6 _ (.tail _ (.tail _ (.tail _ (.head _)))) e.symm
          · rw [hstep]
            unfold fitStep
            rw [if_neg hq0]
            have := fitG_fold ws ps q es []
            rw [List.nil_append] at this
            rw [← this]
            exact iL
        case h1 => exact fun p hp => by simp only [List.mem_cons, List.not_mem_nil, or_false] at hp ⊢; rcases hp with rfl | rfl | rfl | rfl <;> simp
        case h2 => exact fun p hp => .tail _ (.tail _ (.tail _ (.tail _ (.tail _ hp))))
        case h3 => exact offNew' hoff fun p hp => off1_ne l6 p (.tail _ (.tail _ (.tail _ (.tail _ hp))))
        case h4 => intro p hp; rw [List.mem_singleton.mp hp]; rfl
        case h5 =>
          intro z z2 z3
          have a1 := z2 _ (.head _)
          dsimp only at a1
          simp only [if_neg a1, z3]
          rfl
  case g5 =>
    rintro ⟨op, ea, ev, en⟩ u h9 tk9 ⟨⟨vp, dp⟩, n1, n2, n3, iE⟩ F9 N9
    dsimp only [kstB] at F9
    dsimp only at iE n1 n2 n3 dp
    have hlen : qv.length = qs.length := iq.length
    rw [List.take_of_length_le (by omega)] at iE
    change News s.heap L' h9 [(ea, W.listOf ev.toArray en), (L' + 1 + 1 + 1, op), (L' + 1 + 1, oq), (L' + 1, ow)] at N9
    k_steps
    refine halt_out (in_list_ints (News.isList (by assumption) (.head _)) iE ?_)
    k_steps
    exact h _ _ (frOn F₀ (Fr.keep (by assumption))) (newsOn N₀ (Fr.keep (by assumption)))
end Mine

namespace Mine
theorem fold_rep (vs : List Value) : ∀ (k : Nat) (acc : Array Value), List.foldl (fun x1 x2 => x1 ++ x2) acc (List.replicate k vs.toArray) = acc ++ ((List.replicate k vs).flatten).toArray
  | 0, acc => by simp
  | k + 1, acc => by rw [List.replicate_succ, List.foldl_cons, fold_rep vs k, List.replicate_succ, List.flatten_cons]; simp
theorem ints_rep {vs : List Value} {ns : List Int} (hi : IntsAre vs ns) : ∀ k : Nat, IntsAre (List.replicate k vs).flatten (List.replicate k ns).flatten
  | 0 => IntsAre.nil
  | k + 1 => by rw [List.replicate_succ, List.replicate_succ, List.flatten_cons, List.flatten_cons]; exact hi.append (ints_rep hi k)
theorem mul_ints {prog : Program} {w : World} {A : Around} {E : Value → Shared → Prop} {s : Shared} {h₀ : Heap} {L l : Addr} {m : Str → Option Value} {news : List (Addr × Obj)} {vs : List Value} {ns : List Int} {k : Nat} {x : Int} {u : Tok} {Q : Value → Shared → Prop}
    (F : Fr h₀ L s.heap m) (N : News h₀ L s.heap news) (hm : (l, listOf vs.toArray k) ∈ news) (hi : IntsAre vs ns) (h0 : 0 ≤ x) (hx : x ≤ 100) (hz : ns.length ≤ 1000) (hne : ns ≠ [])
    (h : ∀ la vs' h', Fr h₀ L h' m → News h₀ L h' ((la, listOf vs'.toArray 0) :: news) → (∀ p ∈ news, p.1 < la) → IntsAre vs' (List.replicate x.toNat ns).flatten → Q (.ref la) { s with heap := h' }) :
    wpAny (model prog w) A (binaryOp .Mult (.ref l) (.int x u)) Q E s := by
  have hlen := hi.length
  refine mul_list F N (N _ hm).1 (by omega) (by omega) ?_ fun h' F' N' => ?_
  · rw [List.size_toArray]
    have h1 : vs.length * x.toNat ≤ 1000 * 100 := Nat.mul_le_mul (by omega) (by omega)
    omega
  · have he : vs.toArray.isEmpty = false := by
      cases vs with
      | nil => cases hi; exact absurd rfl hne
      | cons v r => simp
    rw [he] at N'
    simp only [Bool.false_eq_true, if_false] at N'
    rw [fold_rep, Array.empty_append] at N'
    exact h _ _ h' F' N' (fun p hp => Heap.lt_size (N p hp).1) (ints_rep hi x.toNat)
theorem add_ints {prog : Program} {w : World} {A : Around} {E : Value → Shared → Prop} {s : Shared} {h₀ : Heap} {L a b : Addr} {m : Str → Option Value} {news : List (Addr × Obj)} {vs us : List Value} {ns ms : List Int} {Q : Value → Shared → Prop}
    (F : Fr h₀ L s.heap m) (N : News h₀ L s.heap news) (hl : s.heap.IsList a vs.toArray) (hb : s.heap.IsList b us.toArray) (hi : IntsAre vs ns) (hj : IntsAre us ms) (hz : ns.length + ms.length ≤ 100000)
    (h : ∀ la ys h', Fr h₀ L h' m → News h₀ L h' ((la, listOf ys.toArray 0) :: news) → (∀ p ∈ news, p.1 < la) → IntsAre ys (ns ++ ms) → Q (.ref la) { s with heap := h' }) :
    wpAny (model prog w) A (binaryOp .Add (.ref a) (.ref b)) Q E s :=
  add_lists_ints F N hl hb hi hj (fun h' F' N' i' => h _ _ h' F' N' (fun p hp => Heap.lt_size (N p hp).1) i') (by have : sizeLine = 16777216 := rfl; omega)
def rowBase (ns : List Int) : List Int := (List.replicate (1 + ns.sum % 2).toNat ([1, 35, 69, 103] ++ ns.map fun a => a % 256)).flatten
def rowR (ns : List Int) : List Int := rowBase ns ++ (List.replicate (-((rowBase ns).length : Int) % 3).toNat [0]).flatten
local macro_rules | `(tactic| walk_at "call builtin:len") => `(tactic| ((with_reducible show wpAny _ _ (call (Value.builtin "len") [Value.ref _]) _ _ _); refine halt_mk ?_))
local macro_rules | `(tactic| walk_at "binaryOp Add ref ref") => `(tactic| refine halt_mk ?_)
local macro_rules | `(tactic| walk_at "binaryOp Mult ref int") => `(tactic| refine halt_mk ?_)
local macro_rules | `(tactic| walk_at "CompSrc") => `(tactic| refine halt_mk ?_)
theorem row_spec {w : World} {mean : ExcName → Option Value} {mg mb : Str → Option Value} {A : Around} {Q E : Value → Shared → Prop} {s : Shared} {h₀ : Heap} {L : Addr} {m : Str → Option Value} {news : List (Addr × Obj)} (F₀ : Fr h₀ L s.heap m) (N₀ : News h₀ L s.heap news) (X₀ : (hd.heap_39 w.params).In h₀) (T₀ : Top hd.view_39 (looseW hd.view_39 [Str.ofString "b2a_base64", Str.ofString "_NO_SEP", Str.ofString "b2a_hex", Str.ofString "hexlify", Str.ofString "b64encode"]) mean mg mb h₀) {na : Addr} {nv : List Value} {ns : List Int} (h0 : A.handled = none) (hD : A.depth ≤ 400) (hU : A.units ≤ 500)
    (hn : s.heap.IsList na nv.toArray) (hi : IntsAre nv ns) (ln : ns.length ≤ 3) (hb : ∀ n ∈ ns, 0 ≤ n ∧ n < 1000000)
    (h : ∀ la vs h' tk', Fr h₀ L h' m → News h₀ L h' ((la, listOf vs.toArray 0) :: news) → (∀ p ∈ news, p.1 ≠ la) → IntsAre vs (rowR ns) → Q (.ref la) { s with heap := h', toks := tk' }) : wpAny (model PySem.Challenge.rw_mq0109_01.row.prog w) A (call (.ref 79) [.ref na]) Q E s := by
  refine weaken 400 500 h0 hD hU ?_
  w_top off
  revert X₀; k_fill; intro X₀
  have X := X₀.keeps F₀.keep
  have T := T₀.keeps F₀.keep
  refine' enterP (binds := [("numbers", .ref na)]) X T.nolimit (by decide) (by k_is) (by k_is) (BindsTo.of_eq rfl) (locs rfl) ?_
  intro L' h₁ F N
  (try dsimp only)
  refine halt_in ?_
  k_steps
  rename_i la _ _ _ _ da dv _ _ F2 N2 hn2 hd _ hc
  have iy : IntsAre dv (ns.map fun a => a % 256) := by
    have e1 : ns.filter (fun _ => true) = ns := List.filter_eq_self.mpr fun _ _ => rfl
    rw [e1] at hc
    have := CarriedAll.intsOf hc
    have e2 : (ns.map fun a => a.fmod 256) = ns.map fun a => a % 256 := List.map_congr_left fun a _ => Int.fmod_eq_emod_of_nonneg _ (by decide)
    rwa [e2] at this
  refine halt_out (add_ints F2 N2 (News.isList N2 (.head _)) hd (IntsAre.cons 1 _ (IntsAre.cons 35 _ (IntsAre.cons 69 _ (IntsAre.cons 103 _ IntsAre.nil)))) iy ?hz ?_)
  case hz => rw [List.length_map]; simp; omega
  intro lb bv h3 F3 N3 l3 i3
  k_lt l3
  k_steps
  have e3 : ns.sum.fmod 2 = ns.sum % 2 := Int.fmod_eq_emod_of_nonneg _ (by decide)
  have hp0 : 0 ≤ ns.sum % 2 := Int.emod_nonneg _ (by decide)
  have hp1 : ns.sum % 2 < 2 := Int.emod_lt_of_pos _ (by decide)
  refine halt_out ?_
  rw [e3]
  refine mul_ints (by assumption) (by assumption) (.head _) i3 (by omega) (by omega) (by simp; omega) (by simp) ?_
  intro lr rv h4 F4 N4 l4 i4
  k_lt l4
  change IntsAre rv (rowBase ns) at i4
  have hrl : (rowBase ns).length ≤ 14 := by
    unfold rowBase
    rw [List.length_flatten, List.map_replicate, List.sum_replicate_nat]
    have h5 : ([1, 35, 69, 103] ++ ns.map fun a => a % 256).length ≤ 7 := by simp; omega
    have h6 : (1 + ns.sum % 2).toNat ≤ 2 := by omega
    have := Nat.mul_le_mul h6 h5
    omega
  k_steps
  refine halt_out (kst_len (k := (rowBase ns).length) (by assumption) (.tail _ (.head _)) i4.length (by omega) ?_)
  k_steps
  have e4 : (-((rowBase ns).length : Int)).fmod 3 = -((rowBase ns).length : Int) % 3 := Int.fmod_eq_emod_of_nonneg _ (by decide)
  have hq0 : 0 ≤ -((rowBase ns).length : Int) % 3 := Int.emod_nonneg _ (by decide)
  have hq1 : -((rowBase ns).length : Int) % 3 < 3 := Int.emod_lt_of_pos _ (by decide)
  refine halt_out ?_
  rw [e4]
  refine mul_ints (by assumption) (by assumption) (.head _) (IntsAre.cons 0 _ IntsAre.nil) (by omega) (by omega) (by simp) (by simp) ?_
  intro lz zv h5 F5 N5 l5 i5
  k_lt l5
  k_steps
  refine halt_out (add_ints (by assumption) (by assumption) (News.isList (by assumption) (.tail _ (.tail _ (.head _)))) (News.isList (by assumption) (.head _)) i4 i5 ?hz2 ?_)
  case hz2 =>
    have : (List.replicate (-((rowBase ns).length : Int) % 3).toNat [(0 : Int)]).flatten.length ≤ 3 := by
      rw [List.length_flatten, List.map_replicate, List.sum_replicate_nat]; simp; omega
    omega
  intro lx xv h6 F6 N6 l6 i6
  k_steps
  exact h _ _ _ _ (frOn F₀ (Fr.keep (by assumption))) (newsNew F₀ N₀ (Fr.keep F6) (N6 _ (.head _)).1 (N6 _ (.head _)).2.2) (newsApart N₀ (N6 _ (.head _)).2.2) i6
end Mine

namespace Mine
section
variable {prog : Program} {w : World} {A : Around} {E : Value → Shared → Prop} {s : Shared} {h₀ : Heap} {L : Addr} {m : Str → Option Value} {env : Env}
/-- where a comprehension's source is a range by any step -/
def SrcC (prog : Program) (w : World) (A : Around) (h₀ : Heap) (L : Addr) (m : Str → Option Value) (env : Env) (elt : Expr) (x : Str) (scope : Scope) (cl : List (Str × Addr)) (Q : Value → Shared → Prop) (xv : Value) (s₁ : Shared) : Prop :=
  ∃ r a b c t u v n news, xv = .ref r ∧ A.handled = none ∧ Fr h₀ L s₁.heap m ∧ News h₀ L s₁.heap news ∧ IsRange s₁.heap r a b c t u v ∧ Builtin.Range.small a b c = true ∧ Builtin.Range.rangeSize a b c = ((n : Nat) : Int) ∧ n ≤ sizeLine ∧
    ∀ g, LCg.CompRest prog w A h₀ L m env elt x scope cl { s₁ with heap := g } (fun _ => True) (fun i v => ∃ t, v = .int (a + (i : Int) * c) t) (LCg.FinE h₀ L m { s₁ with heap := g } Q) n 0 [] news
theorem comp_range {elt iter : Expr} {x : Str} {px : Pos} {scope : Scope} {cl : List (Str × Addr)} {pos : Pos} {Q : Value → Shared → Prop} (_F₀ : Fr h₀ L s.heap m)
    (hclos : closureFor scope env = pure cl) (hcell : ∀ y ∈ scope.names, y.2 ≠ .cell) (hkind : scope.kind = .function)
    (hnames : ∀ y ∈ scope.names, y.2 = .local → scope.names.lookup y.1 = some .local) (hx : scope.names.lookup x = some .local)
    (h : wpAny (model prog w) A (eval iter env) (fun xv s₁ => Halt (SrcC prog w A h₀ L m env elt x scope cl Q xv s₁)) E s)
    (hs : ∀ x, foldedSetIterable iter env x = pure x := by intro _; rfl) :
    wpAny (model prog w) A (eval (.ListComp elt [⟨.Name x px, iter, [], 0⟩] scope pos) env) Q E s := by
  rw [eval_ListComp]
  refine wpAny_comprehension_free (use := none) rfl hs hclos hkind hnames (wpAny_mono h (fun xv s₁ h₁ => ?_) fun _ _ e => e)
  obtain ⟨r, a, b, c, t, u, v, n, news, rfl, hh, F, N, hr, hsm, hn, hsz, R⟩ := h₁
  refine wpAny_pyIter_range hr hsm ?_
  have hgrow : ∀ b o, s₁.heap.get? b = some o → (s₁.heap.push { cls := .type "range_iterator", data := .fields #[rawInt a, rawInt (Builtin.Range.rangeSize a b c), rawInt c] }).get? b = some o := fun _ _ e => Heap.get?_push_of_some _ e
  refine LCg.block_U (Walks.range hh s₁.heap.objs.size a c n) hsz (fun i h st => ⟨_, st⟩) (fun i h h' o nw st e e' _ _ _ => ?_) hcell hkind hx ?_ (fun b hb => ?_)
    (frOn F fun _ _ e => Heap.get?_push_of_some _ e) (newsOn N fun _ _ e => Heap.get?_push_of_some _ e) (Nat.ne_of_lt F.ns.lt) (next_is_new F) (fun p hp => Nat.ne_of_lt (Heap.lt_size (N p hp).1)) trivial (R _) ?_
  · have st' : h.get? s₁.heap.objs.size = some _ := st
    show h'.get? s₁.heap.objs.size = some _
    rw [e', ← e]; exact st'
  · show IsRangeIter _ _ _ _ _
    rw [hn]; simpa using Heap.get?_push_size _ rfl
  · rw [List.mem_singleton.mp hb]
    show s₁.heap.objs.size < (s₁.heap.push _).objs.size
    rw [Heap.size_push]; exact Nat.lt_succ_self _
  · intro D C h tk m' ys news' F' N' o1 hn hC₀ hD₀ hCL hDL hCD offC fin
    refine ⟨m', hn, fun h'' hs'' => fin D h'' tk (F'.change hs'' hCL hC₀) (fun p hp => ?_) o1⟩
    refine ⟨hs''.extBut _ _ ?_ (N' p hp).1, (N' p hp).2⟩
    rcases List.mem_cons.mp hp with rfl | hp
    · exact Ne.symm hCD
    · exact offC p hp
end
end Mine

namespace Mine
def wholeR (row : List Int) : Int := row.foldl (fun a o => a * 256 + o) 0
theorem np_pow (a : Int) (e : Nat) (he : e < 9000) : Builtin.divisionGoesByPylong a (2 ^ e) = false := PyProof.noPylong_of_log2 (by
  rw [Int.natAbs_pow]
  show Nat.log2 (2 ^ e) < 9000
  rw [Nat.log2_two_pow]; exact he)
/-- the window at a place (a number of bits) -/
def winAt (row : List Int) (place : Int) : Int := wholeR row / 2 ^ (8 * (row.length : Int) - 24 - place).toNat % 16777216
theorem winAt_eq (row : List Int) (k : Int) : winAt row k = ((wholeR row).fdiv (2 ^ (8 * (row.length : Int) - 24 - k).toNat)).fmod (2 ^ Int.toNat 24) := by
  unfold winAt
  have e : (2 : Int) ^ Int.toNat 24 = 16777216 := by decide
  rw [e, Int.fdiv_eq_ediv_of_nonneg _ (Int.le_of_lt (Int.pow_pos (by decide))), Int.fmod_eq_emod_of_nonneg _ (by decide)]
def windowsR (row : List Int) : List Int := ((_root_.List.range (Builtin.Range.rangeSize 0 (8 * (row.length : Int) - 23) 2).toNat).map fun (i : Nat) => 0 + (i : Int) * 2).map (winAt row)
local macro_rules | `(tactic| walk_at "binaryOp Pow int int") => `(tactic| refine halt_mk ?_)
local macro_rules | `(tactic| walk_at "binaryOp FloorDiv int int") => `(tactic| refine halt_mk ?_)
local macro_rules | `(tactic| walk_at "binaryOp Mod int int") => `(tactic| refine halt_mk ?_)
local macro_rules | `(tactic| walk_at "exec For Name Name cons nil") => `(tactic| refine halt_mk ?_)
local macro_rules | `(tactic| walk_at "eval ListComp") => `(tactic| refine halt_mk ?_)
local macro_rules | `(tactic| walk_at "pyIter ref") => `(tactic| refine halt_mk ?_)
local macro_rules | `(tactic| walk_at "call type:range") => `(tactic| refine halt_mk ?_)
theorem windows_spec {w : World} {mean : ExcName → Option Value} {mg mb : Str → Option Value} {A : Around} {Q E : Value → Shared → Prop} {s : Shared} {h₀ : Heap} {L : Addr} {m : Str → Option Value} {news : List (Addr × Obj)} (F₀ : Fr h₀ L s.heap m) (N₀ : News h₀ L s.heap news) (X₀ : (hd.heap_39 w.params).In h₀) (T₀ : Top hd.view_39 (looseW hd.view_39 [Str.ofString "b2a_base64", Str.ofString "_NO_SEP", Str.ofString "b2a_hex", Str.ofString "hexlify", Str.ofString "b64encode"]) mean mg mb h₀) {ra : Addr} {rv : List Value} {row : List Int} (h0 : A.handled = none) (hD : A.depth ≤ 400) (hU : A.units ≤ 500)
    (hr : s.heap.IsList ra rv.toArray) (ir : IntsAre rv row) (lr : row.length ≤ 15) (lr0 : 3 ≤ row.length) (hb : ∀ n ∈ row, 0 ≤ n ∧ n < 256)
    (h : ∀ la vs nn h' tk', Fr h₀ L h' m → News h₀ L h' ((la, listOf vs.toArray nn) :: news) → (∀ p ∈ news, p.1 ≠ la) → IntsAre vs (windowsR row) → Q (.ref la) { s with heap := h', toks := tk' }) : wpAny (model PySem.Challenge.rw_mq0109_01.row.prog w) A (call (.ref 84) [.ref ra]) Q E s := by
  refine weaken 400 500 h0 hD hU ?_
  w_top off
  revert X₀; k_fill; intro X₀
  have X := X₀.keeps F₀.keep
  have T := T₀.keeps F₀.keep
  refine' enterC (binds := [("row", .ref ra)]) X T.nolimit (by decide) (by k_is) (by k_is) (BindsTo.of_eq rfl) rfl (by decide +kernel) ?_
  intro L' h₁ tk cells F N Y
  k_cells Y
  rename_i oz ow dz dw
  replace dz : oz.data = .cell none := dz
  replace dw : ow.data = .cell none := dw
  (try dsimp only)
  refine halt_in ?_
  k_steps
  rename_i ow1 dw1 _ oz1 F1 N1 dz1
  refine halt_out (For_turns (by assumption) ?_)
  k_steps
  refine halt_out (turnsB (σ := Obj) (fun c => [(L' + 1 + 1, oz1), (L' + 1, c)]) (fun _ => []) [Str.ofString "octet"] (fun i c => ∃ t, c.data = .cell (some (.int (wholeR (row.take i)) t))) ow1 rfl hr (by assumption) ?g1 ?g2 ⟨_, dw1⟩ (fun _ _ => rfl) ?g4 ?g5)
  case g1 => exact fun p hp => N1 p (.tail _ hp)
  case g2 => intro p hp; cases hp
  case g4 =>
    rintro ow2 i v u h9 tk9 own hv hoff ⟨t2, dw2⟩ F9 N9
    obtain ⟨o, to, rfl, hoi⟩ := IntsAre.at ir i v hv
    dsimp only [kstB] at F9
    change News s.heap L' h9 ((L' + 1 + 1, oz1) :: (L' + 1, ow2) :: own) at N9
    replace hoff : OwnOff own [L' + 1 + 1, L' + 1] := hoff
    k_steps
    rename_i o9 FF NN d9
    refine endT (c := o9) FF NN (fun p hp => List.mem_append_left own hp) (fun p hp => .tail _ (.tail _ hp)) hoff (fun p hp => by cases hp) ?h5 ?h6
    case h5 =>
      intro z z2 z3
      have a1 : z ≠ Str.ofString "octet" := by
        intro e
        rw [e] at z3
        exact absurd z3 (by decide)
      simp only [if_neg a1, z3]
      rfl
    case h6 =>
      have e : wholeR (row.take (i + 1)) = wholeR (row.take i) * 256 + o := by
        unfold wholeR
        rw [List.take_add_one, hoi, List.foldl_append]
        rfl
      show ∃ t, o9.data = .cell (some (.int (wholeR (row.take (i + 1))) t))
      rw [e]
      exact ⟨_, d9⟩
  case g5 =>
    rintro ow2 u h9 tk9 ⟨t2, dw2⟩ F9 N9
    dsimp only [kstB] at F9
    have hlen : rv.length = row.length := ir.length
    rw [List.take_of_length_le (by omega)] at dw2
    change News s.heap L' h9 [(L' + 1 + 1, oz1), (L' + 1, ow2)] at N9
    change Fr s.heap L' h9 _ at F9
    k_steps
    refine halt_out (comp_range F9 rfl (by decide) rfl (by decide) rfl ?_)
    k_steps
    refine halt_out (range3_K (by assumption) (by assumption) (by omega) (by omega) (by omega) (by omega) (by omega) (by omega) ?_)
    intro r8 h8 tk8 t8 u8 v8 R8 F8 N8
    have hz := rangeSize_bound (a := 0) (b := 8 * (row.length : Int) - 23) (c := 2) (by decide) (by decide) (by omega)
    refine halt_out (halt_out ⟨r8, _, _, _, _, _, _, (Builtin.Range.rangeSize 0 (8 * (row.length : Int) - 23) 2).toNat, _, rfl, rfl, F8, N8, R8, small_ok (by omega) (by omega) (by omega) (by omega) (by omega) (by omega), by omega, by have : sizeLine = 16777216 := rfl; omega, ?_⟩)
    intro g7
    refine kcf_rest (ks := (_root_.List.range (Builtin.Range.rangeSize 0 (8 * (row.length : Int) - 23) 2).toNat).map fun (i : Nat) => 0 + (i : Int) * 2) (winAt row) (by simp) ?h1 ?h2 ?h3
    case h1 =>
      rintro i v hi ⟨t, rfl⟩
      exact ⟨0 + (i : Int) * 2, t, by simp [hi], rfl⟩
    case h2 =>
      intro k tk7 I oI C oC D m2 ys h7 tk6 E7 hk hC hx F7 N7 off ne _
      have hk0 : 0 ≤ k ∧ k ≤ 8 * (row.length : Int) - 24 := by
        obtain ⟨i, hi, rfl⟩ := List.mem_map.mp hk
        have hi := List.mem_range.mp hi
        rw [rangeSize_pos (by decide) (by omega)] at hi
        omega
      k_steps
      refine halt_out (pow_int_small (by omega) (by omega) (by decide) ?_)
      k_steps
      have hp2 : (2 : Int) ^ (8 * (row.length : Int) - 24 - k).toNat ≠ 0 := Int.ne_of_gt (Int.pow_pos (by decide))
      refine halt_out (floordiv_int hp2 ?_ ?hpy)
      case hpy => exact Or.inl (np_pow _ _ (by omega))
      k_steps
      refine halt_out (pow_int_small (by decide) (by decide) (by decide) ?_)
      k_steps
      refine halt_out (mod_int' (by decide) ?_)
      k_steps
      exact kcf_el (winAt_eq row k) rfl rfl
    case h3 =>
      intro lv iL
      intro la h6 tk6 F6 N6 l6
      k_steps
      exact h _ _ _ _ _ (frOn F₀ (Fr.keep F6)) (newsNew F₀ N₀ (Fr.keep F6) (N6 _ (.head _)).1 (N6 _ (.head _)).2.2) (newsApart N₀ (N6 _ (.head _)).2.2) iL
end Mine

namespace Mine
local macro_rules | `(tactic| walk_at "exec For Name Name cons nil") => `(tactic| refine halt_mk ?_)
local macro_rules | `(tactic| walk_at "pyIter ref") => `(tactic| refine halt_mk ?_)
local macro_rules | `(tactic| walk_at "binaryOp Add ref ref") => `(tactic| refine halt_mk ?_)
local macro_rules | `(tactic| walk_at "subscriptTail") => `(tactic| ((with_reducible show wpAny _ _ (subscriptTail _ _ (Value.ref _) (Value.int _ _)) _ _ _); refine halt_mk ?_))
theorem tup_ne {h₀ h : Heap} {L a b : Addr} {xs ys : Array Value} {k : Nat} {news : List (Addr × Obj)} (N : News h₀ L h ((a, { cls := .type "tuple", data := .seq xs }) :: (b, listOf ys k) :: news)) : a ≠ b := by
  intro e
  have h1 := (N _ (.head _)).1
  have h2 := (N _ (.tail _ (.head _))).1
  dsimp only at h1 h2
  rw [e, h2] at h1
  have h3 := congrArg Obj.cls (Option.some.inj h1)
  change Value.type "list" = Value.type "tuple" at h3
  exact absurd h3 (by decide)
theorem one_push {la : Addr} {vs : List Value} {v : Value} {n : Nat} {news : List (Addr × Obj)} (h : (la, listOf (vs.toArray.push v) n) ∈ news) : ∀ p ∈ [(la, listOf (vs ++ [v]).toArray n)], p ∈ news := by
  intro p hp
  rw [List.mem_singleton.mp hp, ← List.push_toArray]; exact h
def pieceR (ws : List Int) (v : Int) : Int :=
  let p := ws.getD (v / 256 % (ws.length : Int)).toNat 0
  if v / 256 / (ws.length : Int) % 4 = 3 then p + (1 - 2 * (p % 2)) else p
theorem pieceR_three {ws : List Int} {n : Int} (h : ((n.fdiv 256).fdiv (ws.length : Int)).fmod 4 = 3) (hw : 1 ≤ ws.length) : ws.getD ((n.fdiv 256).fmod (ws.length : Int)).toNat 0 + (1 - 2 * (ws.getD ((n.fdiv 256).fmod (ws.length : Int)).toNat 0).fmod 2) = pieceR ws n := by
  rw [Int.fmod_eq_emod_of_nonneg _ (by decide), Int.fdiv_eq_ediv_of_nonneg _ (by omega), Int.fdiv_eq_ediv_of_nonneg _ (by decide)] at h
  rw [Int.fmod_eq_emod_of_nonneg _ (by omega), Int.fmod_eq_emod_of_nonneg _ (by decide), Int.fdiv_eq_ediv_of_nonneg _ (by decide)]
  unfold pieceR
  dsimp only
  rw [if_pos h]
theorem pieceR_other {ws : List Int} {n : Int} (h : ((n.fdiv 256).fdiv (ws.length : Int)).fmod 4 ≠ 3) (hw : 1 ≤ ws.length) : ws.getD ((n.fdiv 256).fmod (ws.length : Int)).toNat 0 = pieceR ws n := by
  rw [Int.fmod_eq_emod_of_nonneg _ (by decide), Int.fdiv_eq_ediv_of_nonneg _ (by omega), Int.fdiv_eq_ediv_of_nonneg _ (by decide)] at h
  rw [Int.fmod_eq_emod_of_nonneg _ (by omega), Int.fdiv_eq_ediv_of_nonneg _ (by decide)]
  unfold pieceR
  dsimp only
  rw [if_neg h]
theorem pieces_step {ws ns : List Int} {pv : List Value} {n x : Int} {i : Nat} {t : Tok} {p0 : Int} (hni : ns[i]? = some n) (iP : IntsAre pv ([p0] ++ (ns.take i).map (pieceR ws))) (e : x = pieceR ws n) :
    IntsAre (pv ++ [Value.int x t]) ([p0] ++ (ns.take (i + 1)).map (pieceR ws)) := by
  subst e
  rw [List.take_add_one, hni, List.map_append, ← List.append_assoc]
  exact iP.append (IntsAre.cons _ _ IntsAre.nil)
def piecesR (ws ns : List Int) : List Int := ([ws.getD 0 0] ++ ns.map (pieceR ws)) ++ [ws.getD (ws.length - 1) 0]
theorem pieces_spec {w : World} {mean : ExcName → Option Value} {mg mb : Str → Option Value} {A : Around} {Q E : Value → Shared → Prop} {s : Shared} {h₀ : Heap} {L : Addr} {m : Str → Option Value} {news : List (Addr × Obj)} (F₀ : Fr h₀ L s.heap m) (N₀ : News h₀ L s.heap news) (X₀ : (hd.heap_39 w.params).In h₀) (T₀ : Top hd.view_39 (looseW hd.view_39 [Str.ofString "b2a_base64", Str.ofString "_NO_SEP", Str.ofString "b2a_hex", Str.ofString "hexlify", Str.ofString "b64encode"]) mean mg mb h₀) {wa na : Addr} {wv nv : List Value} {ws ns : List Int} (h0 : A.handled = none) (hD : A.depth ≤ 400) (hU : A.units ≤ 500)
    (hw : s.heap.IsList wa wv.toArray) (iw : IntsAre wv ws) (hn : s.heap.IsList na nv.toArray) (ii : IntsAre nv ns) (lw : ws.length ≤ 1000) (lw0 : 1 ≤ ws.length) (ln : ns.length ≤ 3) (hb : ∀ n ∈ ns, 0 ≤ n ∧ n < 1000000)
    (h : ∀ la vs nn h' tk', Fr h₀ L h' m → News h₀ L h' ((la, listOf vs.toArray nn) :: news) → (∀ p ∈ news, p.1 ≠ la) → IntsAre vs (piecesR ws ns) → Q (.ref la) { s with heap := h', toks := tk' }) : wpAny (model PySem.Challenge.rw_mq0109_01.row.prog w) A (call (.ref 91) [.ref wa, .ref na]) Q E s := by
  refine weaken 400 500 h0 hD hU ?_
  w_top off
  revert X₀; k_fill; intro X₀
  have X := X₀.keeps F₀.keep
  have T := T₀.keeps F₀.keep
  refine' enterP (binds := [("windows", .ref wa), ("numbers", .ref na)]) X T.nolimit (by decide) (by k_is) (by k_is) (BindsTo.of_eq rfl) (locs rfl) ?_
  intro L' h₁ F N
  (try dsimp only)
  refine halt_in ?_
  k_steps
  rename_i pa _ _ _ F1 N1
  refine halt_out (For_turns (by assumption) ?_)
  k_steps
  refine halt_out (turnsB (σ := List Value × Nat) (fun c => [(pa, W.listOf c.1.toArray c.2)]) (fun _ => []) [Str.ofString "v", Str.ofString "times", Str.ofString "half", Str.ofString "piece"] (fun i c => IntsAre c.1 ([ws.getD 0 0] ++ (ns.take i).map (pieceR ws))) ([.int (ws.getD (Int.toNat 0) 0) ?t0], 0) rfl hn F1 ?g1 ?g2 ?g3 (fun _ _ => rfl) ?g4 ?g5)
  case g1 => exact N1
  case g2 => intro p hp; cases hp
  case g3 => exact IntsAre.cons _ _ IntsAre.nil
  case g4 =>
    rintro ⟨pv, pn⟩ i v u h9 tk9 own hv hoff iP F9 N9
    obtain ⟨n, tn, rfl, hni⟩ := IntsAre.at ii i v hv
    dsimp only [kstB] at F9
    dsimp only at iP
    change News s.heap L' h9 ((pa, W.listOf pv.toArray pn) :: own) at N9
    replace hoff : OwnOff own [pa] := hoff
    have bn := hb n (List.mem_of_getElem? hni)
    have hpl : pv.length ≤ 10 := by have := iP.length; simp at this; omega
    k_steps
    all_goals (
      refine append_K (by assumption) (by assumption) (Upd.tail (tup_ne (by assumption)) (Upd.head (hoff.ne (.head _)))) ?_ (by rw [List.size_toArray]; have : sizeLine = 16777216 := rfl; omega)
      intro h8 F8 N8
      k_steps)
    · refine endT (c := (pv ++ [Value.int ((ws.getD ((n.fdiv 256).fmod (ws.length : Int)).toNat 0) + (1 - 2 * (ws.getD ((n.fdiv 256).fmod (ws.length : Int)).toNat 0).fmod 2)) _], pn + 1)) F8 N8 (one_push (.tail _ (.head _))) ?h2 hoff ?h4 ?h5 ?h6
      case h2 => exact fun p hp => .tail _ (.tail _ hp)
      case h4 => intro p hp; cases hp
      case h5 =>
        intro z z2 z3
        have z4 := z3
        simp only [List.contains_cons, List.contains_nil, Bool.or_false, Bool.or_eq_false_iff, beq_eq_false_iff_ne] at z4
        obtain ⟨a1, a2, a3, a4⟩ := z4
        simp only [if_neg a1, if_neg a2, if_neg a3, if_neg a4, z3]
        rfl
      case h6 => exact pieces_step hni iP (pieceR_three (by assumption) (by omega))
    · refine endT (c := (pv ++ [Value.int (ws.getD ((n.fdiv 256).fmod (ws.length : Int)).toNat 0) _], pn + 1)) F8 N8 (one_push (.tail _ (.head _))) ?h2 hoff ?h4 ?h5 ?h6
      case h2 => exact fun p hp => .tail _ (.tail _ hp)
      case h4 => intro p hp; cases hp
      case h5 =>
        intro z z2 z3
        have z4 := z3
        simp only [List.contains_cons, List.contains_nil, Bool.or_false, Bool.or_eq_false_iff, beq_eq_false_iff_ne] at z4
        obtain ⟨a1, a2, a3, a4⟩ := z4
        simp only [if_neg a1, if_neg a2, if_neg a3, if_neg a4, z3]
        rfl
      case h6 => exact pieces_step hni iP (pieceR_other (by assumption) (by omega))
  case g5 =>
    rintro ⟨pv, pn⟩ u h9 tk9 iP F9 N9
    dsimp only [kstB] at F9
    dsimp only at iP
    change News s.heap L' h9 [(pa, W.listOf pv.toArray pn)] at N9
    have hlen : nv.length = ns.length := ii.length
    rw [List.take_of_length_le (by omega)] at iP
    k_steps
    have e5 : (-1 + (ws.length : Int)).toNat = ws.length - 1 := by omega
    refine halt_out (add_ints (by assumption) (by assumption) (News.isList (by assumption) (.tail _ (.head _))) (News.isList (by assumption) (.head _)) iP (IntsAre.cons _ _ IntsAre.nil) (by simp; omega) ?_)
    intro lx xv h6 F6 N6 l6 i6
    rw [e5] at i6
    k_steps
    exact h _ _ _ _ _ (frOn F₀ (Fr.keep (by assumption))) (newsNew F₀ N₀ (Fr.keep F6) (N6 _ (.head _)).1 (N6 _ (.head _)).2.2) (newsApart N₀ (N6 _ (.head _)).2.2) i6
end Mine

namespace Mine
open Builtin Builtin.Str StrLaws
/-- the texts with dots between -/
def joinL (w : List Nat) : List (List Nat) → List Nat
  | [] => w
  | v :: r => w ++ ([46, 46, 46] ++ joinL v r)
theorem dots_list : dots.cps.toList = [46, 46, 46] := by decide +kernel
theorem dots_len : dots.length = 3 := by decide +kernel
theorem str_len (x : Str) : x.length = x.cps.toList.length := by simp [Str.length]
theorem at_dots_iff {x : Str} {i : Nat} : At x dots x.length i ↔ (x.cps.toList.drop i).take 3 = [46, 46, 46] := by
  unfold At
  rw [subAt_eq, dots_len, dots_list, beq_iff_eq]
  constructor
  · exact fun h => h.2
  · intro h
    refine ⟨?_, h⟩
    have := congrArg List.length h
    rw [List.length_take, List.length_drop, ← str_len] at this
    simp at this
    omega
theorem not_at {x : Str} {a : Nat} {w rest : List Nat} (hx : x.cps.toList.drop a = w ++ rest) (hw : 46 ∉ w) : ∀ k, a ≤ k → k < a + w.length → ¬ At x dots x.length k := by
  intro k h1 h2 hA
  have h3 := at_dots_iff.mp hA
  have h4 : (x.cps.toList.drop k).head? = some 46 := by
    cases hd : x.cps.toList.drop k with
    | nil => rw [hd] at h3; simp at h3
    | cons b t => rw [hd] at h3; simp at h3; rw [h3.1]; rfl
  rw [List.head?_drop] at h4
  have h5 : (x.cps.toList.drop a)[k - a]? = some 46 := by rw [List.getElem?_drop, show a + (k - a) = k by omega]; exact h4
  rw [hx, List.getElem?_append_left (by omega)] at h5
  exact hw (List.mem_of_getElem? h5)
theorem chain_of {x : Str} : ∀ (ws : List (List Nat)) (w : List Nat) (a : Nat), a ≤ x.length → x.cps.toList.drop a = joinL w ws → (∀ v ∈ w :: ws, 46 ∉ v) →
    ∃ cuts f, ChainG x dots x.length a cuts f ∧ (∀ k, f ≤ k → ¬ At x dots x.length k) ∧ partsFrom x 3 a cuts = (w :: ws).map (fun l => (⟨l.toArray⟩ : Str)) ∧ (ws ≠ [] → cuts ≠ []) := by
  intro ws
  induction ws with
  | nil =>
    intro w a ha hx hf
    refine ⟨[], a, rfl, ?_, ?_, fun h => absurd rfl h⟩
    · intro k hk hA
      have hl := congrArg List.length hx
      rw [List.length_drop, ← str_len] at hl
      change x.length - a = w.length at hl
      by_cases hk2 : k < a + w.length
      · exact not_at (rest := []) (by rw [hx]; simp [joinL]) (hf w (.head _)) k hk hk2 hA
      · have := hA.1
        rw [dots_len] at this
        omega
    · show [strSub x a x.length] = _
      rw [List.map_cons, List.map_nil]
      congr 1
      apply Str.ext'
      apply Array.toList_inj.mp
      rw [strSub_toList, hx]
      have hl := congrArg List.length hx
      rw [List.length_drop, ← str_len] at hl
      exact List.take_of_length_le (Nat.le_of_eq hl.symm)
  | cons v r ih =>
    intro w a ha hx hf
    have hx' : x.cps.toList.drop a = w ++ ([46, 46, 46] ++ joinL v r) := hx
    have hl := congrArg List.length hx'
    rw [List.length_drop, ← str_len, List.length_append, List.length_append] at hl
    simp only [List.length_cons, List.length_nil] at hl
    have hd : x.cps.toList.drop (a + w.length + 3) = joinL v r := by
      rw [show a + w.length + 3 = a + (w.length + 3) by omega, ← List.drop_drop, hx', ← List.drop_drop, List.drop_left]
      rfl
    have hd1 : x.cps.toList.drop (a + w.length) = [46, 46, 46] ++ joinL v r := by
      rw [← List.drop_drop, hx', List.drop_left]
    obtain ⟨cuts, f, h1, h2, h3, _⟩ := ih v (a + w.length + 3) (by omega) hd fun u hu => hf u (.tail _ hu)
    refine ⟨(a + w.length) :: cuts, f, ⟨by omega, ?_, not_at hx' (hf w (.head _)), ?_⟩, h2, ?_, fun _ => List.cons_ne_nil _ _⟩
    · rw [at_dots_iff, hd1]; rfl
    · rw [dots_len]; exact h1
    · show strSub x a (a + w.length) :: partsFrom x 3 (a + w.length + 3) cuts = _
      rw [h3, List.map_cons]
      congr 1
      apply Str.ext'
      apply Array.toList_inj.mp
      rw [strSub_toList, hx', show a + w.length - a = w.length by omega, List.take_left]
theorem chain_unique {x y : Str} {hi : Nat} : ∀ {c₁ c₂ : List Nat} {a f₁ f₂ : Nat}, ChainG x y hi a c₁ f₁ → ChainG x y hi a c₂ f₂ → (∀ k, f₁ ≤ k → ¬ At x y hi k) → (∀ k, f₂ ≤ k → ¬ At x y hi k) → c₁ = c₂
  | [], [], _, _, _, _, _, _, _ => rfl
  | [], c :: r, a, f₁, f₂, h1, h2, t1, _ => by
    have e : f₁ = a := h1
    exact absurd h2.2.1 (t1 c (by rw [e]; exact h2.1))
  | c :: r, [], a, f₁, f₂, h1, h2, _, t2 => by
    have e : f₂ = a := h2
    exact absurd h1.2.1 (t2 c (by rw [e]; exact h1.1))
  | c :: r, d :: q, a, f₁, f₂, h1, h2, t1, t2 => by
    have e : c = d := by
      rcases Nat.lt_trichotomy c d with h | h | h
      · exact absurd h1.2.1 (h2.2.2.1 c h1.1 h)
      · exact h
      · exact absurd h2.2.1 (h1.2.2.1 d h2.1 h)
    subst e
    rw [chain_unique h1.2.2.2 h2.2.2.2 t1 t2]
theorem kind_one (x : Str) : 1 ≤ Builtin.Str.strKind x := by unfold Builtin.Str.strKind; split <;> (try split) <;> omega
theorem kind_dots : Builtin.Str.strKind dots = 1 := by decide +kernel
theorem split_of {x : Str} {w v : List Nat} {r : List (List Nat)} (hx : x.cps.toList = joinL w (v :: r)) (hf : ∀ u ∈ w :: v :: r, 46 ∉ u) :
    Txt.split x dots = (w :: v :: r).map (fun l => (⟨l.toArray⟩ : Str)) ∧ (occurrences x dots 0 x.length 1).isEmpty = false := by
  obtain ⟨cuts, f, h1, h2, h3, h4⟩ := chain_of (x := x) (v :: r) w 0 (Nat.zero_le _) (by rw [List.drop_zero]; exact hx) hf
  have hne := h4 (List.cons_ne_nil _ _)
  obtain ⟨f', k1, k2⟩ := occ_tight x dots (by rw [dots_len]; decide)
  have e := chain_unique k1 h1 k2 h2
  obtain ⟨c, q, rfl⟩ := List.exists_cons_of_ne_nil hne
  have hA : At x dots x.length c := h1.2.1
  refine ⟨?_, ?_⟩
  · unfold Txt.split
    have hk := kind_one x
    have hlen := hA.1
    rw [dots_len] at hlen
    have h5 : (decide (x.length < dots.length) || decide (Builtin.Str.strKind x < Builtin.Str.strKind dots)) = false := by
      rw [dots_len, kind_dots]
      simp only [Bool.or_eq_false_iff, decide_eq_false_iff_not]
      omega
    rw [h5, e, partsBetween_eq, dots_len, h3]
    simp
  · have := (found_iff x dots).mpr ⟨c, hA.1, hA.2⟩
    simpa using this
end Mine

namespace Mine
open Builtin
/-- k figures of N to the base B, the greatest first -/
def dg (B : Nat) : Nat → Nat → List Nat
  | 0, _ => []
  | k + 1, N => dg B k (N / B) ++ [N % B]
theorem dg_len (B : Nat) : ∀ k N, (dg B k N).length = k
  | 0, _ => rfl
  | k + 1, N => by simp [dg, dg_len B k]
theorem dg_lt {B : Nat} (hB : 0 < B) : ∀ k N, ∀ d ∈ dg B k N, d < B
  | 0, _, d, h => by cases h
  | k + 1, N, d, h => by
    rcases List.mem_append.mp h with h | h
    · exact dg_lt hB k _ d h
    · rw [List.mem_singleton.mp h]; exact Nat.mod_lt _ hB
theorem dg_add (B k : Nat) : ∀ m N, dg B (k + m) N = dg B k (N / B ^ m) ++ dg B m N
  | 0, N => by simp [dg]
  | m + 1, N => by
    show dg B (k + m) (N / B) ++ [N % B] = _
    rw [dg_add B k m (N / B), Nat.div_div_eq_div_mul, Nat.pow_succ, Nat.mul_comm B, List.append_assoc]
    rfl
theorem dg_mod (B : Nat) : ∀ m N, dg B m (N % B ^ m) = dg B m N
  | 0, _ => rfl
  | m + 1, N => by
    show dg B m (N % B ^ (m + 1) / B) ++ [N % B ^ (m + 1) % B] = dg B m (N / B) ++ [N % B]
    have e1 : N % B ^ (m + 1) / B = N / B % B ^ m := by rw [Nat.pow_succ, Nat.mul_comm, Nat.mod_mul_right_div_self]
    have e2 : N % B ^ (m + 1) % B = N % B := Nat.mod_mod_of_dvd _ ⟨B ^ m, by rw [Nat.pow_succ, Nat.mul_comm]⟩
    rw [e1, e2, dg_mod B m]
theorem dg_inj {B : Nat} (hB : 0 < B) : ∀ m x y, x < B ^ m → y < B ^ m → dg B m x = dg B m y → x = y
  | 0, x, y, hx, hy, _ => by simp at hx hy; omega
  | m + 1, x, y, hx, hy, h => by
    obtain ⟨h1, h2⟩ := List.append_inj' h rfl
    have h3 := (List.cons.inj h2).1
    have hd : ∀ z, z < B ^ (m + 1) → z / B < B ^ m := fun z hz => Nat.div_lt_of_lt_mul (by rw [Nat.mul_comm]; rwa [Nat.pow_succ] at hz)
    have h4 := dg_inj hB m _ _ (hd x hx) (hd y hy) h1
    rw [← Nat.div_add_mod x B, ← Nat.div_add_mod y B, h3, h4]
theorem dg_sub {B M c j N : Nat} (h : j + c ≤ M) : ((dg B M N).drop j).take c = dg B c (N / B ^ (M - c - j) % B ^ c) := by
  have e : M = j + (c + (M - c - j)) := by omega
  conv => lhs; rw [e]
  rw [dg_add, dg_add, List.drop_left' (dg_len _ _ _), List.take_left' (dg_len _ _ _), dg_mod]
theorem map_inj_on {f : Nat → Nat} {B : Nat} (hf : ∀ i, i < B → ∀ j, j < B → f i = f j → i = j) : ∀ {l r : List Nat}, (∀ x ∈ l, x < B) → (∀ x ∈ r, x < B) → l.map f = r.map f → l = r
  | [], [], _, _, _ => rfl
  | [], _ :: _, _, _, h => by cases h
  | _ :: _, [], _, _, h => by cases h
  | a :: l, b :: r, hl, hr, h => by
    obtain ⟨h1, h2⟩ := List.cons.inj h
    rw [hf a (hl a (.head _)) b (hr b (.head _)) h1, map_inj_on hf (fun x hx => hl x (.tail _ hx)) (fun x hx => hr x (.tail _ hx)) h2]
/-- the matching of figures, written by f -/
theorem dg_match {f : Nat → Nat} {B M c j N p : Nat} (hB : 0 < B) (hf : ∀ i, i < B → ∀ j, j < B → f i = f j → i = j) (h : j + c ≤ M) (hp : p < B ^ c) :
    (((dg B M N).map f).drop j).take c = (dg B c p).map f ↔ N / B ^ (M - c - j) % B ^ c = p := by
  rw [← List.map_drop, ← List.map_take, dg_sub h]
  constructor
  · intro e
    exact dg_inj hB c _ _ (Nat.mod_lt _ (Nat.pow_pos hB)) hp (map_inj_on hf (dg_lt hB _ _) (dg_lt hB _ _) e)
  · intro e; rw [e]
def hexU (d : Nat) : Nat := (Bytes.toUpper (Bytes.hexDigit d).toUInt8).toNat
def b64U (d : Nat) : Nat := ((b64c (d : Int)).toNat.toUInt8).toNat
def hexI (c : Nat) : Nat := if c < 65 then c - 48 else c - 55
def b64I (c : Nat) : Nat := if 97 ≤ c then c - 71 else if 65 ≤ c then c - 65 else if 48 ≤ c then c + 4 else if c = 43 then 62 else 63
theorem hexU_inv : ∀ i, i < 16 → hexI (hexU i) = i := by decide +kernel
theorem b64U_inv : ∀ i, i < 64 → b64I (b64U i) = i := by decide +kernel
theorem hexU_inj : ∀ i, i < 16 → ∀ j, j < 16 → hexU i = hexU j → i = j := fun i hi j hj h => by rw [← hexU_inv i hi, h, hexU_inv j hj]
theorem b64U_inj : ∀ i, i < 64 → ∀ j, j < 64 → b64U i = b64U j → i = j := fun i hi j hj h => by rw [← b64U_inv i hi, h, b64U_inv j hj]
theorem hexU_dot : ∀ i, i < 16 → hexU i ≠ 46 := by decide +kernel
theorem b64U_dot : ∀ i, i < 64 → b64U i ≠ 46 := by decide +kernel
def wN (row : List Int) : Nat := (wholeR row).toNat
theorem wholeR_snoc (row : List Int) (b : Int) : wholeR (row ++ [b]) = wholeR row * 256 + b := by simp [wholeR]
theorem wholeR_nonneg {row : List Int} : (∀ n ∈ row, 0 ≤ n ∧ n < 256) → 0 ≤ wholeR row := by
  induction row using snoc_ind with
  | h0 => intro _; decide
  | h1 l a ih =>
    intro h
    have h1 := ih fun n hn => h n (List.mem_append_left _ hn)
    have h2 := h a (by simp)
    rw [wholeR_snoc]
    omega
theorem wN_snoc {row : List Int} {b : Int} (h : ∀ n ∈ row, 0 ≤ n ∧ n < 256) (hb : 0 ≤ b) : wN (row ++ [b]) = wN row * 256 + b.toNat := by
  have := wholeR_nonneg h
  unfold wN
  rw [wholeR_snoc]
  omega
theorem wr4_snoc (ns : List Int) (b : Int) (h0 : 0 ≤ b) (h1 : b < 256) : wr4 (ns ++ [b]) = wr4 ns ++ [hexU (b.toNat / 16), hexU (b.toNat % 16)] := by
  have e : (b.toNat.toUInt8).toNat = b.toNat := by
    show (UInt8.ofNat b.toNat).toNat = _
    rw [UInt8.toNat_ofNat', Nat.mod_eq_of_lt (by omega)]
  simp [wr4, b16, octs, hexs, hexU, e]
theorem wr4_dg {row : List Int} : (∀ n ∈ row, 0 ≤ n ∧ n < 256) → wr4 row = (dg 16 (2 * row.length) (wN row)).map hexU := by
  induction row using snoc_ind with
  | h0 => intro _; rfl
  | h1 l a ih =>
    intro h
    have h2 := h a (by simp)
    have hl : ∀ n ∈ l, 0 ≤ n ∧ n < 256 := fun n hn => h n (List.mem_append_left _ hn)
    rw [wr4_snoc l a h2.1 h2.2, ih hl, wN_snoc hl h2.1, List.length_append]
    show _ = ((dg 16 (2 * l.length) ((wN l * 256 + a.toNat) / 16 / 16) ++ [(wN l * 256 + a.toNat) / 16 % 16]) ++ [(wN l * 256 + a.toNat) % 16]).map hexU
    have ha : a.toNat < 256 := by omega
    have e1 : (wN l * 256 + a.toNat) / 16 / 16 = wN l := by omega
    have e2 : (wN l * 256 + a.toNat) / 16 % 16 = a.toNat / 16 := by omega
    have e3 : (wN l * 256 + a.toNat) % 16 = a.toNat % 16 := by omega
    rw [e1, e2, e3]
    simp
theorem b64_three {l : List Int} {a b c : Int} (h : (b64st l).2.1 = 0) (ha : 0 ≤ a ∧ a < 256) (hb : 0 ≤ b ∧ b < 256) (hc : 0 ≤ c ∧ c < 256) :
    (b64st (l ++ [a, b, c])).2.1 = 0 ∧ (b64st (l ++ [a, b, c])).1 = (b64st l).1 ++ [b64c (a / 4), b64c (a % 4 * 16 + b / 16), b64c (b % 16 * 4 + c / 64), b64c (c % 64)] := by
  have e : b64st (l ++ [a, b, c]) = b64step (b64step (b64step (b64st l) a) b) c := by simp [b64st]
  rw [e]
  have s1 : b64step (b64st l) a = ((b64st l).1 ++ [b64c (((b64st l).2.2 * 256 + a) % 65536 / 4 % 64)], 2, ((b64st l).2.2 * 256 + a) % 65536) := by
    unfold b64step; dsimp only; rw [if_pos h]
  rw [s1]
  unfold b64step
  simp only [if_true, if_false, show ((2 : Int) = 0) = False from by simp, show ((4 : Int) = 0) = False from by simp, show ((4 : Int) = 2) = False from by simp]
  generalize (b64st l).2.2 = x
  refine ⟨trivial, ?_⟩
  have e1 : (x * 256 + a) % 65536 / 4 % 64 = a / 4 := by omega
  have e2 : ((x * 256 + a) % 65536 * 256 + b) % 65536 / 16 % 64 = a % 4 * 16 + b / 16 := by omega
  have e3 : (((x * 256 + a) % 65536 * 256 + b) % 65536 * 256 + c) % 65536 / 64 % 64 = b % 16 * 4 + c / 64 := by omega
  have e4 : (((x * 256 + a) % 65536 * 256 + b) % 65536 * 256 + c) % 65536 / 1 % 64 = c % 64 := by omega
  rw [e1, e2, e3, e4]
  simp
theorem three_ind {P : List Int → Prop} (h0 : P []) (h3 : ∀ l a b c, l.length % 3 = 0 → P l → P (l ++ [a, b, c])) : ∀ (k : Nat) (l : List Int), l.length = 3 * k → P l
  | 0, l, h => by rw [List.eq_nil_of_length_eq_zero h]; exact h0
  | k + 1, l, h => by
    have e1 : l.take (3 * k) ++ l.drop (3 * k) = l := List.take_append_drop _ _
    have e2 : (l.drop (3 * k)).length = 3 := by rw [List.length_drop]; omega
    have e3 : (l.take (3 * k)).length = 3 * k := by rw [List.length_take]; omega
    match hd : l.drop (3 * k), e2 with
    | [a, b, c], _ =>
      rw [← e1, hd]
      exact h3 _ a b c (by omega) (three_ind h0 h3 k _ e3)
theorem b64_dg : ∀ {row : List Int}, row.length % 3 = 0 → (∀ n ∈ row, 0 ≤ n ∧ n < 256) → (b64st row).2.1 = 0 ∧ wr6 row = (dg 64 (4 * row.length / 3) (wN row)).map b64U := by
  intro row hl
  refine three_ind (P := fun row => (∀ n ∈ row, 0 ≤ n ∧ n < 256) → (b64st row).2.1 = 0 ∧ wr6 row = (dg 64 (4 * row.length / 3) (wN row)).map b64U) (fun _ => ⟨rfl, rfl⟩) ?_ (row.length / 3) row (by omega)
  intro l a b c h3 ih h
  have hL : ∀ n ∈ l, 0 ≤ n ∧ n < 256 := fun n hn => h n (List.mem_append_left _ hn)
  have ha := h a (by simp)
  have hb := h b (by simp)
  have hc := h c (by simp)
  obtain ⟨i1, i2⟩ := ih hL
  obtain ⟨t1, t2⟩ := b64_three i1 ha hb hc
  refine ⟨t1, ?_⟩
  have ew : wN (l ++ [a, b, c]) = ((wN l * 256 + a.toNat) * 256 + b.toNat) * 256 + c.toNat := by
    have e : l ++ [a, b, c] = ((l ++ [a]) ++ [b]) ++ [c] := by simp
    have m2 : ∀ n ∈ l ++ [a] ++ [b], 0 ≤ n ∧ n < 256 := fun n hn => h n (by rw [e]; exact List.mem_append_left _ hn)
    rw [e, wN_snoc m2 hc.1, wN_snoc (fun n hn => m2 n (List.mem_append_left _ hn)) hb.1, wN_snoc hL ha.1]
  have el : 4 * (l ++ [a, b, c]).length / 3 = 4 * l.length / 3 + 4 := by simp; omega
  rw [ew, el]
  have hw6 : wr6 (l ++ [a, b, c]) = wr6 l ++ [b64U (a.toNat / 4), b64U (a.toNat % 4 * 16 + b.toNat / 16), b64U (b.toNat % 16 * 4 + c.toNat / 64), b64U (c.toNat % 64)] := by
    unfold wr6 b64U
    rw [t2]
    have q1 : ((a.toNat / 4 : Nat) : Int) = a / 4 := by omega
    have q2 : ((a.toNat % 4 * 16 + b.toNat / 16 : Nat) : Int) = a % 4 * 16 + b / 16 := by omega
    have q3 : ((b.toNat % 16 * 4 + c.toNat / 64 : Nat) : Int) = b % 16 * 4 + c / 64 := by omega
    have q4 : ((c.toNat % 64 : Nat) : Int) = c % 64 := by omega
    rw [q1, q2, q3, q4]
    simp
  rw [hw6, i2]
  show _ = ((((dg 64 (4 * l.length / 3) _ ++ [_]) ++ [_]) ++ [_]) ++ [_]).map b64U
  generalize wN l = W
  have ha' : a.toNat < 256 := by omega
  have hb' : b.toNat < 256 := by omega
  have hc' : c.toNat < 256 := by omega
  generalize a.toNat = x at *
  generalize b.toNat = y at *
  generalize c.toNat = z at *
  have e1 : (((W * 256 + x) * 256 + y) * 256 + z) / 64 / 64 / 64 / 64 = W := by omega
  have e2 : (((W * 256 + x) * 256 + y) * 256 + z) / 64 / 64 / 64 % 64 = x / 4 := by omega
  have e3 : (((W * 256 + x) * 256 + y) * 256 + z) / 64 / 64 % 64 = x % 4 * 16 + y / 16 := by omega
  have e4 : (((W * 256 + x) * 256 + y) * 256 + z) / 64 % 64 = y % 16 * 4 + z / 64 := by omega
  have e5 : (((W * 256 + x) * 256 + y) * 256 + z) % 64 = z % 64 := by omega
  rw [e1, e2, e3, e4, e5]
  simp
end Mine

namespace Mine
open Builtin Builtin.Str StrLaws
/-- the first place from lo on, among n, that p takes -/
def seek (p : Nat → Bool) : Nat → Nat → Option Nat
  | _, 0 => none
  | lo, n + 1 => if p lo = true then some lo else seek p (lo + 1) n
theorem seek_none {p : Nat → Bool} : ∀ {n lo : Nat}, (∀ j, lo ≤ j → j < lo + n → p j = false) → seek p lo n = none
  | 0, _, _ => rfl
  | n + 1, lo, h => by
    unfold seek
    rw [if_neg (by rw [h lo (Nat.le_refl _) (by omega)]; decide)]
    exact seek_none fun j h1 h2 => h j (by omega) (by omega)
theorem seek_some {p : Nat → Bool} {j : Nat} : ∀ {n lo : Nat}, lo ≤ j → j < lo + n → p j = true → (∀ k, lo ≤ k → k < j → p k = false) → seek p lo n = some j
  | 0, lo, h1, h2, _, _ => by omega
  | n + 1, lo, h1, h2, h3, h4 => by
    unfold seek
    by_cases e : lo = j
    · subst e; rw [if_pos h3]
    · rw [if_neg (by rw [h4 lo (Nat.le_refl _) (by omega)]; decide)]
      exact seek_some (by omega) (by omega) h3 fun k h5 h6 => h4 k (by omega) h6
theorem seek_cases (p : Nat → Bool) : ∀ (n lo : Nat), (seek p lo n = none ∧ ∀ j, lo ≤ j → j < lo + n → p j = false) ∨ ∃ j, seek p lo n = some j ∧ lo ≤ j ∧ j < lo + n ∧ p j = true ∧ ∀ k, lo ≤ k → k < j → p k = false
  | 0, lo => .inl ⟨rfl, fun j h1 h2 => by omega⟩
  | n + 1, lo => by
    unfold seek
    by_cases h : p lo = true
    · rw [if_pos h]
      exact .inr ⟨lo, rfl, Nat.le_refl _, by omega, h, fun k h1 h2 => by omega⟩
    · rw [if_neg h]
      have h' : p lo = false := by simpa using h
      rcases seek_cases p n (lo + 1) with ⟨h1, h2⟩ | ⟨j, h1, h2, h3, h4, h5⟩
      · refine .inl ⟨h1, fun j h3 h4 => ?_⟩
        by_cases e : j = lo
        · rw [e]; exact h'
        · exact h2 j (by omega) (by omega)
      · refine .inr ⟨j, h1, by omega, by omega, h4, fun k h6 h7 => ?_⟩
        by_cases e : k = lo
        · rw [e]; exact h'
        · exact h5 k (by omega) h7
theorem seek_cut {p q : Nat → Bool} {lo n m : Nat} (hm : m ≤ n) (h : ∀ j, lo ≤ j → j < lo + m → p j = q j) (h0 : ∀ j, lo + m ≤ j → j < lo + n → p j = false) : seek p lo n = seek q lo m := by
  rcases seek_cases q m lo with ⟨h1, h2⟩ | ⟨j, h1, h2, h3, h4, h5⟩
  · rw [h1]
    refine seek_none fun j h3 h4 => ?_
    by_cases hj : j < lo + m
    · rw [h j h3 hj]; exact h2 j h3 hj
    · exact h0 j (by omega) h4
  · rw [h1]
    exact seek_some h2 (by omega) (by rw [h j h2 h3]; exact h4) fun k h6 h7 => by rw [h k h6 (by omega)]; exact h5 k h6 h7
theorem occ_one (x y : Str) (lo hi : Nat) : (occurrences x y lo hi 1 = [] ∧ ∀ i, lo ≤ i → ¬ At x y hi i) ∨ ∃ i r, occurrences x y lo hi 1 = i :: r ∧ lo ≤ i ∧ At x y hi i ∧ ∀ k, lo ≤ k → k < i → ¬ At x y hi k := by
  have hmem : ∀ i, lo ≤ i → At x y hi i → i ∈ _root_.List.range' lo (hi + 1 - lo) := fun i h1 h2 => List.mem_range'_1.mpr ⟨h1, by have := h2.1; omega⟩
  rw [occ_eq]
  generalize hR : (forIn (_root_.List.range' lo (hi + 1 - lo)) ((#[] : Array Nat), lo) (occBody x y hi 1)).run.fst = R
  rcases occ_first x y hi 1 (Nat.le_refl _) (_root_.List.range' lo (hi + 1 - lo)) lo (fun i hi => (List.mem_range'_1.mp hi).1) with ⟨h0, hn⟩ | ⟨pre, a, post, e, h0, ha, hn⟩
  · left
    rw [hR] at h0
    exact ⟨by rw [h0], fun i h1 h2 => hn i (hmem i h1 h2) h2⟩
  · right
    rw [hR] at h0
    have hs := range'_split_from e
    have h1 : R.toList[0]? = some a := by simpa using h0
    obtain ⟨b, t, hb⟩ : ∃ b t, R.toList = b :: t := by
      cases hL : R.toList with
      | nil => rw [hL] at h1; cases h1
      | cons b t => exact ⟨b, t, rfl⟩
    rw [hb] at h1
    have h2 : b = a := by simpa using h1
    exact ⟨a, t, by rw [hb, h2], hs.1, ha, fun k hk0 hk => hn k (hs.2 k hk0 hk)⟩
theorem find4_seek {x y : Str} {lo ep : Nat} (h1 : lo ≤ x.length) (h2 : ep ≤ x.length) : find4 x y lo ep = (match seek (subAt x y) lo (ep + 1 - y.length - lo) with | some j => (j : Int) | none => -1) := by
  unfold find4
  have e1 : fromIndex x.length lo = lo := by unfold fromIndex; rw [if_neg (by omega)]; omega
  have e2 : min (fromIndex x.length ep) x.length = ep := by
    have : fromIndex x.length ep = ep := by unfold fromIndex; rw [if_neg (by omega)]; omega
    omega
  rw [e1, e2]
  rcases occ_one x y lo ep with ⟨h3, h4⟩ | ⟨i, r, h3, h4, h5, h6⟩
  · rw [h3, seek_none fun j h5 h6 => ?_]
    have := h4 j h5
    unfold At at this
    cases hS : subAt x y j with
    | false => rfl
    | true => exact absurd ⟨by omega, hS⟩ this
  · have hA := h5.1
    rw [h3, seek_some (j := i) h4 (by omega) h5.2 fun k h7 h8 => ?_]
    have := h6 k h7 h8
    unfold At at this
    cases hS : subAt x y k with
    | false => rfl
    | true => exact absurd ⟨by omega, hS⟩ this
def em : Str := ⟨#[]⟩
theorem em_len : em.length = 0 := rfl
theorem sub_em (x : Str) (i : Nat) : subAt x em i = true := by rw [subAt_eq, em_len]; rfl
theorem find4_em {x : Str} {lo ep : Nat} (h1 : lo ≤ ep) (h2 : ep ≤ x.length) : find4 x em lo ep = lo := by
  rw [find4_seek (by omega) h2, em_len, seek_some (j := lo) (Nat.le_refl _) (by omega) (sub_em x lo) fun k h3 h4 => by omega]

/-- a net of places: half units a sign, M signs, c signs a piece -/
structure Net (half M c : Nat) (got : Str) (T : Nat → Str) (ws ps : List Int) : Prop where
  h1 : 1 ≤ half
  c1 : 1 ≤ c
  hc : half * c = 12
  le : c ≤ M
  wl : ws.length = half * (M - c) + 1
  gl : got.length = M
  tl : ∀ q, q < ps.length → (T q).length = c
  mt : ∀ q j, q < ps.length → j + c ≤ M → subAt got (T q) j = decide (ws.getD (half * j) 0 = ps.getD q 0)
  fr : ∀ q, q < ps.length → 46 ∉ (T q).cps.toList

def plac (half j0 n : Nat) : List Int := (_root_.List.range n).map fun i => ((half * (j0 + i) : Nat) : Int)
theorem plac_succ (half j0 n : Nat) : plac half j0 (n + 1) = ((half * j0 : Nat) : Int) :: plac half (j0 + 1) n := by
  unfold plac
  rw [List.range_succ_eq_map, List.map_cons, List.map_map]
  congr 1
  refine List.map_congr_left fun i _ => ?_
  show ((half * (j0 + (i + 1)) : Nat) : Int) = _
  rw [show j0 + (i + 1) = j0 + 1 + i by omega]
def pq (half : Nat) (ws ps : List Int) (q j : Nat) : Bool := decide (half * j < ws.length) && decide (ws.getD (half * j) 0 = ps.getD q 0)
def fq (ws ps : List Int) (q : Int) (e : Int) : Bool := decide (e < (ws.length : Int)) && decide (ws.getD e.toNat 0 = ps.getD q.toNat 0)
theorem fq_pq (half : Nat) (ws ps : List Int) (q j : Nat) : fq ws ps q ((half * j : Nat) : Int) = pq half ws ps q j := by
  unfold fq pq
  rw [Int.toNat_natCast, Int.toNat_natCast]
  congr 1
  exact decide_eq_decide.mpr (by omega)
theorem filt (half : Nat) (ws ps : List Int) (q : Nat) : ∀ (n j0 : Nat), (seek (pq half ws ps q) j0 n = none ∧ (plac half j0 n).filter (fq ws ps q) = []) ∨ ∃ j r, seek (pq half ws ps q) j0 n = some j ∧ (plac half j0 n).filter (fq ws ps q) = ((half * j : Nat) : Int) :: r
  | 0, _ => .inl ⟨rfl, rfl⟩
  | n + 1, j0 => by
    rw [plac_succ, List.filter_cons, fq_pq]
    unfold seek
    by_cases h : pq half ws ps q j0 = true
    · rw [if_pos h, if_pos h]; exact .inr ⟨j0, _, rfl, rfl⟩
    · rw [if_neg h, if_neg h]; exact filt half ws ps q n (j0 + 1)
section
variable {half M c : Nat} {got : Str} {T : Nat → Str} {ws ps : List Int} (H : Net half M c got T ws ps)
include H
theorem Net.top : (ws.length : Int) + 11 = ((half * M : Nat) : Int) := by
  have e : half * M = half * (M - c) + half * c := by rw [← Nat.mul_add, Nat.sub_add_cancel H.le]
  have := H.wl
  have := H.hc
  omega
theorem Net.pq_eq {q j : Nat} (hq : q < ps.length) : pq half ws ps q j = (decide (j + c ≤ M) && subAt got (T q) j) := by
  unfold pq
  have e : (half * j < ws.length) ↔ j + c ≤ M := by
    rw [H.wl, Nat.lt_succ_iff]
    constructor
    · intro h
      have := Nat.le_of_mul_le_mul_left h (by have := H.h1; omega)
      have := H.le
      omega
    · intro h
      exact Nat.mul_le_mul_left _ (by omega)
  by_cases hj : j + c ≤ M
  · rw [H.mt q j hq hj, decide_eq_true (e.mpr hj), decide_eq_true hj]
  · rw [decide_eq_false (fun h => hj (e.mp h)), decide_eq_false hj]; rfl
theorem Net.seek_eq {q lo n : Nat} (hq : q < ps.length) (hn : lo + n = M + 1) : seek (pq half ws ps q) lo n = seek (subAt got (T q)) lo (M + 1 - c - lo) := by
  refine seek_cut (by omega) (fun j h1 h2 => ?_) (fun j h1 h2 => ?_)
  · rw [H.pq_eq hq, decide_eq_true (by have := H.c1; omega), Bool.true_and]
  · rw [H.pq_eq hq, decide_eq_false (by have := H.c1; omega), Bool.false_and]
theorem Net.dots {j : Nat} {r : List Int} (hj : j ≤ M) : fitStep ws ps half (((half * j : Nat) : Int) :: r) (-1) = plac half j (M - j + 1) := by
  unfold fitStep
  rw [if_pos (by decide), if_neg (List.cons_ne_nil _ _), List.headD_cons, H.top]
  have hh := H.h1
  have hle : half * j ≤ half * M := Nat.mul_le_mul_left _ hj
  have e : (Builtin.Range.rangeSize ((half * j : Nat) : Int) (((half * M : Nat) : Int) + 1) half).toNat = M - j + 1 := by
    rw [rangeSize_pos (by omega) (by omega)]
    have e2 : ((half * M : Nat) : Int) + 1 - ((half * j : Nat) : Int) - 1 = (((M - j) * half : Nat) : Int) := by
      rw [Nat.sub_mul, Nat.mul_comm M, Nat.mul_comm j]; omega
    rw [e2, ← Int.natCast_ediv, Nat.mul_div_cancel _ (by omega)]
    omega
  rw [e]
  unfold plac
  refine List.map_congr_left fun i _ => ?_
  rw [Nat.mul_add, Nat.mul_comm half i]
  omega
omit H in
theorem nil_step (half : Int) (ws ps : List Int) (q : Int) : fitStep ws ps half [] q = [] := by unfold fitStep; split <;> rfl
omit H in
theorem pos_step (half : Nat) (ws ps : List Int) (q : Nat) (l : List Int) : fitStep ws ps half l (q : Int) = (l.filter (fq ws ps q)).map (· + 12) := by
  unfold fitStep
  rw [if_neg (by omega)]
  rfl
/-- a piece, then dots -/
theorem Net.piece {q j0 n : Nat} (hq : q < ps.length) : fitStep ws ps half (fitStep ws ps half (plac half j0 n) (q : Int)) (-1) = (match seek (pq half ws ps q) j0 n with | none => [] | some j => plac half (j + c) (M - (j + c) + 1)) := by
  rw [pos_step]
  rcases filt half ws ps q n j0 with ⟨h1, h2⟩ | ⟨j, r, h1, h2⟩
  · rw [h1, h2]; exact nil_step _ _ _ _
  · rw [h1, h2, List.map_cons]
    have hj : pq half ws ps q j = true := by
      rcases seek_cases (pq half ws ps q) n j0 with ⟨h3, _⟩ | ⟨j', h3, _, _, h4, _⟩
      · rw [h1] at h3; cases h3
      · rw [h1] at h3; cases h3; exact h4
    rw [H.pq_eq hq] at hj
    simp only [Bool.and_eq_true, decide_eq_true_eq] at hj
    have e : ((half * j : Nat) : Int) + 12 = ((half * (j + c) : Nat) : Int) := by rw [Nat.mul_add, H.hc]; omega
    rw [e]
    exact H.dots hj.1
theorem Net.any_all {j : Nat} (hj : j ≤ M) : (plac half j (M - j + 1)).any (· == (ws.length : Int) + 11) = true := by
  rw [List.any_eq_true]
  refine ⟨((half * (j + (M - j)) : Nat) : Int), List.mem_map.mpr ⟨M - j, List.mem_range.mpr (by omega), rfl⟩, ?_⟩
  rw [H.top, show j + (M - j) = M by omega]
  simp
/-- a piece at the end -/
theorem Net.any_last {q j0 : Nat} (hq : q < ps.length) (hj : j0 ≤ M) : (fitStep ws ps half (plac half j0 (M - j0 + 1)) (q : Int)).any (· == (ws.length : Int) + 11) = (decide (j0 + c ≤ M) && subAt got (T q) (M - c)) := by
  rw [pos_step, H.top]
  have hle := H.le
  have e : ((half * M : Nat) : Int) = ((half * (M - c) : Nat) : Int) + 12 := by
    have : half * M = half * (M - c) + half * c := by rw [← Nat.mul_add, Nat.sub_add_cancel H.le]
    rw [H.hc] at this
    omega
  rw [Bool.eq_iff_iff, List.any_eq_true]
  constructor
  · rintro ⟨x, hx, hx2⟩
    obtain ⟨y, hy, rfl⟩ := List.mem_map.mp hx
    obtain ⟨hy1, hy2⟩ := List.mem_filter.mp hy
    have hy3 : y = ((half * (M - c) : Nat) : Int) := by
      have := beq_iff_eq.mp hx2
      omega
    rw [hy3, fq_pq, H.pq_eq hq] at hy2
    obtain ⟨i, hi, hi2⟩ := List.mem_map.mp hy1
    rw [hy3] at hi2
    have h5 : half * (j0 + i) = half * (M - c) := by omega
    have h6 := Nat.eq_of_mul_eq_mul_left (by have := H.h1; omega) h5
    simp only [Bool.and_eq_true, decide_eq_true_eq] at hy2 ⊢
    exact ⟨by omega, hy2.2⟩
  · intro h
    simp only [Bool.and_eq_true, decide_eq_true_eq] at h
    refine ⟨((half * (M - c) : Nat) : Int) + 12, List.mem_map.mpr ⟨_, List.mem_filter.mpr ⟨List.mem_map.mpr ⟨M - c - j0, List.mem_range.mpr (by omega), ?_⟩, ?_⟩, rfl⟩, ?_⟩
    · rw [show j0 + (M - c - j0) = M - c by omega]
    · rw [fq_pq, H.pq_eq hq, decide_eq_true (by omega), h.2]; rfl
    · rw [e]; simp
end
end Mine

namespace Mine
open Builtin Builtin.Str StrLaws
/-- what the function answers, by the split text's parts -/
def ellRes (got w0 : Str) (mid : List Str) (wl : Str) : Bool :=
  if w0.length = 0 then (if wl.length = 0 then ellTail got (w0 :: (mid ++ [wl])) 0 got.length
    else if Txt.endswith got wl = true then ellTail got (w0 :: mid) 0 (got.length - wl.length) else false)
  else (if wl.length = 0 then (if Txt.startswith got w0 = true then ellTail got (mid ++ [wl]) w0.length got.length else false)
    else if Txt.startswith got w0 = true then (if Txt.endswith got wl = true then ellTail got mid w0.length (got.length - wl.length) else false) else false)
section
variable {half M c : Nat} {got : Str} {T : Nat → Str} {ws ps : List Int} (H : Net half M c got T ws ps)
include H
theorem Net.loop_em {lo ep : Nat} {r : List Str} (h1 : lo ≤ ep) (h2 : ep ≤ M) : ellLoop got ep (em :: r) lo = ellLoop got ep r lo := by
  show (if find4 got em lo ep < 0 then none else ellLoop got ep r (find4 got em lo ep + em.length)) = _
  rw [find4_em h1 (by rw [H.gl]; exact h2), if_neg (by omega), em_len]
  simp
theorem Net.loop_piece {lo ep q : Nat} {r : List Str} (hq : q < ps.length) (h1 : lo ≤ M) (h2 : ep ≤ M) :
    ellLoop got ep (T q :: r) lo = (match seek (subAt got (T q)) lo (ep + 1 - c - lo) with | none => none | some j => ellLoop got ep r ((j + c : Nat) : Int)) := by
  show (if find4 got (T q) lo ep < 0 then none else ellLoop got ep r (find4 got (T q) lo ep + (T q).length)) = _
  rw [find4_seek (by rw [H.gl]; exact h1) (by rw [H.gl]; exact h2), H.tl q hq]
  cases seek (subAt got (T q)) lo (ep + 1 - c - lo) with
  | none => rfl
  | some j => dsimp only; rw [if_neg (Int.not_lt.mpr (Int.natCast_nonneg j))]; congr 1
theorem Net.starts {q : Nat} (hq : q < ps.length) : Txt.startswith got (T q) = subAt got (T q) 0 := by
  unfold Txt.startswith
  rw [H.tl q hq, H.gl, decide_eq_true (by have := H.le; omega), Bool.true_and]
theorem Net.ends {q : Nat} (hq : q < ps.length) : Txt.endswith got (T q) = subAt got (T q) (M - c) := by
  unfold Txt.endswith
  rw [H.tl q hq, H.gl, decide_eq_true (by have := H.le; omega), Bool.true_and]
theorem Net.ne0 {q : Nat} (hq : q < ps.length) : (T q).length ≠ 0 := by rw [H.tl q hq]; have := H.c1; omega
omit H in
theorem fit_first (half : Nat) : ([0] : List Int) = plac half 0 1 := rfl
theorem Net.first_dots : fitStep ws ps half [0] (-1) = plac half 0 (M + 1) := by
  have := H.dots (j := 0) (r := []) (Nat.zero_le _)
  simpa using this
theorem Net.shapeA {k : Nat} (hk : k < ps.length) : ellRes got (T k) [] em = (fitEnds ws ps half [(k : Int), -1]).any (· == (ws.length : Int) + 11) := by
  have hle := H.le
  have e : fitEnds ws ps half [(k : Int), -1] = fitStep ws ps half (fitStep ws ps half (plac half 0 1) k) (-1) := rfl
  rw [e, H.piece hk]
  unfold ellRes
  rw [if_neg (H.ne0 hk), if_pos em_len, H.starts hk, H.tl k hk, H.gl]
  have hp : pq half ws ps k 0 = subAt got (T k) 0 := by rw [H.pq_eq hk, decide_eq_true (by omega), Bool.true_and]
  have hs : seek (pq half ws ps k) 0 1 = if subAt got (T k) 0 = true then some 0 else none := by
    show (if pq half ws ps k 0 = true then some 0 else none) = _
    rw [hp]
  rw [hs]
  by_cases h : subAt got (T k) 0 = true
  · rw [if_pos h, if_pos h]
    dsimp only
    rw [Nat.zero_add, H.any_all hle]
    unfold ellTail
    rw [if_neg (by omega)]
    show (ellLoop got M [em] c).isSome = true
    rw [H.loop_em hle (Nat.le_refl _)]
    rfl
  · rw [if_neg h, if_neg h]; rfl
theorem Net.shapeB {k : Nat} (hk : k < ps.length) : ellRes got em [] (T k) = (fitEnds ws ps half [-1, (k : Int)]).any (· == (ws.length : Int) + 11) := by
  have hle := H.le
  have e : fitEnds ws ps half [-1, (k : Int)] = fitStep ws ps half (fitStep ws ps half [0] (-1)) k := rfl
  have hl := H.any_last (j0 := 0) hk (Nat.zero_le _)
  rw [Nat.sub_zero] at hl
  rw [e, H.first_dots, hl]
  unfold ellRes
  rw [if_pos em_len, if_neg (H.ne0 hk), H.ends hk, H.tl k hk, H.gl, decide_eq_true (by omega), Bool.true_and]
  by_cases h : subAt got (T k) (M - c) = true
  · rw [if_pos h, h]
    unfold ellTail
    rw [if_neg (by omega), show (M : Int) - (c : Int) = ((M - c : Nat) : Int) by omega]
    show (ellLoop got ((M - c : Nat) : Int) [em] ((0 : Nat) : Int)).isSome = true
    rw [H.loop_em (Nat.zero_le _) (Nat.sub_le _ _)]
    rfl
  · rw [if_neg h]; symm; simpa using h
theorem Net.found {q lo n j : Nat} (hq : q < ps.length) (h : seek (subAt got (T q)) lo n = some j) (hn : n = M + 1 - c - lo) : lo ≤ j ∧ j + c ≤ M := by
  rcases seek_cases (subAt got (T q)) n lo with ⟨h3, _⟩ | ⟨j', h3, h4, h5, _, _⟩
  · rw [h] at h3; cases h3
  · rw [h] at h3; cases h3
    exact ⟨h4, by omega⟩
theorem Net.shapeC {k : Nat} (hk : k < ps.length) : ellRes got em [T k] em = (fitEnds ws ps half [-1, (k : Int), -1]).any (· == (ws.length : Int) + 11) := by
  have e : fitEnds ws ps half [-1, (k : Int), -1] = fitStep ws ps half (fitStep ws ps half (fitStep ws ps half [0] (-1)) k) (-1) := rfl
  rw [e, H.first_dots, H.piece hk, H.seek_eq hk (by omega)]
  unfold ellRes
  rw [if_pos em_len, if_pos em_len, H.gl]
  unfold ellTail
  rw [if_neg (by omega)]
  show (ellLoop got M [em, T k, em] ((0 : Nat) : Int)).isSome = _
  rw [H.loop_em (Nat.zero_le _) (Nat.le_refl _), H.loop_piece hk (Nat.zero_le _) (Nat.le_refl _)]
  cases h : seek (subAt got (T k)) 0 (M + 1 - c - 0) with
  | none => rfl
  | some j =>
    have hj := H.found hk h rfl
    dsimp only
    rw [H.loop_em hj.2 (Nat.le_refl _), H.any_all hj.2]
    rfl
theorem Net.shapeD {a k l : Nat} (ha : a < ps.length) (hk : k < ps.length) (hl : l < ps.length) : ellRes got (T a) [T k] (T l) = (fitEnds ws ps half [(a : Int), -1, (k : Int), -1, (l : Int)]).any (· == (ws.length : Int) + 11) := by
  have hle := H.le
  have hc := H.c1
  have e : fitEnds ws ps half [(a : Int), -1, (k : Int), -1, (l : Int)] = fitStep ws ps half (fitStep ws ps half (fitStep ws ps half (fitStep ws ps half (fitStep ws ps half (plac half 0 1) a) (-1)) k) (-1)) l := rfl
  rw [e, H.piece ha]
  unfold ellRes
  rw [if_neg (H.ne0 ha), if_neg (H.ne0 hl), H.starts ha, H.ends hl, H.tl a ha, H.tl l hl, H.gl]
  have hp : pq half ws ps a 0 = subAt got (T a) 0 := by rw [H.pq_eq ha, decide_eq_true (by omega), Bool.true_and]
  have hs : seek (pq half ws ps a) 0 1 = if subAt got (T a) 0 = true then some 0 else none := by
    show (if pq half ws ps a 0 = true then some 0 else none) = _
    rw [hp]
  rw [hs]
  by_cases h : subAt got (T a) 0 = true
  · rw [if_pos h, if_pos h]
    dsimp only
    rw [Nat.zero_add, H.piece hk, H.seek_eq hk (by omega)]
    cases hf : seek (subAt got (T k)) c (M + 1 - c - c) with
    | none =>
      dsimp only
      rw [nil_step]
      by_cases h2 : subAt got (T l) (M - c) = true
      · rw [if_pos h2]
        unfold ellTail
        split
        · rfl
        · rename_i hgt
          rw [show (M : Int) - (c : Int) = ((M - c : Nat) : Int) by omega, H.loop_piece hk hle (Nat.sub_le _ _)]
          have : seek (subAt got (T k)) c (M - c + 1 - c - c) = none := by
            rcases seek_cases (subAt got (T k)) (M + 1 - c - c) c with ⟨_, h4⟩ | ⟨j, h3, _⟩
            · exact seek_none fun j h5 h6 => h4 j h5 (by omega)
            · rw [hf] at h3; cases h3
          rw [this]
          rfl
      · rw [if_neg h2]; rfl
    | some j =>
      have hj := H.found hk hf rfl
      dsimp only
      rw [H.any_last hl hj.2]
      by_cases h2 : subAt got (T l) (M - c) = true
      · rw [if_pos h2, h2, Bool.and_true]
        unfold ellTail
        split
        · rename_i hgt
          symm
          rw [decide_eq_false_iff_not]
          omega
        · rename_i hgt
          rw [show (M : Int) - (c : Int) = ((M - c : Nat) : Int) by omega, H.loop_piece hk hle (Nat.sub_le _ _)]
          rcases seek_cases (subAt got (T k)) (M + 1 - c - c) c with ⟨h3, _⟩ | ⟨j', h3, h4, h5, h6, h7⟩
          · rw [hf] at h3; cases h3
          · rw [hf] at h3; cases h3
            by_cases hb : j + c + c ≤ M
            · rw [seek_some (j := j) h4 (by omega) h6 h7, decide_eq_true hb]; rfl
            · rw [seek_none fun k' h8 h9 => h7 k' h8 (by omega), decide_eq_false hb]; rfl
      · rw [if_neg h2]
        have : subAt got (T l) (M - c) = false := by simpa using h2
        rw [this, Bool.and_false]
  · rw [if_neg h, if_neg h]
    dsimp only
    rw [nil_step, nil_step, nil_step]
    rfl
theorem Net.shapeE {a b k : Nat} (ha : a < ps.length) (hb : b < ps.length) (hk : k < ps.length) : ellRes got em [T a, T b, T k] em = (fitEnds ws ps half [-1, (a : Int), -1, (b : Int), -1, (k : Int), -1]).any (· == (ws.length : Int) + 11) := by
  have e : fitEnds ws ps half [-1, (a : Int), -1, (b : Int), -1, (k : Int), -1] = fitStep ws ps half (fitStep ws ps half (fitStep ws ps half (fitStep ws ps half (fitStep ws ps half (fitStep ws ps half (fitStep ws ps half [0] (-1)) a) (-1)) b) (-1)) k) (-1) := rfl
  rw [e, H.first_dots, H.piece ha, H.seek_eq ha (by omega)]
  unfold ellRes
  rw [if_pos em_len, if_pos em_len, H.gl]
  unfold ellTail
  rw [if_neg (by omega)]
  show (ellLoop got M [em, T a, T b, T k, em] ((0 : Nat) : Int)).isSome = _
  rw [H.loop_em (Nat.zero_le _) (Nat.le_refl _), H.loop_piece ha (Nat.zero_le _) (Nat.le_refl _)]
  cases h : seek (subAt got (T a)) 0 (M + 1 - c - 0) with
  | none => dsimp only; rw [nil_step, nil_step, nil_step, nil_step]; rfl
  | some j =>
    have hj := H.found ha h rfl
    dsimp only
    rw [H.piece hb, H.seek_eq hb (by omega), H.loop_piece hb hj.2 (Nat.le_refl _)]
    cases h' : seek (subAt got (T b)) (j + c) (M + 1 - c - (j + c)) with
    | none => dsimp only; rw [nil_step, nil_step]; rfl
    | some j' =>
      have hj' := H.found hb h' rfl
      dsimp only
      rw [H.piece hk, H.seek_eq hk (by omega), H.loop_piece hk hj'.2 (Nat.le_refl _)]
      cases h'' : seek (subAt got (T k)) (j' + c) (M + 1 - c - (j' + c)) with
      | none => rfl
      | some j'' =>
        have hj'' := H.found hk h'' rfl
        dsimp only
        rw [H.loop_em hj''.2 (Nat.le_refl _), H.any_all hj''.2]
        rfl
end
end Mine

namespace Mine
open Builtin Builtin.Str StrLaws
def Shape (n : Nat) (qs : List Int) : Prop :=
  (∃ k : Nat, k < n ∧ qs = [(k : Int), -1]) ∨ (∃ k : Nat, k < n ∧ qs = [-1, (k : Int)]) ∨ (∃ k : Nat, k < n ∧ qs = [-1, (k : Int), -1]) ∨
  (∃ a k l : Nat, a < n ∧ k < n ∧ l < n ∧ qs = [(a : Int), -1, (k : Int), -1, (l : Int)]) ∨ ∃ a b k : Nat, a < n ∧ b < n ∧ k < n ∧ qs = [-1, (a : Int), -1, (b : Int), -1, (k : Int), -1]
def wantG (T : Nat → Str) (q : Int) : Str := if q < 0 then dots else T q.toNat
def wantS (T : Nat → Str) (qs : List Int) : Str := Txt.join (Str.ofString "") (qs.map (wantG T))
theorem wantG_neg (T : Nat → Str) : wantG T (-1) = dots := rfl
theorem wantG_pos (T : Nat → Str) (k : Nat) : wantG T (k : Int) = T k := by unfold wantG; rw [if_neg (by omega), Int.toNat_natCast]
theorem nil_sep : (Str.ofString "").cps.toList = [] := by decide +kernel
theorem join1 (sep a : Str) : (Txt.join sep [a]).cps.toList = a.cps.toList := by
  show (glued sep [a]).cps.toList = _
  rw [glued_eq_join]; rfl
theorem join2 (a b : Str) (r : List Str) : (Txt.join (Str.ofString "") (a :: b :: r)).cps.toList = a.cps.toList ++ (Txt.join (Str.ofString "") (b :: r)).cps.toList := by
  show (glued _ (a :: b :: r)).cps.toList = _ ++ (glued _ (b :: r)).cps.toList
  rw [glued_eq_join, glued_eq_join]
  show (a ++ Str.ofString "" ++ Str.join _ (b :: r)).cps.toList = _
  simp only [Str.cps_append, Array.toList_append, nil_sep, List.append_nil]
theorem mk_list (x : Str) : (⟨x.cps.toList.toArray⟩ : Str) = x := by apply Str.ext'; simp
section
variable {half M c : Nat} {got : Str} {T : Nat → Str} {ws ps : List Int}
theorem joinL_len : ∀ (ws : List (List Nat)) (w : List Nat), (∀ z ∈ w :: ws, z.length ≤ 12) → (joinL w ws).length ≤ 15 * ws.length + 12
  | [], w, h => by have := h w (.head _); show w.length ≤ _; omega
  | v :: r, w, h => by
    have h1 := joinL_len r v fun z hz => h z (.tail _ hz)
    have h2 := h w (.head _)
    show (w ++ ([46, 46, 46] ++ joinL v r)).length ≤ _
    simp only [List.length_append, List.length_cons, List.length_nil]
    omega
theorem split_done {x w0 wl : Str} {mid : List Str} {u v : List Nat} {r : List (List Nat)} {B : Bool} (hx : x.cps.toList = joinL u (v :: r)) (hf : ∀ z ∈ u :: v :: r, 46 ∉ z) (hl : ∀ z ∈ u :: v :: r, z.length ≤ 12) (hr : r.length ≤ 5)
    (hw : (u :: v :: r).map (fun l => (⟨l.toArray⟩ : Str)) = w0 :: (mid ++ [wl])) (hB : ellRes got w0 mid wl = B) :
    ∃ w0 mid wl, Txt.split x dots = w0 :: (mid ++ [wl]) ∧ (occurrences x dots 0 x.length 1).isEmpty = false ∧ mid.length + 2 ≤ 1000 ∧ w0.length ≤ 1000 ∧ wl.length ≤ 1000 ∧ (∀ a ∈ mid, a.length ≤ 1000) ∧ x.length + 2 ≤ 1000 ∧ ellRes got w0 mid wl = B := by
  obtain ⟨h1, h2⟩ := split_of hx hf
  have hall : ∀ z ∈ w0 :: (mid ++ [wl]), z.length ≤ 1000 := by
    intro z hz
    rw [← hw] at hz
    obtain ⟨l, hl', rfl⟩ := List.mem_map.mp hz
    have := hl l hl'
    show (l.toArray).size ≤ 1000
    rw [List.size_toArray]; omega
  refine ⟨w0, mid, wl, h1.trans hw, h2, ?_, hall _ (.head _), hall wl (by simp), fun a ha => hall a (by simp [ha]), ?_, hB⟩
  rotate_left
  · have := joinL_len (v :: r) u hl
    rw [str_len, hx]
    simp only [List.length_cons] at this
    omega
  have := congrArg List.length hw
  simp at this
  omega
theorem net_answer (H : Net half M c got T ws ps) {qs : List Int} (hs : Shape ps.length qs) :
    ∃ w0 mid wl, Txt.split (wantS T qs) dots = w0 :: (mid ++ [wl]) ∧ (occurrences (wantS T qs) dots 0 (wantS T qs).length 1).isEmpty = false ∧ mid.length + 2 ≤ 1000 ∧ w0.length ≤ 1000 ∧ wl.length ≤ 1000 ∧ (∀ a ∈ mid, a.length ≤ 1000) ∧ (wantS T qs).length + 2 ≤ 1000 ∧
      ellRes got w0 mid wl = (fitEnds ws ps half qs).any (· == (ws.length : Int) + 11) := by
  have hc12 : c ≤ 12 := by have := H.hc; have := H.h1; have := Nat.le_mul_of_pos_left c H.h1; omega
  have tl : ∀ {q}, q < ps.length → (T q).cps.toList.length ≤ 12 := fun {q} hq => by rw [← str_len, H.tl q hq]; exact hc12
  rcases hs with ⟨k, hk, rfl⟩ | ⟨k, hk, rfl⟩ | ⟨k, hk, rfl⟩ | ⟨a, k, l, ha, hk, hl, rfl⟩ | ⟨a, b, k, ha, hb, hk, rfl⟩
  · refine split_done (u := (T k).cps.toList) (v := []) (r := []) ?_ ?_ ?_ (by decide) (by rw [List.map_cons, mk_list]; rfl) (H.shapeA hk)
    · unfold wantS
      simp only [List.map_cons, List.map_nil, wantG_pos, wantG_neg, join2, join1, dots_list]
      rfl
    · intro z hz
      simp only [List.mem_cons, List.not_mem_nil, or_false] at hz
      rcases hz with rfl | rfl
      · exact H.fr k hk
      · simp
    · intro z hz
      simp only [List.mem_cons, List.not_mem_nil, or_false] at hz
      rcases hz with rfl | rfl
      · exact tl hk
      · simp
  · refine split_done (u := []) (v := (T k).cps.toList) (r := []) ?_ ?_ ?_ (by decide) (by rw [List.map_cons, List.map_cons, mk_list]; exact (congrArg (em :: ·) (List.nil_append [T k]).symm)) (H.shapeB hk)
    · unfold wantS
      simp only [List.map_cons, List.map_nil, wantG_pos, wantG_neg, join2, join1, dots_list]
      rfl
    · intro z hz
      simp only [List.mem_cons, List.not_mem_nil, or_false] at hz
      rcases hz with rfl | rfl
      · simp
      · exact H.fr k hk
    · intro z hz
      simp only [List.mem_cons, List.not_mem_nil, or_false] at hz
      rcases hz with rfl | rfl
      · simp
      · exact tl hk
  · refine split_done (u := []) (v := (T k).cps.toList) (r := [[]]) ?_ ?_ ?_ (by decide) (by rw [List.map_cons, List.map_cons, mk_list]; rfl) (H.shapeC hk)
    · unfold wantS
      simp only [List.map_cons, List.map_nil, wantG_pos, wantG_neg, join2, join1, dots_list]
      rfl
    · intro z hz
      simp only [List.mem_cons, List.not_mem_nil, or_false] at hz
      rcases hz with rfl | rfl | rfl
      · simp
      · exact H.fr k hk
      · simp
    · intro z hz
      simp only [List.mem_cons, List.not_mem_nil, or_false] at hz
      rcases hz with rfl | rfl | rfl
      · simp
      · exact tl hk
      · simp
  · refine split_done (u := (T a).cps.toList) (v := (T k).cps.toList) (r := [(T l).cps.toList]) ?_ ?_ ?_ (by show 1 ≤ 5; decide) (by simp only [List.map_cons, List.map_nil, mk_list]; rfl) (H.shapeD ha hk hl)
    · unfold wantS
      simp only [List.map_cons, List.map_nil, wantG_pos, wantG_neg, join2, join1, dots_list]
      rfl
    · intro z hz
      simp only [List.mem_cons, List.not_mem_nil, or_false] at hz
      rcases hz with rfl | rfl | rfl
      · exact H.fr a ha
      · exact H.fr k hk
      · exact H.fr l hl
    · intro z hz
      simp only [List.mem_cons, List.not_mem_nil, or_false] at hz
      rcases hz with rfl | rfl | rfl
      · exact tl ha
      · exact tl hk
      · exact tl hl
  · refine split_done (u := []) (v := (T a).cps.toList) (r := [(T b).cps.toList, (T k).cps.toList, []]) ?_ ?_ ?_ (by show 3 ≤ 5; decide) (by simp only [List.map_cons, List.map_nil, mk_list]; rfl) (H.shapeE ha hb hk)
    · unfold wantS
      simp only [List.map_cons, List.map_nil, wantG_pos, wantG_neg, join2, join1, dots_list]
      rfl
    · intro z hz
      simp only [List.mem_cons, List.not_mem_nil, or_false] at hz
      rcases hz with rfl | rfl | rfl | rfl | rfl
      · simp
      · exact H.fr a ha
      · exact H.fr b hb
      · exact H.fr k hk
      · simp
    · intro z hz
      simp only [List.mem_cons, List.not_mem_nil, or_false] at hz
      rcases hz with rfl | rfl | rfl | rfl | rfl
      · simp
      · exact tl ha
      · exact tl hb
      · exact tl hk
      · simp
end
def oct3 (p : Int) : List Int := [p.fdiv 65536, (p.fdiv 256).fmod 256, p.fmod 256]
theorem oct3_eq (p : Int) : oct3 p = [p / 65536, p / 256 % 256, p % 256] := by
  unfold oct3
  rw [Int.fdiv_eq_ediv_of_nonneg _ (by decide), Int.fdiv_eq_ediv_of_nonneg _ (by decide), Int.fmod_eq_emod_of_nonneg _ (by decide), Int.fmod_eq_emod_of_nonneg _ (by decide)]
theorem oct3_bytes {p : Int} (h : 0 ≤ p ∧ p < 16777216) : ∀ n ∈ oct3 p, 0 ≤ n ∧ n < 256 := by
  intro n hn
  rw [oct3_eq] at hn
  simp only [List.mem_cons, List.not_mem_nil, or_false] at hn
  omega
theorem oct3_wN {p : Int} (h : 0 ≤ p ∧ p < 16777216) : wN (oct3 p) = p.toNat := by
  rw [oct3_eq]
  unfold wN wholeR
  simp only [List.foldl_cons, List.foldl_nil]
  omega
def wrS (half : Nat) (l : List Int) : List Nat := if half = 2 then wr4 l else wr6 l
def txt (half : Nat) (l : List Int) : Str := ⟨(wrS half l).toArray⟩
def enc (half d : Nat) : Nat := if half = 2 then hexU d else b64U d
theorem wrS_dg {half : Nat} (hh : half = 2 ∨ half = 3) {row : List Int} (h3 : row.length % 3 = 0) (hb : ∀ n ∈ row, 0 ≤ n ∧ n < 256) : wrS half row = (dg (4 ^ half) (4 * row.length / half) (wN row)).map (enc half) := by
  rcases hh with rfl | rfl
  · show wr4 row = _
    rw [wr4_dg hb, show 4 * row.length / 2 = 2 * row.length by omega]
    rfl
  · show wr6 row = _
    rw [(b64_dg h3 hb).2]
    rfl
theorem enc_inj {half : Nat} (hh : half = 2 ∨ half = 3) : ∀ i, i < 4 ^ half → ∀ j, j < 4 ^ half → enc half i = enc half j → i = j := by
  rcases hh with rfl | rfl
  · exact hexU_inj
  · exact b64U_inj
theorem enc_dot {half : Nat} (hh : half = 2 ∨ half = 3) : ∀ i, i < 4 ^ half → enc half i ≠ 46 := by
  rcases hh with rfl | rfl
  · exact hexU_dot
  · exact b64U_dot
def textOf (half : Nat) (ps : List Int) (q : Nat) : Str := (ps.map fun p => txt half (oct3 p)).getD q Str.empty
theorem textOf_eq {half : Nat} {ps : List Int} {q : Nat} (hq : q < ps.length) : textOf half ps q = txt half (oct3 (ps.getD q 0)) := by
  unfold textOf
  rw [List.getD_eq_getElem?_getD, List.getElem?_map, List.getD_eq_getElem?_getD, List.getElem?_eq_getElem hq]
  rfl
theorem windowsR_len' (row : List Int) (h : 3 ≤ row.length) : (windowsR row).length = 4 * row.length - 11 := by
  unfold windowsR
  rw [List.length_map, List.length_map, List.length_range, rangeSize_pos (by decide) (by omega)]
  omega
theorem win_eq {row : List Int} {i e : Nat} (hb : ∀ n ∈ row, 0 ≤ n ∧ n < 256) (h3 : 3 ≤ row.length) (he : 8 * row.length = 24 + 2 * i + e) : (windowsR row).getD i 0 = ((wN row / 2 ^ e % 16777216 : Nat) : Int) := by
  have hl := windowsR_len' row h3
  have hi : i < (windowsR row).length := by omega
  rw [List.getD_eq_getElem?_getD, List.getElem?_eq_getElem hi, Option.getD_some]
  have e1 : (windowsR row)[i] = winAt row (0 + (i : Int) * 2) := by simp [windowsR]
  rw [e1]
  unfold winAt
  have e2 : (8 * (row.length : Int) - 24 - (0 + (i : Int) * 2)).toNat = e := by omega
  have e3 : wholeR row = (wN row : Int) := by
    unfold wN
    have := wholeR_nonneg hb
    omega
  rw [e2, e3, Int.natCast_emod, Int.natCast_ediv, Int.natCast_pow]
  rfl
theorem net_of {half : Nat} (hh : half = 2 ∨ half = 3) {row ps : List Int} (rl1 : 6 ≤ row.length) (rl3 : row.length % 3 = 0) (hb : ∀ n ∈ row, 0 ≤ n ∧ n < 256) (pb : ∀ n ∈ ps, 0 ≤ n ∧ n < 16777216) :
    Net half (4 * row.length / half) (12 / half) (txt half row) (textOf half ps) (windowsR row) ps := by
  have hM : half * (4 * row.length / half) = 4 * row.length := by rcases hh with rfl | rfl <;> omega
  have hc : half * (12 / half) = 12 := by rcases hh with rfl | rfl <;> rfl
  have hB : (4 ^ half) ^ (12 / half) = 16777216 := by rcases hh with rfl | rfl <;> rfl
  have hpos : 0 < 4 ^ half := Nat.pow_pos (by decide)
  have pb' : ∀ q, q < ps.length → 0 ≤ ps.getD q 0 ∧ ps.getD q 0 < 16777216 := fun q hq => by
    rw [List.getD_eq_getElem?_getD, List.getElem?_eq_getElem hq]
    exact pb _ (List.getElem_mem hq)
  have tx : ∀ q, q < ps.length → (textOf half ps q).cps.toList = (dg (4 ^ half) (12 / half) (ps.getD q 0).toNat).map (enc half) := fun q hq => by
    rw [textOf_eq hq]
    show (wrS half (oct3 (ps.getD q 0))) = _
    rw [wrS_dg hh (by simp [oct3]) (oct3_bytes (pb' q hq)), oct3_wN (pb' q hq)]
    rfl
  have hle : 12 / half ≤ 4 * row.length / half := Nat.div_le_div_right (by omega)
  have tl : ∀ q, q < ps.length → (textOf half ps q).length = 12 / half := fun q hq => by rw [str_len, tx q hq, List.length_map, dg_len]
  refine ⟨by omega, by rcases hh with rfl | rfl <;> decide, hc, hle, ?_, ?_, tl, ?_, ?_⟩
  · rw [windowsR_len' row (by omega), Nat.mul_sub, hM, hc]; omega
  · rw [str_len]
    show (wrS half row).length = _
    rw [wrS_dg hh rl3 hb, List.length_map, dg_len]
  · intro q j hq hj
    rw [subAt_eq, tx q hq, tl q hq]
    show ((((wrS half row).drop j).take (12 / half)) == _) = _
    rw [wrS_dg hh rl3 hb, Bool.eq_iff_iff, beq_iff_eq, decide_eq_true_iff]
    have hp := pb' q hq
    rw [dg_match hpos (enc_inj hh) hj (by rw [hB]; omega), hB]
    have hj2 : half * (j + 12 / half) ≤ half * (4 * row.length / half) := Nat.mul_le_mul_left _ hj
    rw [Nat.mul_add, hM, hc] at hj2
    have he : (4 ^ half) ^ (4 * row.length / half - 12 / half - j) = 2 ^ (2 * (half * (4 * row.length / half - 12 / half - j))) := by
      rw [show (4 : Nat) = 2 ^ 2 from rfl, ← Nat.pow_mul, ← Nat.pow_mul]
    have e5 : half * (4 * row.length / half - 12 / half - j) = 4 * row.length - 12 - half * j := by rw [Nat.mul_sub, Nat.mul_sub, hM, hc]
    rw [win_eq hb (by omega) (i := half * j) (e := 2 * (half * (4 * row.length / half - 12 / half - j))) (by rw [e5]; omega), he]
    omega
  · intro q hq hm
    rw [tx q hq] at hm
    obtain ⟨d, hd, e⟩ := List.mem_map.mp hm
    exact enc_dot hh d (dg_lt hpos _ _ d hd) e
end Mine

namespace Mine
section
variable {prog : Program} {w : World} {A : Around} {E : Value → Shared → Prop} {s : Shared} {env : Env} {h₀ : Heap} {target : Expr} {body : List Stmt} {Q : Flow → Shared → Prop}
/-- a for over an iterator just made, any target -/
theorem turnsX {σ : Type} {fp : List Addr} {n : Nat} {Pi : Nat → Value → Prop} {St : Nat → Heap → Prop} {o : Obj} {m₀ : Str → Option Value} (W : Walks prog w A s.heap.objs.size fp [s.heap.objs.size] n Pi St)
    (Led : σ → List (Addr × Obj)) (ps : σ → List (Str × Value)) (stored : List Str) (P : Nat → σ → Prop) (c₀ : σ)
    (hst : St 0 (s.heap.push o)) (hIo : ∀ i h, St i h → ∃ o, h.get? s.heap.objs.size = some o) (hIf : s.heap.objs.size ∈ fp)
    (hfp : ∀ b ∈ fp, b ≠ s.heap.objs.size → b ≠ env.locals ∧ ∀ c, ∀ p ∈ Led c, p.1 ≠ b)
    (F : Fr h₀ env.locals s.heap m₀) (N : News h₀ env.locals s.heap (Led c₀)) (hk : ∀ p ∈ ps c₀, m₀ p.1 = some p.2) (hp : P 0 c₀)
    (hgo : ∀ v I, letOwnedTupleGo target (.ref I) v = pure ())
    (turn : ∀ (c : σ) i v (u : Str → Option Value) h tk own, i < n → Pi i v → OwnOff own ((Led c).map (·.1)) → P i c →
      Fr h₀ env.locals h (kstB (fun z => if stored.contains z then u z else m₀ z) (ps c)) → News h₀ env.locals h (Led c ++ own) →
      wpAny (model prog w) A (assign target env v) (fun _ s₃ => wpAny (model prog w) A (execs body env) (fun f s₂ => Halt (InvPostG h₀ env.locals (KT Led ps stored m₀ P (i + 1)) own { s with heap := h, toks := tk } Q f s₂)) E s₃) E { s with heap := h, toks := tk })
    (done : ∀ (c : σ) (u : Str → Option Value) h tk, P n c → Fr h₀ env.locals h (kstB (fun z => if stored.contains z then u z else m₀ z) (ps c)) → News h₀ env.locals h (Led c) → Q .next { s with heap := h, toks := tk }) :
    TurnsAt prog w A h₀ env target body Q E (.ref s.heap.objs.size) { s with heap := s.heap.push o } := by
  have W' := KTurns.ofWalks (target := target) W fun _ v _ _ _ _ hQ => by rw [hgo]; exact wpAny_pure hQ
  refine ⟨_, _, _, _, _, _, _, m₀, Led c₀, KT Led ps stored m₀ P, rfl, W', ?_, ?_, ?_, hst, F.push _, (fun p hp => ⟨Heap.get?_push_of_some _ (N p hp).1, (N p hp).2⟩), ⟨c₀, rfl, hk, fun _ _ _ => rfl, hp⟩, ?_, ?_⟩
  · intro hm
    by_cases e : env.locals = s.heap.objs.size
    · exact absurd F.ns.lt (e ▸ Nat.lt_irrefl _)
    · exact (hfp _ hm e).1 rfl
  · intro b hb
    rw [List.mem_singleton.mp hb]
    exact next_is_new F
  · intro p hp hI
    exact absurd (Heap.lt_size (N p hp).1) ((List.mem_singleton.mp hI) ▸ Nat.lt_irrefl _)
  · rintro i v m₁ news₁ h₁ tk₁ own hi hP ⟨c, rfl, h1, h2, hp'⟩ hoff hown _ hfq hst F₁ N₁
    have hI0 : h₀.get? s.heap.objs.size = none := next_is_new F
    obtain ⟨oI, hoI⟩ := hIo _ _ hst
    have hIown : (s.heap.objs.size, oI) ∈ own := hfq _ hIf hI0 _ hoI
    have hsep : OwnOff own ((Led c).map (·.1)) := by
      intro p hp b hb e
      obtain ⟨q, hq, rfl⟩ := List.mem_map.mp hb
      by_cases e2 : p.1 = s.heap.objs.size
      · exact hoff q hq (List.mem_singleton.mpr (by rw [← e2]; exact e.symm))
      · exact (hfp _ (hown p hp) e2).2 c q hq e.symm
    have N₂ : News h₀ env.locals h₁ (Led c ++ own) := fun p hp => N₁ p ((List.mem_append.mp hp).elim (fun h => List.mem_append.mpr (.inr h)) fun h => List.mem_append.mpr (.inl h))
    refine wpAny_mono (turn c i v m₁ h₁ tk₁ own hi hP hsep hp' (fr_norm h1 h2 F₁) N₂) (fun _ s₃ z => wpAny_mono z (fun f s₂ p => ?_) fun _ _ e => e) fun _ _ e => e
    have fin : InvEndG h₀ env.locals (KT Led ps stored m₀ P (i + 1)) own { s with heap := h₁, toks := tk₁ } s₂ → LoopStepU h₀ env.locals [s.heap.objs.size] own (KT Led ps stored m₀ P (i + 1)) { s with heap := h₁, toks := tk₁ } .next s₂ := by
      rintro ⟨h', tk, m', news', nx, e, F', N', hn, ho, ha, hm⟩
      refine ⟨rfl, h', tk, m', nx, e, F', fun p hp => N' p ((List.mem_append.mp hp).elim (ho p) (hn p)), fun p hp hq => ?_, hm⟩
      exact ha _ hIown p.1 (List.mem_map.mpr ⟨p, hp, rfl⟩) (List.mem_singleton.mp hq).symm
    cases f with
    | ret v => exact .ret p
    | brk => exact .brk p
    | next => exact .next (fin p)
    | cont => exact .cont (fin p)
  · rintro h' tk m' news' F' N' _ ⟨c, rfl, h1, h2, hp'⟩
    exact done c m' h' tk hp' (fr_norm h1 h2 F') N'
/-- a for over a tuple that the call has made -/
theorem turnsT {σ : Type} {ax : Addr} {items : Array Value} {m₀ : Str → Option Value} {led : List (Addr × Obj)} (Led : σ → List (Addr × Obj)) (ps : σ → List (Str × Value)) (stored : List Str) (P : Nat → σ → Prop) (c₀ : σ)
    (hh : A.handled = none) (F : Fr h₀ env.locals s.heap m₀) (N : News h₀ env.locals s.heap ((ax, { cls := .type "tuple", data := .seq items }) :: led)) (hled : ∀ p ∈ Led c₀, p ∈ led) (hoff : ∀ c, ∀ p ∈ Led c, p.1 ≠ ax)
    (hk : ∀ p ∈ ps c₀, m₀ p.1 = some p.2) (hp : P 0 c₀)
    (hgo : ∀ v I, letOwnedTupleGo target (.ref I) v = pure ())
    (turn : ∀ (c : σ) i v (u : Str → Option Value) h tk own, i < items.size → items[i]? = some v → OwnOff own ((Led c).map (·.1)) → P i c →
      Fr h₀ env.locals h (kstB (fun z => if stored.contains z then u z else m₀ z) (ps c)) → News h₀ env.locals h (Led c ++ own) →
      wpAny (model prog w) A (assign target env v) (fun _ s₃ => wpAny (model prog w) A (execs body env) (fun f s₂ => Halt (InvPostG h₀ env.locals (KT Led ps stored m₀ P (i + 1)) own { s with heap := h, toks := tk } Q f s₂)) E s₃) E { s with heap := h, toks := tk })
    (done : ∀ (c : σ) (u : Str → Option Value) h tk, P items.size c → Fr h₀ env.locals h (kstB (fun z => if stored.contains z then u z else m₀ z) (ps c)) → News h₀ env.locals h (Led c) → Q .next { s with heap := h, toks := tk }) :
    wpAny (model prog w) A (pyIter (.ref ax)) (fun it s₂ => TurnsAt prog w A h₀ env target body Q E it s₂) E s := by
  have ht : s.heap.IsTuple ax items := ⟨_, (N _ (.head _)).1, rfl, _, rfl⟩
  have hlt : ax < s.heap.objs.size := Heap.lt_size (N _ (.head _)).1
  refine wpAny_pyIter_tuple ht ?_
  refine turnsX (s := s) (Walks.tuple (prog := prog) (w := w) hh s.heap.objs.size ax (Nat.ne_of_lt hlt) items) Led ps stored P c₀ ⟨⟨_, Heap.get?_push_size _ rfl, rfl, rfl⟩, ht.push _⟩ (fun i h x => ?_) (.head _) (fun b hb hne => ?_) F (fun p hp => N p (.tail _ (hled p hp))) hk hp hgo turn done
  · obtain ⟨⟨o, ho, _⟩, _⟩ := x
    exact ⟨o, ho⟩
  · rcases List.mem_cons.mp hb with rfl | hb
    · exact absurd rfl hne
    · rw [List.mem_singleton.mp hb]
      exact ⟨(N _ (.head _)).2.1, hoff⟩
/-- a for over a range -/
theorem turnsR {σ : Type} {r : Addr} {a b c : Int} {t u v : Tok} {n : Nat} {m₀ : Str → Option Value} (Led : σ → List (Addr × Obj)) (ps : σ → List (Str × Value)) (stored : List Str) (P : Nat → σ → Prop) (c₀ : σ)
    (hh : A.handled = none) (hr : IsRange s.heap r a b c t u v) (hsm : Builtin.Range.small a b c = true) (hn : Builtin.Range.rangeSize a b c = n) (F : Fr h₀ env.locals s.heap m₀) (N : News h₀ env.locals s.heap (Led c₀))
    (hk : ∀ p ∈ ps c₀, m₀ p.1 = some p.2) (hp : P 0 c₀)
    (hgo : ∀ v I, letOwnedTupleGo target (.ref I) v = pure ())
    (turn : ∀ (d : σ) i v (u : Str → Option Value) h tk own, i < n → (∃ t, v = .int (a + (i : Int) * c) t) → OwnOff own ((Led d).map (·.1)) → P i d →
      Fr h₀ env.locals h (kstB (fun z => if stored.contains z then u z else m₀ z) (ps d)) → News h₀ env.locals h (Led d ++ own) →
      wpAny (model prog w) A (assign target env v) (fun _ s₃ => wpAny (model prog w) A (execs body env) (fun f s₂ => Halt (InvPostG h₀ env.locals (KT Led ps stored m₀ P (i + 1)) own { s with heap := h, toks := tk } Q f s₂)) E s₃) E { s with heap := h, toks := tk })
    (done : ∀ (d : σ) (u : Str → Option Value) h tk, P n d → Fr h₀ env.locals h (kstB (fun z => if stored.contains z then u z else m₀ z) (ps d)) → News h₀ env.locals h (Led d) → Q .next { s with heap := h, toks := tk }) :
    wpAny (model prog w) A (pyIter (.ref r)) (fun it s₂ => TurnsAt prog w A h₀ env target body Q E it s₂) E s := by
  refine wpAny_pyIter_range hr hsm ?_
  refine turnsX (s := s) (Walks.range (prog := prog) (w := w) hh s.heap.objs.size a c n) Led ps stored P c₀ ?_ (fun i h x => ⟨_, x⟩) (.head _) (fun b hb hne => absurd (List.mem_singleton.mp hb) hne) F N hk hp hgo turn done
  show IsRangeIter _ _ _ _ _
  rw [hn]
  simpa using Heap.get?_push_size _ rfl
end
end Mine

namespace Mine
theorem ell_all {w : World} {mean : ExcName → Option Value} {mg mb : Str → Option Value} {A : Around} {Q E : Value → Shared → Prop} {s : Shared} {h₀ : Heap} {L : Addr} {m : Str → Option Value} {news : List (Addr × Obj)} (F₀ : Fr h₀ L s.heap m) (N₀ : News h₀ L s.heap news) (X₀ : (hd.heap_39 w.params).In h₀) (T₀ : Top hd.view_39 (looseW hd.view_39 [Str.ofString "b2a_base64", Str.ofString "_NO_SEP", Str.ofString "b2a_hex", Str.ofString "hexlify", Str.ofString "b64encode"]) mean mg mb h₀) {want got w0 wl : Str} {mid : List Str} {t1 t2 : Tok} (h0 : A.handled = none) (hD : A.depth ≤ 400) (hU : A.units ≤ 500) (hw : want.length + 2 ≤ sizeLine) (hin : (Builtin.Str.occurrences want dots 0 want.length 1).isEmpty = false) (hmid : mid.length + 2 ≤ 1000) (hg : got.length ≤ 1000) (hl0 : w0.length ≤ 1000) (hll : wl.length ≤ 1000) (hlm0 : ∀ a ∈ mid, a.length ≤ 1000) (hs : Txt.split want dots = w0 :: (mid ++ [wl]))
    (h : ∀ h' tk', Fr h₀ L h' m → News h₀ L h' news → Q (.bool (ellRes got w0 mid wl)) { s with heap := h', toks := tk' }) : wpAny (model PySem.Challenge.rw_mq0109_01.row.prog w) A (call (.ref 28) [.str want t1, .str got t2]) Q E s := by
  unfold ellRes at h
  by_cases e0 : w0.length = 0
  · rw [if_pos e0] at h
    by_cases el : wl.length = 0
    · rw [if_pos el] at h
      exact ell_spec_CE F₀ N₀ X₀ T₀ h0 hD hU hw hin hmid hg hl0 hll hlm0 hs e0 el h
    · rw [if_neg el] at h
      exact ell_spec_B F₀ N₀ X₀ T₀ h0 hD hU hw hin hmid hg hl0 hll hlm0 hs e0 el h
  · rw [if_neg e0] at h
    by_cases el : wl.length = 0
    · rw [if_pos el] at h
      exact ell_spec_A F₀ N₀ X₀ T₀ h0 hD hU hw hin hmid hg hl0 hll hlm0 hs e0 el h
    · rw [if_neg el] at h
      exact ell_spec_D F₀ N₀ X₀ T₀ h0 hD hU hw hin hmid hg hl0 hll hlm0 hs e0 el h
theorem written_spec {w : World} {mean : ExcName → Option Value} {mg mb : Str → Option Value} {A : Around} {Q E : Value → Shared → Prop} {s : Shared} {h₀ : Heap} {L : Addr} {m : Str → Option Value} {news : List (Addr × Obj)} (F₀ : Fr h₀ L s.heap m) (N₀ : News h₀ L s.heap news) (X₀ : (hd.heap_39 w.params).In h₀) (T₀ : Top hd.view_39 (looseW hd.view_39 [Str.ofString "b2a_base64", Str.ofString "_NO_SEP", Str.ofString "b2a_hex", Str.ofString "hexlify", Str.ofString "b64encode"]) mean mg mb h₀) {half : Nat} {l : Addr} {vs : List Value} {ns : List Int} {tk : Tok} (h0 : A.handled = none) (hD : A.depth ≤ 400) (hU : A.units ≤ 500) (hh : half = 2 ∨ half = 3) (hL : s.heap.IsList l vs.toArray) (hI : IntsAre vs ns) (hr : ∀ n ∈ ns, 0 ≤ n ∧ n < 256) (h3 : ns.length % 3 = 0) (hz : 2 * ns.length ≤ sizeLine) (hne : ns ≠ [])
    (h : ∀ t, ∀ h' tk', Fr h₀ L h' m → News h₀ L h' news → Q (.str (txt half ns) t) { s with heap := h', toks := tk' }) : wpAny (model PySem.Challenge.rw_mq0109_01.row.prog w) A (call (.ref 98) [.ref l, .int (2 * (half : Int)) tk]) Q E s := by
  rcases hh with rfl | rfl
  · exact written4_spec F₀ N₀ X₀ T₀ h0 hD hU hL hI hr hz hne h
  · obtain ⟨e1, e2⟩ := b64_dg h3 hr
    have hne2 : (b64st ns).1 ≠ [] := by
      intro e
      have hl : (wr6 ns).length = 4 * ns.length / 3 := by rw [e2, List.length_map, dg_len]
      unfold wr6 at hl
      rw [e] at hl
      have : ns.length ≠ 0 := fun e => hne (List.eq_nil_of_length_eq_zero e)
      simp at hl
      omega
    refine written6_spec (lcz := (b64st ns).2.2) F₀ N₀ X₀ T₀ h0 hD hU hL hI hr hz ?_ hne2 h
    rw [← e1]
end Mine

namespace Mine
section
variable {prog : Program} {w : World} {A : Around} {E : Value → Shared → Prop} {s : Shared} {env : Env} {h₀ : Heap} {target : Expr} {body : List Stmt} {Q : Flow → Shared → Prop}
/-- a for over a tuple that the call has made, whose turns change no object -/
theorem turnsU {ax : Addr} {items : Array Value} {m₀ : Str → Option Value} {led : List (Addr × Obj)} (stored : List Str)
    (hh : A.handled = none) (F : Fr h₀ env.locals s.heap m₀) (N : News h₀ env.locals s.heap ((ax, { cls := .type "tuple", data := .seq items }) :: led)) (hoff : ∀ p ∈ led, p.1 < ax)
    (hgo : ∀ v I, letOwnedTupleGo target (.ref I) v = pure ())
    (turn : ∀ i v (u : Str → Option Value) h tk own, items[i]? = some v → OwnOff own (led.map (·.1)) →
      Fr h₀ env.locals h (fun z => if stored.contains z then u z else m₀ z) → News h₀ env.locals h (led ++ own) →
      wpAny (model prog w) A (assign target env v) (fun _ s₃ => wpAny (model prog w) A (execs body env) (fun f s₂ => Halt (InvPostG h₀ env.locals (KT (fun _ : Unit => led) (fun _ => []) stored m₀ (fun _ _ => True) (i + 1)) own { s with heap := h, toks := tk } Q f s₂)) E s₃) E { s with heap := h, toks := tk })
    (done : ∀ (u : Str → Option Value) h tk, Fr h₀ env.locals h (fun z => if stored.contains z then u z else m₀ z) → News h₀ env.locals h led → Q .next { s with heap := h, toks := tk }) :
    wpAny (model prog w) A (pyIter (.ref ax)) (fun it s₂ => TurnsAt prog w A h₀ env target body Q E it s₂) E s :=
  turnsT (fun _ : Unit => led) (fun _ => []) stored (fun _ _ => True) () hh F N (fun _ hp => hp) (fun _ p hp => Nat.ne_of_lt (hoff p hp)) (fun _ hp => nomatch hp) trivial hgo
    (fun _ i v u h tk own _ hv ho _ F' N' => turn i v u h tk own hv ho F' N') fun _ u h tk _ F' N' => done u h tk F' N'
end
theorem shapes {n k : Nat} (hk : k < n) : Shape n [(k : Int), -1] ∧ Shape n [-1, (k : Int)] ∧ Shape n [-1, (k : Int), -1] ∧ Shape n [0, -1, (k : Int), -1, (n : Int) - 1] ∧ Shape n [-1, ((k : Int) - 2).fmod n, -1, ((k : Int) - 1).fmod n, -1, (k : Int), -1] := by
  have hm : ∀ x : Int, ∃ a : Nat, a < n ∧ x.fmod n = (a : Int) := fun x => by
    have h0 : (0 : Int) < n := by omega
    refine ⟨(x % n).toNat, ?_, ?_⟩
    · have := Int.emod_nonneg x (Int.ne_of_gt h0)
      have := Int.emod_lt_of_pos x h0
      omega
    · rw [Int.fmod_eq_emod_of_nonneg _ (by omega)]
      have := Int.emod_nonneg x (Int.ne_of_gt h0)
      omega
  obtain ⟨a, ha, ea⟩ := hm ((k : Int) - 2)
  obtain ⟨b, hb, eb⟩ := hm ((k : Int) - 1)
  refine ⟨.inl ⟨k, hk, rfl⟩, .inr (.inl ⟨k, hk, rfl⟩), .inr (.inr (.inl ⟨k, hk, rfl⟩)), .inr (.inr (.inr (.inl ⟨0, k, n - 1, by omega, hk, by omega, ?_⟩))), .inr (.inr (.inr (.inr ⟨a, b, k, ha, hb, hk, ?_⟩)))⟩
  · rw [show ((n - 1 : Nat) : Int) = (n : Int) - 1 by omega]; rfl
  · rw [ea, eb]
theorem shape_facts {n : Nat} {qs : List Int} (h : Shape n qs) : qs.length ≤ 7 ∧ ∀ q ∈ qs, q < (n : Int) := by
  rcases h with ⟨k, hk, rfl⟩ | ⟨k, hk, rfl⟩ | ⟨k, hk, rfl⟩ | ⟨a, k, l, ha, hk, hl, rfl⟩ | ⟨a, b, k, ha, hb, hk, rfl⟩
  all_goals
    refine ⟨by simp, fun q hq => ?_⟩
    simp only [List.mem_cons, List.not_mem_nil, or_false] at hq
    omega
theorem want_len {half M c : Nat} {got : Str} {T : Nat → Str} {ws ps qs : List Int} (H : Net half M c got T ws ps) (hs : Shape ps.length qs) : ((qs.map (wantG T)).map (·.length)).sum + (qs.map (wantG T)).length ≤ 1048576 := by
  have hc12 : c ≤ 12 := by have := H.hc; have := Nat.le_mul_of_pos_left c H.h1; omega
  have hneg : (wantG T (-1)).length ≤ 12 := by rw [wantG_neg, dots_len]; decide
  have hpos : ∀ k : Nat, k < ps.length → (wantG T (k : Int)).length ≤ 12 := fun k hk => by rw [wantG_pos, H.tl k hk]; exact hc12
  have hall : ∀ y ∈ qs.map (wantG T), y.length ≤ 12 := by
    intro y hy
    obtain ⟨q, hq, rfl⟩ := List.mem_map.mp hy
    rcases hs with ⟨k, hk, rfl⟩ | ⟨k, hk, rfl⟩ | ⟨k, hk, rfl⟩ | ⟨a, k, l, ha, hk, hl, rfl⟩ | ⟨a, b, k, ha, hb, hk, rfl⟩
    all_goals
      simp only [List.mem_cons, List.not_mem_nil, or_false] at hq
    · rcases hq with rfl | rfl
      · exact hpos k hk
      · exact hneg
    · rcases hq with rfl | rfl
      · exact hneg
      · exact hpos k hk
    · rcases hq with rfl | rfl | rfl
      · exact hneg
      · exact hpos k hk
      · exact hneg
    · rcases hq with rfl | rfl | rfl | rfl | rfl
      · exact hpos a ha
      · exact hneg
      · exact hpos k hk
      · exact hneg
      · exact hpos l hl
    · rcases hq with rfl | rfl | rfl | rfl | rfl | rfl | rfl
      · exact hneg
      · exact hpos a ha
      · exact hneg
      · exact hpos b hb
      · exact hneg
      · exact hpos k hk
      · exact hneg
  have h1 := StrLaws.sumLen_le _ hall
  have h2 := (shape_facts hs).1
  rw [List.length_map] at h1 ⊢
  omega
theorem five {h₀ h : Heap} {L l1 l2 l3 l4 l5 : Addr} {lst : List (Addr × Obj)} {v1 v2 v3 v4 v5 : List Value} {q1 q2 q3 q4 q5 : List Int} {n i : Nat} {v : Value} (_N : News h₀ L h lst)
    (m1 : (l1, listOf v1.toArray 0) ∈ lst) (m2 : (l2, listOf v2.toArray 0) ∈ lst) (m3 : (l3, listOf v3.toArray 0) ∈ lst) (m4 : (l4, listOf v4.toArray 0) ∈ lst) (m5 : (l5, listOf v5.toArray 0) ∈ lst)
    (i1 : IntsAre v1 q1) (i2 : IntsAre v2 q2) (i3 : IntsAre v3 q3) (i4 : IntsAre v4 q4) (i5 : IntsAre v5 q5)
    (s1 : Shape n q1) (s2 : Shape n q2) (s3 : Shape n q3) (s4 : Shape n q4) (s5 : Shape n q5) (hv : #[Value.ref l1, .ref l2, .ref l3, .ref l4, .ref l5][i]? = some v) :
    ∃ lq qv qs, v = .ref lq ∧ (lq, listOf qv.toArray 0) ∈ lst ∧ IntsAre qv qs ∧ Shape n qs := by
  match i, hv with
  | 0, hv => exact ⟨l1, v1, q1, (Option.some.inj hv).symm, m1, i1, s1⟩
  | 1, hv => exact ⟨l2, v2, q2, (Option.some.inj hv).symm, m2, i2, s2⟩
  | 2, hv => exact ⟨l3, v3, q3, (Option.some.inj hv).symm, m3, i3, s3⟩
  | 3, hv => exact ⟨l4, v4, q4, (Option.some.inj hv).symm, m4, i4, s4⟩
  | 4, hv => exact ⟨l5, v5, q5, (Option.some.inj hv).symm, m5, i5, s5⟩
  | k + 5, hv => cases hv
end Mine

namespace Mine
theorem fmod_six {ns : List Int} : ∀ n ∈ (ns.map fun k' => Int.fmod k' (10 ^ Int.toNat 6)), 0 ≤ n ∧ n < 1000000 := by
  intro n hn
  obtain ⟨k, _, rfl⟩ := List.mem_map.mp hn
  have e : (10 : Int) ^ Int.toNat 6 = 1000000 := by decide
  rw [e, Int.fmod_eq_emod_of_nonneg _ (by decide)]
  omega
theorem rowBase_len (ns : List Int) (hl : ns.length ≤ 3) : (4 ≤ (rowBase ns).length) ∧ (rowBase ns).length ≤ 14 := by
  unfold rowBase
  rw [List.length_flatten, List.map_replicate, List.sum_replicate_nat]
  have h5 : ([1, 35, 69, 103] ++ ns.map fun a => a % 256).length = 4 + ns.length := by simp; omega
  rw [h5]
  have h1 : 0 ≤ ns.sum % 2 := Int.emod_nonneg _ (by decide)
  have h2 : ns.sum % 2 < 2 := Int.emod_lt_of_pos _ (by decide)
  have h6 : (1 + ns.sum % 2).toNat = 1 ∨ (1 + ns.sum % 2).toNat = 2 := by omega
  rcases h6 with e | e <;> rw [e] <;> omega
theorem rep_one (k : Nat) : (List.replicate k [(0 : Int)]).flatten = List.replicate k 0 := by
  induction k with
  | zero => rfl
  | succ k ih => rw [List.replicate_succ, List.flatten_cons, ih]; rfl
theorem rowR_len (ns : List Int) (hl : ns.length ≤ 3) : 6 ≤ (rowR ns).length ∧ (rowR ns).length ≤ 15 ∧ (rowR ns).length % 3 = 0 := by
  obtain ⟨h1, h2⟩ := rowBase_len ns hl
  unfold rowR
  rw [rep_one, List.length_append, List.length_replicate]
  omega
theorem rowR_bytes (ns : List Int) : ∀ n ∈ rowR ns, 0 ≤ n ∧ n < 256 := by
  intro n hn
  unfold rowR at hn
  rw [rep_one] at hn
  rcases List.mem_append.mp hn with h | h
  · unfold rowBase at h
    obtain ⟨l, hl, h⟩ := List.mem_flatten.mp h
    rw [List.eq_of_mem_replicate hl] at h
    rcases List.mem_append.mp h with h | h
    · simp only [List.mem_cons, List.not_mem_nil, or_false] at h
      omega
    · obtain ⟨a, _, rfl⟩ := List.mem_map.mp h
      omega
  · rw [List.eq_of_mem_replicate h]; omega
theorem windowsR_len (row : List Int) (h : 3 ≤ row.length) : (windowsR row).length = 4 * row.length - 11 := by
  unfold windowsR
  rw [List.length_map, List.length_map, List.length_range, rangeSize_pos (by decide) (by omega)]
  omega
theorem winAt_bound (row : List Int) (k : Int) : 0 ≤ winAt row k ∧ winAt row k < 16777216 := by unfold winAt; omega
theorem windowsR_bound (row : List Int) : ∀ n ∈ windowsR row, 0 ≤ n ∧ n < 16777216 := by
  intro n hn
  unfold windowsR at hn
  obtain ⟨k, _, rfl⟩ := List.mem_map.mp hn
  exact winAt_bound row k
theorem getD_bound {ws : List Int} (h : ∀ n ∈ ws, 0 ≤ n ∧ n < 16777216) (i : Nat) : 0 ≤ ws.getD i 0 ∧ ws.getD i 0 < 16777216 := by
  rw [List.getD_eq_getElem?_getD]
  cases e : ws[i]? with
  | none => simp
  | some a => exact h a (List.mem_of_getElem? e)
theorem piecesR_bound {ws ns : List Int} (h : ∀ n ∈ ws, 0 ≤ n ∧ n < 16777216) : ∀ n ∈ piecesR ws ns, 0 ≤ n ∧ n < 16777216 := by
  intro n hn
  unfold piecesR at hn
  rcases List.mem_append.mp hn with hn | hn
  · rcases List.mem_append.mp hn with hn | hn
    · rw [List.mem_singleton.mp hn]; exact getD_bound h _
    · obtain ⟨v, _, rfl⟩ := List.mem_map.mp hn
      have := getD_bound h (v / 256 % (ws.length : Int)).toNat
      unfold pieceR
      dsimp only
      split <;> omega
  · rw [List.mem_singleton.mp hn]; exact getD_bound h _
theorem piecesR_len (ws ns : List Int) : (piecesR ws ns).length = ns.length + 2 := by simp [piecesR]
local macro_rules | `(tactic| walk_at "call ref") => `(tactic| refine halt_mk ?_)
local macro_rules | `(tactic| walk_at "pyIter ref") => `(tactic| refine halt_mk ?_)
local macro_rules | `(tactic| walk_at "call builtin:len") => `(tactic| ((with_reducible show wpAny _ _ (call (Value.builtin "len") [Value.ref _]) _ _ _); refine halt_mk ?_))
local macro_rules | `(tactic| walk_at "exec For Name Tuple cons nil") => `(tactic| refine halt_mk ?_)
def Mark : Prop := True
local macro_rules | `(tactic| walk_at "CompSrc") => `(tactic| (with_reducible rename Mark => hmk; refine halt_mk ?_))
local macro_rules | `(tactic| walk_at "eval ListComp") => `(tactic| refine halt_mk ?_)
local macro_rules | `(tactic| walk_at "exec For Name Call cons nil") => `(tactic| refine halt_mk ?_)
local macro_rules | `(tactic| walk_at "subscriptTail") => `(tactic| (with_reducible rename Mark => hmk; (with_reducible show wpAny _ _ (subscriptTail _ _ (Value.ref _) (Value.int _ _)) _ _ _); refine halt_mk ?_))
local macro_rules | `(tactic| walk_at "call builtin:str.join") => `(tactic| (with_reducible rename Mark => hmk; refine halt_mk ?_))
theorem law_holds : PySem.Challenge.rw_mq0109_01.Holds := hd (by
  k_go0
  k_fold
  rename_i w0 s0 s1 mg mb G Y fa o pm doc ho hg KX X V GL T B TE TW a9 o8 M a7 a6 hcd script hs0 hlay0 hLy hrr hl2 as4 as3 la vs as0 hL hra hW hr0 hI hrW hle hcc K0 hDD h₁ tk₁ F oT oS dT dS N X0
  replace dS : oS.data = .cell none := dS
  replace dT : oT.data = .cell none := dT
  clear hDD
  k_steps
  rename_i g' hI8 hL8 D h2 tk2 F2 N2 o2
  obtain ⟨mz, F2⟩ : ∃ mz : Str → Option Value, Fr s1.heap s1.heap.objs.size h2 (fun y => if y = Str.ofString "numbers" then some (.ref D) else mz y) := ⟨_, F2⟩
  refine halt_out (row_spec F2 N2 (by assumption) (by assumption) rfl (Nat.le_of_ble_eq_true rfl) (Nat.le_of_ble_eq_true rfl) (News.isList N2 (.head _)) hI8 (by simp; omega) fmod_six ?_)
  intro ra rv h3 tk3 F3 N3 l3 iR
  have r1 : ra ≠ s1.heap.objs.size + 1 + 1 := fun e => l3 _ (.tail _ (.tail _ (.head _))) e.symm
  have r2 : ra ≠ s1.heap.objs.size + 1 := fun e => l3 _ (.tail _ (.tail _ (.tail _ (.head _)))) e.symm
  clear l3
  have hnl : (List.map (fun k' => Int.fmod k' (10 ^ Int.toNat 6)) (List.take 3 script)).length ≤ 3 := by simp; omega
  generalize hnum : List.map (fun k' => Int.fmod k' (10 ^ Int.toNat 6)) (List.take 3 script) = ns at hI8 iR hnl
  have hnb : ∀ n ∈ ns, 0 ≤ n ∧ n < 1000000 := by rw [← hnum]; exact fmod_six
  obtain ⟨rl1, rl2, rl3⟩ := rowR_len ns hnl
  have rby := rowR_bytes ns
  generalize hrow : rowR ns = row at iR rl1 rl2 rl3 rby
  k_steps
  refine halt_out (windows_spec (by assumption) (by assumption) (by assumption) (by assumption) rfl (Nat.le_of_ble_eq_true rfl) (Nat.le_of_ble_eq_true rfl) (News.isList (by assumption) (.head _)) iR rl2 (by omega) rby ?_)
  intro wa wv wn h4 tk4 F4 N4 l4 iW
  have w1 : wa ≠ s1.heap.objs.size + 1 + 1 := fun e => l4 _ (.tail _ (.tail _ (.tail _ (.head _)))) e.symm
  have w2 : wa ≠ s1.heap.objs.size + 1 := fun e => l4 _ (.tail _ (.tail _ (.tail _ (.tail _ (.head _))))) e.symm
  have w3 : wa ≠ ra := fun e => l4 _ (.head _) e.symm
  clear l4
  have wl := windowsR_len row (by omega)
  have wb := windowsR_bound row
  generalize hwin : windowsR row = ws at iW wl wb
  k_steps
  refine halt_out (pieces_spec (by assumption) (by assumption) (by assumption) (by assumption) rfl (Nat.le_of_ble_eq_true rfl) (Nat.le_of_ble_eq_true rfl) (News.isList (by assumption) (.head _)) iW (News.isList (by assumption) (.tail _ (.tail _ (.head _)))) hI8 (by omega) (by omega) hnl hnb ?_)
  intro pa pv pn h5 tk5 F5 N5 l5 iP
  have p1 : pa ≠ s1.heap.objs.size + 1 + 1 := fun e => l5 _ (.tail _ (.tail _ (.tail _ (.tail _ (.head _))))) e.symm
  have p2 : pa ≠ s1.heap.objs.size + 1 := fun e => l5 _ (.tail _ (.tail _ (.tail _ (.tail _ (.tail _ (.head _)))))) e.symm
  have p3 : pa ≠ wa := fun e => l5 _ (.head _) e.symm
  have p4 : pa ≠ ra := fun e => l5 _ (.tail _ (.head _)) e.symm
  clear l5
  have pl := piecesR_len ws ns
  have pb := piecesR_bound (ns := ns) wb
  generalize hpie : piecesR ws ns = ps at iP pl pb
  k_steps
  refine halt_out (kst_len (k := ps.length) (by assumption) (.head _) iP.length (by omega) ?_)
  k_steps
  refine halt_out (For_turns (by assumption) ?_)
  k_steps
  rename_i ta h8 F8 N8 l8
  refine halt_out (turnsT (σ := Obj × Obj) (fun c => [(pa, W.listOf pv.toArray pn), (wa, W.listOf wv.toArray wn), (ra, W.listOf rv.toArray 0), (s1.heap.objs.size + 1 + 1, c.2), (s1.heap.objs.size + 1, c.1)]) (fun _ => [])
    [Str.ofString "got", Str.ofString "k", Str.ofString "i", Str.ofString "j", Str.ofString "parts", Str.ofString "want", Str.ofString "told"]
    (fun _ c => (∃ v, c.1.data = .cell v) ∧ ∃ v, c.2.data = .cell v) (oS, oT) rfl F8 N8 ?g1 ?g2 ?g3 ⟨⟨_, dS⟩, _, dT⟩ (fun _ _ => rfl) ?g4 ?g5)
  case g1 => exact fun p hp => by simp only [List.mem_cons, List.not_mem_nil, or_false] at hp ⊢; rcases hp with rfl | rfl | rfl | rfl | rfl <;> simp
  case g2 =>
    intro c p hp
    obtain ⟨q1, q2, q3, _, _, q6, q7⟩ := l8
    simp only [List.mem_cons, List.not_mem_nil, or_false] at hp
    rcases hp with rfl | rfl | rfl | rfl | rfl
    · exact Nat.ne_of_lt q1
    · exact Nat.ne_of_lt q2
    · exact Nat.ne_of_lt q3
    · exact Nat.ne_of_lt q6
    · exact Nat.ne_of_lt q7
  case g3 => intro p hp; cases hp
  case g4 =>
    rintro ⟨oS, oT⟩ i v u h9 tk9 own hi hv hoff ⟨⟨vS, dS⟩, vT, dT⟩ F9 N9
    dsimp only [kstB] at F9
    dsimp only at dS dT
    obtain ⟨half, hh, t, rfl⟩ : ∃ half : Nat, (half = 2 ∨ half = 3) ∧ ∃ t, v = .int (2 * (half : Int)) t := by
      match i, hi with
      | 0, _ => exact ⟨2, .inl rfl, _, (Option.some.inj hv).symm⟩
      | 1, _ => exact ⟨3, .inr rfl, _, (Option.some.inj hv).symm⟩
    clear hv
    change News s1.heap s1.heap.objs.size h9 ((pa, W.listOf pv.toArray pn) :: (wa, W.listOf wv.toArray wn) :: (ra, W.listOf rv.toArray 0) :: (s1.heap.objs.size + 1 + 1, oT) :: (s1.heap.objs.size + 1, oS) :: own) at N9
    replace hoff : OwnOff own [pa, wa, ra, s1.heap.objs.size + 1 + 1, s1.heap.objs.size + 1] := hoff
    k_steps
    rename_i h10 oS F10 N10 dS
    refine halt_out (written_spec F10 N10 KX T rfl (Nat.le_of_ble_eq_true rfl) (Nat.le_of_ble_eq_true rfl) hh (News.isList N10 (.tail _ (.tail _ (.head _)))) iR rby rl3 (by have : sizeLine = 16777216 := rfl; omega) (by intro e; rw [e] at rl1; simp at rl1) ?_)
    intro tg h11 tk11 F11 N11
    have hmk : Mark := trivial
    k_steps
    refine halt_out (LCg.ListComp_U (F₀ := by k_asm) (by with_unfolding_all rfl) (by decide) (by rfl) (by decide) (by rfl) ?_)
    k_steps
    have hpz : pv.length ≤ 5 := by have := iP.length; omega
    refine halt_out (LCg.CompSrc.ledger rfl (by assumption) (by assumption) (.head _) (by rw [List.size_toArray]; have : sizeLine = 16777216 := rfl; omega) ?_)
    intro g12
    refine kct_list (fun p => txt half (oct3 p)) iP ?h1 ?h2
    case h1 =>
      intro p tp I oI C oC D m2 ys h12 tk12 E' hp hC hx F12 N12 off ne _
      k_steps
      rename_i lo h13 F13 N13 l13
      refine halt_out (written_spec F13 N13 KX T rfl (Nat.le_of_ble_eq_true rfl) (Nat.le_of_ble_eq_true rfl) hh (News.isList N13 (.head _)) (ns := oct3 p) (IntsAre.cons _ _ (IntsAre.cons _ _ (IntsAre.cons _ _ IntsAre.nil))) (oct3_bytes (pb p hp)) (by simp [oct3]) (by have : sizeLine = 16777216 := rfl; simp [oct3]; omega) (by simp [oct3]) ?_)
      intro tt h14 tk14 F14 N14
      exact ⟨_, _, _, rfl, F14, fun p hp => N14 p (.tail _ hp), off, .inr ⟨_, .head _, rfl, _, rfl⟩, rfl, _, rfl⟩
    case h2 =>
      intro tv hc hl D h12 tk12 F12 N12 off
      have iT := hc.strsOf
      have d1 : D ≠ s1.heap.objs.size + 1 + 1 := fun e => off1_ne off _ (.tail _ (.tail _ (.tail _ (.head _)))) e.symm
      have d2 : D ≠ s1.heap.objs.size + 1 := fun e => off1_ne off _ (.tail _ (.tail _ (.tail _ (.tail _ (.head _))))) e.symm
      have d3 : ∀ p ∈ own, p.1 ≠ D := fun p hp => off1_ne off _ (.tail _ (.tail _ (.tail _ (.tail _ (.tail _ hp)))))
      k_steps
      rename_i h13 oT F13 N13 dT
      refine halt_out (For_turns (by assumption) ?_)
      k_steps
      rename_i h14 tk14 t14 u14 v14 R14 F14 N14 K14
      have hn14 : Builtin.Range.rangeSize 0 (ps.length : Int) 1 = (ps.length : Nat) := by rw [rangeSize_pos (by decide) (by omega)]; omega
      refine halt_out (turnsR (σ := Unit) (n := ps.length) (fun _ => (D, LCg.lst tv) :: (pa, W.listOf pv.toArray pn) :: (wa, W.listOf wv.toArray wn) :: (ra, W.listOf rv.toArray 0) :: (s1.heap.objs.size + 1 + 1, oT) :: (s1.heap.objs.size + 1, oS) :: own) (fun _ => [])
        [Str.ofString "k", Str.ofString "i", Str.ofString "j", Str.ofString "parts", Str.ofString "want", Str.ofString "told"]
        (fun _ _ => True) () rfl R14 (small_ok (by omega) (by omega) (by omega) (by omega) (by omega) (by omega)) hn14 F14 N14 ?k1 trivial (fun _ _ => rfl) ?k2 ?k3)
      case k1 => intro p hp; cases hp
      case k2 =>
        rintro ⟨⟩ k v u15 h15 tk15 own2 hk ⟨t15, rfl⟩ hoff2 - F15 N15
        have ek : 0 + (k : Int) * 1 = (k : Int) := by omega
        rw [ek]
        dsimp only [kstB] at F15
        change News s1.heap s1.heap.objs.size h15 ((D, LCg.lst tv) :: (pa, W.listOf pv.toArray pn) :: (wa, W.listOf wv.toArray wn) :: (ra, W.listOf rv.toArray 0) :: (s1.heap.objs.size + 1 + 1, oT) :: (s1.heap.objs.size + 1, oS) :: (own ++ own2)) at N15
        clear R14 K14
        k_steps
        refine halt_out (For_turns (by assumption) ?_)
        k_steps
        rename_i l1 g1 e1 l2 g2 e2 l3 g3 e3 l4 g4 e4 l5 g5 F16 N16 e5 g6 F17 N17 K17 xx nm
        have hsh := shapes hk
        refine halt_out (turnsU [Str.ofString "parts", Str.ofString "want", Str.ofString "told"] rfl F17 N17 (fun p hp => Heap.lt_size (N16 p hp).1) (fun _ _ => rfl) ?t1 ?t2)
        case t1 =>
          intro x v u18 h18 tk18 own3 hv hoff3 F18 N18
          simp only [List.cons_append] at N18
          obtain ⟨lq, qv, qs, rfl, hm, iq, hs⟩ := five N18 (.tail _ (.tail _ (.tail _ (.tail _ (.head _))))) (.tail _ (.tail _ (.tail _ (.head _)))) (.tail _ (.tail _ (.head _))) (.tail _ (.head _)) (.head _)
            (IntsAre.cons _ _ (IntsAre.cons _ _ IntsAre.nil)) (IntsAre.cons _ _ (IntsAre.cons _ _ IntsAre.nil)) (IntsAre.cons _ _ (IntsAre.cons _ _ (IntsAre.cons _ _ IntsAre.nil)))
            (IntsAre.cons _ _ (IntsAre.cons _ _ (IntsAre.cons _ _ (IntsAre.cons _ _ (IntsAre.cons _ _ IntsAre.nil))))) (IntsAre.cons _ _ (IntsAre.cons _ _ (IntsAre.cons _ _ (IntsAre.cons _ _ (IntsAre.cons _ _ (IntsAre.cons _ _ (IntsAre.cons _ _ IntsAre.nil)))))))
            hsh.1 hsh.2.1 hsh.2.2.1 hsh.2.2.2.1 hsh.2.2.2.2 hv
          clear hv F16 N16 F17 N17 K17
          obtain ⟨hq7, hqn⟩ := shape_facts hs
          k_steps
          refine halt_out (LCg.ListComp_U (F₀ := by k_asm) (by with_unfolding_all rfl) (by decide) (by rfl) (by decide) (by rfl) ?_)
          k_steps
          have hqz : qv.length ≤ 7 := by have := iq.length; omega
          refine halt_out (LCg.CompSrc.ledger rfl (by assumption) (by assumption) hm (by rw [List.size_toArray]; have : sizeLine = 16777216 := rfl; omega) ?_)
          intro g19
          refine kct_list (wantG (textOf half ps)) iq ?c1 ?c2
          case c1 =>
            intro q tq I oI C oC D2 m2 ys h19 tk19 E' hq hC hx F19 N19 off ne _
            have hqb := hqn q hq
            k_steps
            · rename_i hq0
              exact ⟨_, _, _, rfl, by assumption, by assumption, off, .inr ⟨_, hm, rfl, _, rfl⟩, kct_el (r' := dots) (by unfold wantG; rw [if_pos hq0]) rfl rfl⟩
            · rename_i hq0
              refine halt_out (item_strsA (a := D) (l := tv) ⟨_, (N19 _ (.tail _ (.tail _ (.tail _ (.tail _ (.tail _ (.tail _ (.tail _ (.tail _ (.tail _ (.head _))))))))))).1, rfl, _, rfl⟩ iT (by omega) (by rw [List.length_map]; omega) (by omega) ?_)
              intro tz
              exact ⟨_, _, _, rfl, by assumption, by assumption, off, .inr ⟨_, hm, rfl, _, rfl⟩, kct_el (by unfold wantG textOf; rw [if_neg hq0]) rfl rfl⟩
          case c2 =>
            intro uv huc hul D2 h19 tk19 F19 N19 off2
            have iU := huc.strsOf
            have H := net_of (ps := ps) hh rl1 rl3 rby pb
            rw [hwin] at H
            k_steps
            refine halt_out (join_listW (D := D2) (items := uv.toArray) ⟨_, (N19 _ (.head _)).1, rfl, _, rfl⟩ iU (by decide +kernel) (want_len H hs) ?_)
            intro tw kw
            k_steps
            obtain ⟨y0, mid, yl, y1, y2, y3, y4, y5, y6, y7, y8⟩ := net_answer H hs
            refine halt_out (ell_all (want := wantS (textOf half ps) qs) (got := txt half row) (by assumption) (by assumption) KX T rfl (Nat.le_of_ble_eq_true rfl) (Nat.le_of_ble_eq_true rfl) (by have : sizeLine = 16777216 := rfl; omega) y2 y3 (by rw [H.gl]; rcases hh with rfl | rfl <;> omega) y4 y5 y6 y1 ?_)
            rw [y8]
            intro h20 tk20 F20 N20
            k_steps
            refine halt_out (fits_spec (half := (half : Int)) (by assumption) (by assumption) KX T rfl (Nat.le_of_ble_eq_true rfl) (Nat.le_of_ble_eq_true rfl) (News.isList (by assumption) (.tail _ (.tail _ (.tail _ (.tail _ (.tail _ (.tail _ (.tail _ (.tail _ (.tail _ (.head _))))))))))) iW (News.isList (by assumption) (.tail _ (.tail _ (.tail _ (.tail _ (.tail _ (.tail _ (.tail _ (.tail _ (.head _)))))))))) iP (News.isList (by assumption) (.tail _ hm)) iq (by omega) (by omega) (by omega) (by omega) (by omega) hqn ?_)
            intro h21 tk21 F21 N21
            k_steps
            · rename_i eb
              rw [bne_self_eq_false] at eb
              exact absurd eb (by decide)
            · rename_i eb
              refine endT (c := ()) F21 N21 (fun p hp => .tail _ (List.mem_append_left own3 hp)) (fun p hp => (.tail _ (.tail _ (.tail _ (.tail _ (.tail _ (.tail _ (.tail _ (.tail _ (.tail _ (.tail _ (.tail _ (.tail _ (.tail _ (List.mem_append_right (own ++ own2) hp))))))))))))))) hoff3 (fun p hp => by cases hp) ?e7 trivial
              case e7 =>
                intro z z2 z3
                have z4 := z3
                simp only [List.contains_cons, List.contains_nil, Bool.or_false, Bool.or_eq_false_iff, beq_eq_false_iff_ne] at z4
                obtain ⟨a5, a6, a7⟩ := z4
                simp only [if_neg a5, if_neg a6, if_neg a7, z3]
                rfl
        case t2 =>
          intro u18 h18 tk18 F18 N18
          k_steps
          refine endT (c := ()) F18 N18 (fun p hp => .tail _ (.tail _ (.tail _ (.tail _ (.tail _ (.tail _ (List.mem_append_left own2 hp)))))))
            (fun p hp => .tail _ (.tail _ (.tail _ (.tail _ (.tail _ (.tail _ (.tail _ (.tail _ (.tail _ (.tail _ (.tail _ (.tail _ (List.mem_append_right own hp))))))))))))) hoff2 (fun p hp => by cases hp) ?e6 trivial
          case e6 =>
            intro z z2 z3
            have z4 := z3
            simp only [List.contains_cons, List.contains_nil, Bool.or_false, Bool.or_eq_false_iff, beq_eq_false_iff_ne] at z4
            obtain ⟨a2, a3, a4, a5, a6, a7⟩ := z4
            have z5 : [Str.ofString "parts", Str.ofString "want", Str.ofString "told"].contains z = false := by
              simp only [List.contains_cons, List.contains_nil, Bool.or_false, Bool.or_eq_false_iff, beq_eq_false_iff_ne]
              exact ⟨a5, a6, a7⟩
            simp only [if_neg a2, if_neg a3, if_neg a4, z5, z3]
            rfl
      case k3 =>
        rintro ⟨⟩ u15 h15 tk15 - F15 N15
        dsimp only [kstB] at F15
        k_steps
        refine endT (c := (oS, oT)) F15 N15 (fun p hp => .tail _ (List.mem_append_left own hp)) (fun p hp => .tail _ (.tail _ (.tail _ (.tail _ (.tail _ (.tail _ hp)))))) hoff (fun p hp => by cases hp) ?e5 ⟨⟨_, dS⟩, _, dT⟩
        case e5 =>
          intro z z2 z3
          have z4 := z3
          simp only [List.contains_cons, List.contains_nil, Bool.or_false, Bool.or_eq_false_iff, beq_eq_false_iff_ne] at z4
          obtain ⟨a1, a2, a3, a4, a5, a6, a7⟩ := z4
          have z5 : [Str.ofString "k", Str.ofString "i", Str.ofString "j", Str.ofString "parts", Str.ofString "want", Str.ofString "told"].contains z = false := by
            simp only [List.contains_cons, List.contains_nil, Bool.or_false, Bool.or_eq_false_iff, beq_eq_false_iff_ne]
            exact ⟨a2, a3, a4, a5, a6, a7⟩
          simp only [if_neg a1, z5, z3]
          rfl
  case g5 =>
    rintro ⟨oS, oT⟩ u h9 tk9 ⟨⟨vS, dS⟩, vT, dT⟩ F9 N9
    dsimp only [kstB] at F9
    k_steps)
end Mine

theorem PySem.Challenge.cw_mq0109_01_holds : PySem.Challenge.rw_mq0109_01.Holds :=
  Mine.law_holds
