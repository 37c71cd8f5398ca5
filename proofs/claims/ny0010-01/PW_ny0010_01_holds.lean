import PyProof.Rows.All
import Wide.All
import OpenK.AllK
import Wide.FinOn
import PySem.Challenge.RW_ny0010_01
open PySem PySem.W PyProof.Rows
set_option Elab.async false
/-! part Hd -/
section
namespace Mine
set_option maxRecDepth 100000 in
set_option maxHeartbeats 8000000 in
open_top hd for PySem.Challenge.rw_ny0010_01
end Mine
end
/-! part C0 -/
section
theorem Mine.offC0 : True := by (w_top off; trivial)
namespace Mine
abbrev Led := List (Addr × Obj)

/-- a contract: what a call of the def at f gives back, over any ledger -/
def Con (w : World) (mean : ExcName → Option Value) (mg mb : Str → Option Value) (f : Addr) (args : List Value) (kw : List (Str × Value)) (dd uu : Nat) (pre : Led → Prop) (post : Led → Value → Prop) : Prop :=
  ∀ (dp un : Nat) (gd : Option (List Code)) (cn : Str) (cs : Scope) (a : Addr) (ccd : Value) (cl : List (Str × Addr)) (outer : List Env) (A₀ : Around) (base h₀ : Heap) (L : Addr) (m : Str → Option Value) (news : Led) (s : Shared)
    (Q E : Value → Shared → Prop),
    Below A₀ base outer h₀ → Fr h₀ L s.heap m → (hd.heap_39 w.params).In h₀ → News h₀ L s.heap news → Top hd.view_39 (looseW hd.view_39 [Str.ofString "b2a_base64", Str.ofString "_NO_SEP", Str.ofString "b2a_hex", Str.ofString "hexlify", Str.ofString "b64encode"]) mean mg mb h₀ → cs.kind = .function → pre news → dp + dd < recursionLimit → un + uu < cLine →
    (∀ r tl h' tk', Fr h₀ L h' m → News h₀ L h' (tl ++ news) → (∀ q ∈ news, ∀ p ∈ tl, q.1 < p.1) → post (tl ++ news) r → Q r { s with heap := h', toks := tk' }) →
    wpAny (model PySem.Challenge.rw_ny0010_01.row.prog w) (ktrTop dp un gd cn cs L a ccd cl outer) (call (.ref f) args kw) Q E s
/-- a contract of a def that catches: the frames below are turned in their slots -/
def ConS (w : World) (mean : ExcName → Option Value) (mg mb : Str → Option Value) (f : Addr) (args : List Value) (dd uu : Nat) (pre : Led → Prop) (post : Led → Value → Prop) : Prop :=
  ∀ (dp un : Nat) (gd : Option (List Code)) (cn : Str) (cs : Scope) (a : Addr) (ccd : Value) (outer : List Env) (A₀ : Around) (base h₀ : Heap) (L : Addr) (m : Str → Option Value) (news : Led) (s : Shared)
    (Q E : Value → Shared → Prop),
    Below A₀ base outer h₀ → Fr h₀ L s.heap m → (hd.heap_39 w.params).In h₀ → News h₀ L s.heap news → Top hd.view_39 (looseW hd.view_39 [Str.ofString "b2a_base64", Str.ofString "_NO_SEP", Str.ofString "b2a_hex", Str.ofString "hexlify", Str.ofString "b64encode"]) mean mg mb h₀ →
    (hd.heap_39 w.params).In base → Top hd.view_39 (looseW hd.view_39 [Str.ofString "b2a_base64", Str.ofString "_NO_SEP", Str.ofString "b2a_hex", Str.ofString "hexlify", Str.ofString "b64encode"]) mean mg mb base → KtsDicts (outer.filterMap (·.frame)) h₀ →
    cs.kind = .function → pre news → dp + dd < recursionLimit → un + uu < cLine →
    (∀ r tl h' tk' g', KtsTurn (outer.filterMap (·.frame)) h₀ g' → Fr g' L h' m → News g' L h' (tl ++ news) → Below A₀ base outer g' → (hd.heap_39 w.params).In g' →
      Top hd.view_39 (looseW hd.view_39 [Str.ofString "b2a_base64", Str.ofString "_NO_SEP", Str.ofString "b2a_hex", Str.ofString "hexlify", Str.ofString "b64encode"]) mean mg mb g' → KtsDicts (outer.filterMap (·.frame)) g' → (∀ q ∈ news, ∀ p ∈ tl, q.1 ≠ p.1) → post (tl ++ news) r → Q r { s with heap := h', toks := tk' }) →
    wpAny (model PySem.Challenge.rw_ny0010_01.row.prog w) (ktrTop dp un gd cn cs L a ccd [] outer) (call (.ref f) args) Q E s
/-- a contract of a def that makes data: the ledger grows -/
def ConD (w : World) (mean : ExcName → Option Value) (mg mb : Str → Option Value) (f : Addr) (args : List Value) (dd uu : Nat) (pre : Led → Prop) (post : Led → Value → Prop) : Prop :=
  ∀ (dp un : Nat) (gd : Option (List Code)) (cn : Str) (cs : Scope) (a : Addr) (ccd : Value) (cl : List (Str × Addr)) (outer : List Env) (A₀ : Around) (base h₀ : Heap) (L : Addr) (m : Str → Option Value) (news : Led) (s : Shared)
    (Q E : Value → Shared → Prop),
    Below A₀ base outer h₀ → Fr h₀ L s.heap m → (hd.heap_39 w.params).In h₀ → News h₀ L s.heap news → Top hd.view_39 (looseW hd.view_39 [Str.ofString "b2a_base64", Str.ofString "_NO_SEP", Str.ofString "b2a_hex", Str.ofString "hexlify", Str.ofString "b64encode"]) mean mg mb h₀ → cs.kind = .function → pre news → dp + dd < recursionLimit → un + uu < cLine →
    (∀ r led h' tk', Fr h₀ L h' m → News h₀ L h' led → (∀ p ∈ news, p ∈ led) → post led r → Q r { s with heap := h', toks := tk' }) →
    wpAny (model PySem.Challenge.rw_ny0010_01.row.prog w) (ktrTop dp un gd cn cs L a ccd cl outer) (call (.ref f) args) Q E s
theorem nameHead {h₀ h : Heap} {L l : Addr} {o : Obj} {news : Led} (_N : News h₀ L h ((l, o) :: news)) : ∃ l', l' = l := ⟨l, rfl⟩
theorem frCong {h₀ h : Heap} {L : Addr} {m m' : Str → Option Value} (F : Fr h₀ L h m) (e : ∀ y, m' y = m y) : Fr h₀ L h m' := (funext e : m' = m) ▸ F
theorem nameBase {h₀ h : Heap} {L : Addr} {m : Str → Option Value} (_F : Fr h₀ L h m) : ∃ g, g = h₀ := ⟨h₀, rfl⟩
theorem nameFrame {h₀ h : Heap} {L : Addr} {m : Str → Option Value} (_F : Fr h₀ L h m) : ∃ l, l = L := ⟨L, rfl⟩
theorem pin1 {m : Str → Option Value} {x : Str} {v : Value} (h : m x = some v) (y : Str) : (if y = x then some v else m y) = m y := by
  by_cases e : y = x
  · rw [if_pos e, e, h]
  · rw [if_neg e]
theorem newsSubRefl {h₀ h : Heap} {L : Addr} {news : Led} (_N : News h₀ L h news) : ∀ p ∈ news, p ∈ news := fun _ hp => hp
theorem newsTail {h₀ h : Heap} {L : Addr} {p : Addr × Obj} {news : Led} (N : News h₀ L h (p :: news)) : News h₀ L h news := fun q hq => N q (.tail _ hq)
theorem newsSub {h₀ h : Heap} {L : Addr} {news news' : Led} (N : News h₀ L h news) (hs : ∀ p ∈ news', p ∈ news) : News h₀ L h news' := fun q hq => N q (hs q hq)
section
variable {w : World} {mean : ExcName → Option Value} {mg mb : Str → Option Value} {f : Addr} {args : List Value} {kw : List (Str × Value)} {dd uu : Nat} {pre : Led → Prop} {post : Led → Value → Prop}
  {dp un : Nat} {gd : Option (List Code)} {cn : Str} {cs : Scope} {a : Addr} {ccd : Value} {cl : List (Str × Addr)} {outer : List Env} {A₀ : Around} {base h₀ : Heap} {L : Addr} {m : Str → Option Value} {news : Led} {s : Shared} {Q E : Value → Shared → Prop}
theorem conUse (C : Con w mean mg mb f args kw dd uu pre post) (B : Below A₀ base outer h₀) (F : Fr h₀ L s.heap m) (X : (hd.heap_39 w.params).In h₀) (N : News h₀ L s.heap news)
    (T : Top hd.view_39 (looseW hd.view_39 [Str.ofString "b2a_base64", Str.ofString "_NO_SEP", Str.ofString "b2a_hex", Str.ofString "hexlify", Str.ofString "b64encode"]) mean mg mb h₀) (hk : cs.kind = .function) (hp : pre news) (hd : dp + dd < recursionLimit) (hu : un + uu < cLine)
    (ret : ∀ r tl h' tk', Fr h₀ L h' m → News h₀ L h' (tl ++ news) → (∀ q ∈ news, ∀ p ∈ tl, q.1 < p.1) → post (tl ++ news) r → Q r { s with heap := h', toks := tk' }) :
    wpAny (model PySem.Challenge.rw_ny0010_01.row.prog w) (ktrTop dp un gd cn cs L a ccd cl outer) (call (.ref f) args kw) Q E s := C _ _ _ _ _ _ _ _ _ _ _ _ _ _ _ _ _ _ B F X N T hk hp hd hu ret
theorem conUseV {post : Value → Prop} (C : Con w mean mg mb f args kw dd uu pre (fun _ => post)) (B : Below A₀ base outer h₀) (F : Fr h₀ L s.heap m) (X : (hd.heap_39 w.params).In h₀) (N : News h₀ L s.heap news)
    (T : Top hd.view_39 (looseW hd.view_39 [Str.ofString "b2a_base64", Str.ofString "_NO_SEP", Str.ofString "b2a_hex", Str.ofString "hexlify", Str.ofString "b64encode"]) mean mg mb h₀) (hk : cs.kind = .function) (hp : pre news) (hd : dp + dd < recursionLimit) (hu : un + uu < cLine)
    (ret : ∀ r h' tk', Fr h₀ L h' m → News h₀ L h' news → post r → Q r { s with heap := h', toks := tk' }) :
    wpAny (model PySem.Challenge.rw_ny0010_01.row.prog w) (ktrTop dp un gd cn cs L a ccd cl outer) (call (.ref f) args kw) Q E s :=
  conUse C B F X N T hk hp hd hu fun r _ h' tk' F' N' _ p => ret r h' tk' F' (newsSub N' fun _ hp => List.mem_append_right _ hp) p
end
section
variable {w : World} {mean : ExcName → Option Value} {mg mb : Str → Option Value} {f : Addr} {args : List Value} {dd uu : Nat} {pre : Led → Prop} {post : Led → Value → Prop}
  {dp un : Nat} {gd : Option (List Code)} {cn : Str} {cs : Scope} {a : Addr} {ccd : Value} {cl : List (Str × Addr)} {outer : List Env} {A₀ : Around} {base h₀ : Heap} {L : Addr} {m : Str → Option Value} {news : Led} {s : Shared} {Q E : Value → Shared → Prop}
theorem conDUse (C : ConD w mean mg mb f args dd uu pre post) (B : Below A₀ base outer h₀) (F : Fr h₀ L s.heap m) (X : (hd.heap_39 w.params).In h₀) (N : News h₀ L s.heap news)
    (T : Top hd.view_39 (looseW hd.view_39 [Str.ofString "b2a_base64", Str.ofString "_NO_SEP", Str.ofString "b2a_hex", Str.ofString "hexlify", Str.ofString "b64encode"]) mean mg mb h₀) (hk : cs.kind = .function) (hp : pre news) (hd : dp + dd < recursionLimit) (hu : un + uu < cLine)
    (ret : ∀ r led h' tk', Fr h₀ L h' m → News h₀ L h' led → (∀ p ∈ news, p ∈ led) → post led r → Q r { s with heap := h', toks := tk' }) :
    wpAny (model PySem.Challenge.rw_ny0010_01.row.prog w) (ktrTop dp un gd cn cs L a ccd cl outer) (call (.ref f) args) Q E s := C _ _ _ _ _ _ _ _ _ _ _ _ _ _ _ _ _ _ B F X N T hk hp hd hu ret
end
section
variable {prog : Program} {w : World} {A : Around} {E : Value → Shared → Prop} {s : Shared} {h₀ : Heap} {L a b : Addr} {m : Str → Option Value} {news : Led} {vs ws : List Value} {n k : Nat} {Q : Value → Shared → Prop}
theorem addLed (F : Fr h₀ L s.heap m) (N : News h₀ L s.heap news) (ha : (a, W.listOf vs.toArray n) ∈ news) (hb : (b, W.listOf ws.toArray k) ∈ news) (hz : vs.length + ws.length ≤ 16777216)
    (h : ∀ D h', Fr h₀ L h' m → News h₀ L h' ((D, W.listOf (List.toArray (vs ++ ws)) 0) :: news) → (∀ p ∈ news, p.1 < D) → Q (.ref D) { s with heap := h' }) : wpAny (model prog w) A (binaryOp .Add (.ref a) (.ref b)) Q E s :=
  kmk_add_lit (its := vs.toArray) (its2 := ws.toArray) F N ⟨_, (N _ ha).1, rfl, n, rfl⟩ ⟨_, (N _ hb).1, rfl, k, rfl⟩ rfl h (by rw [sizeLine_eq]; exact hz)
end
section
variable {w : World} {mean : ExcName → Option Value} {mg mb : Str → Option Value} {f : Addr} {args : List Value} {dd uu : Nat} {pre : Led → Prop} {post : Led → Value → Prop}
  {dp un : Nat} {gd : Option (List Code)} {cn : Str} {cs : Scope} {a : Addr} {ccd : Value} {outer : List Env} {A₀ : Around} {base h₀ : Heap} {L : Addr} {m : Str → Option Value} {news : Led} {s : Shared} {Q E : Value → Shared → Prop}
theorem conSUse (C : ConS w mean mg mb f args dd uu pre post) (B : Below A₀ base outer h₀) (F : Fr h₀ L s.heap m) (X : (hd.heap_39 w.params).In h₀) (N : News h₀ L s.heap news)
    (T : Top hd.view_39 (looseW hd.view_39 [Str.ofString "b2a_base64", Str.ofString "_NO_SEP", Str.ofString "b2a_hex", Str.ofString "hexlify", Str.ofString "b64encode"]) mean mg mb h₀) (XB : (hd.heap_39 w.params).In base) (TB : Top hd.view_39 (looseW hd.view_39 [Str.ofString "b2a_base64", Str.ofString "_NO_SEP", Str.ofString "b2a_hex", Str.ofString "hexlify", Str.ofString "b64encode"]) mean mg mb base) (D : KtsDicts (outer.filterMap (·.frame)) h₀) (hk : cs.kind = .function) (hp : pre news) (hdd : dp + dd < recursionLimit) (hu : un + uu < cLine)
    (ret : ∀ r led h' tk' g', KtsTurn (outer.filterMap (·.frame)) h₀ g' → Fr g' L h' m → News g' L h' led → Below A₀ base outer g' → (hd.heap_39 w.params).In g' → Top hd.view_39 (looseW hd.view_39 [Str.ofString "b2a_base64", Str.ofString "_NO_SEP", Str.ofString "b2a_hex", Str.ofString "hexlify", Str.ofString "b64encode"]) mean mg mb g' → KtsDicts (outer.filterMap (·.frame)) g' → (∀ p ∈ news, p ∈ led) → post led r → Q r { s with heap := h', toks := tk' }) :
    wpAny (model PySem.Challenge.rw_ny0010_01.row.prog w) (ktrTop dp un gd cn cs L a ccd [] outer) (call (.ref f) args) Q E s :=
  C _ _ _ _ _ _ _ _ _ _ _ _ _ _ _ _ _ B F X N T XB TB D hk hp hdd hu fun r tl h' tk' g' t F' N' B' X' T' D' _ p => ret r (tl ++ news) h' tk' g' t F' N' B' X' T' D' (fun _ hp => List.mem_append_right _ hp) p
end
end Mine
end
/-! part C1 -/
section
theorem Mine.offC1 : True := by (w_top off; trivial)
open PySem PySem.W PyProof.Rows PySem.Builtin
namespace Mine

def hexOut (b : Array UInt8) : Array Nat := b.toList.zipIdx.foldl (fun (out : Array Nat) (p : UInt8 × Nat) => (out.push (Bytes.hexDigit (p.1.toNat / 16))).push (Bytes.hexDigit (p.1.toNat % 16))) #[]
seal retStr in
theorem hex_tree (b : Array UInt8) (t : Tok) : «bytes.hex» ⟨[.bytes b t], []⟩ = retStr ⟨hexOut b⟩ := rfl

theorem upper_tree (b : Array UInt8) (t : Tok) : «bytes.upper» ⟨[.bytes b t], []⟩ = (mkBytes (b.toList.map Bytes.toUpper).toArray >>= fun v => ret v) := rfl
theorem encode_tree (x : Str) (t u : Tok) : «str.encode» ⟨[.str x t, .str (Str.ofString "ascii") u], []⟩ = ((_codecs.encodeNarrow "str.encode" _codecs.asciiCodec none (.str x t) x >>= fun b => mkBytes b) >>= fun v => ret v) := by kernel_rfl

theorem list_two {β : Type} (f : Nat → β → Sem (ForInStep β)) (s0 s1 : β) (h0 : ∀ i, f i s0 = pure (.yield s1)) (h1 : ∀ i, f i s1 = pure (.done s1)) :
    ∀ l : List Nat, l ≠ [] → forIn l s0 f = pure s1
  | [], h => absurd rfl h
  | [a], _ => by
    rw [List.forIn_cons, h0]; rfl
  | a :: b :: l, _ => by
    rw [List.forIn_cons, h0]
    show forIn (b :: l) s1 f = _
    rw [List.forIn_cons, h1]; rfl
theorem range_two {β : Type} (f : Nat → β → Sem (ForInStep β)) (s0 s1 : β) (n : Nat) (hn : 0 < n) (h0 : ∀ i, f i s0 = pure (.yield s1)) (h1 : ∀ i, f i s1 = pure (.done s1)) :
    forIn [:n] s0 f = pure s1 := by
  rw [Std.Legacy.Range.forIn_eq_forIn_range']
  refine list_two f s0 s1 h0 h1 _ ?_
  simp [Std.Legacy.Range.size]
  omega
theorem narrow_clean (x : Str) (v : Value) (hx : ∀ c ∈ x.cps, c < 128) (hl : x.length ≤ 1000) (h0 : 0 < x.length) :
    _codecs.encodeNarrow "str.encode" _codecs.asciiCodec none v x = pure (x.cps.map (·.toUInt8)) := by
  unfold _codecs.encodeNarrow
  have hn : (Array.findIdx? (fun x => decide (x ≥ 128)) x.cps) = none := by
    rw [Array.findIdx?_eq_none_iff]
    intro c hc
    have := hx c hc
    simp; omega
  have hz : x.cps.size = x.length := rfl
  have e0 : x.cps.extract 0 = x.cps := by simp
  have hf : Array.foldl (fun acc (y : Nat) => acc ++ #[y.toUInt8]) #[] x.cps = x.cps.map (·.toUInt8) := by
    simp
  have hd : x.cps[0]? = some (x.cps[0]'(by omega)) := Array.getElem?_eq_getElem _
  have hb := hx (x.cps[0]'(by omega)) (Array.getElem_mem _)
  have r := range_two (β := Nat × Array UInt8 × _codecs.Faults) (s0 := (0, #[], {})) (s1 := (x.cps.size, x.cps.map (·.toUInt8), {})) (n := x.length) (hn := h0)
  simp only [_codecs.asciiCodec]
  rw [r]
  · rfl
  · intro i
    rw [if_neg (by simp)]
    dsimp only
    rw [hd]
    dsimp only
    have hq : (!decide (x.cps[0]'(by omega) ≥ 128)) = true := by simp; omega
    refine (if_pos hq).trans ?_
    rw [e0, hn]
    simp
  · intro i
    rw [if_neg (by simp [sizeLine_eq, hz]; omega)]
    dsimp only
    rw [Array.getElem?_eq_none (Nat.le_refl _)]

section
variable {prog : Program} {w : World} {A : Around} {E : Value → Shared → Prop} {s : Shared}
theorem call_hex {b : Array UInt8} {t : Tok} {Q : Value → Shared → Prop} (hz : (hexOut b).size ≤ 1000) (h : ∀ t' k, Q (.str ⟨hexOut b⟩ t') { s with toks := k }) :
    wpAny (model prog w) A (call (.builtin "bytes.hex") [.bytes b t]) Q E s := by
  refine call_gives (m := .str ⟨hexOut b⟩) FB.slot_bytes_hex (typeIs_bytes _ _ _) FB.entry_bytes_hex (FB.args_bytes_hex_1 _) (by rw [hex_tree]; exact gives_retStr _) ?_
  exact ⟨by show (hexOut b).size ≤ sizeLine; rw [sizeLine_eq]; omega, h _ _⟩
theorem gives_upper (b : Array UInt8) (t : Tok) : Gives («bytes.upper» ⟨[.bytes b t], []⟩) (.bytes (b.toList.map Bytes.toUpper).toArray) := by
  rw [upper_tree]; exact .of_eq rfl
theorem call_encode {x : Str} {t u : Tok} {Q : Value → Shared → Prop} (hx : ∀ c ∈ x.cps, c < 128) (hl : x.length ≤ 1000) (h0 : 0 < x.length) (h : ∀ t' k, Q (.bytes (x.cps.map (·.toUInt8)) t') { s with toks := k }) :
    wpAny (model prog w) A (call (.builtin "str.encode") [.str x t, .str (Str.ofString "ascii") u]) Q E s := by
  refine call_gives (m := .bytes (x.cps.map (·.toUInt8))) F.slot_str_encode rfl F.entry_str_encode (F.args_str_encode_2 _ _) (by rw [encode_tree, narrow_clean x _ hx hl h0]; exact .of_eq rfl) ?_
  exact ⟨by show (x.cps.map (·.toUInt8)).size ≤ sizeLine; rw [sizeLine_eq, Array.size_map]; exact Nat.le_trans hl (by decide), h _ _⟩
theorem get_hex {M : Model} {b : Array UInt8} {t : Tok} {pl : Sem Bool} {Q : Value × List Value → Shared → Prop} (h : Q (.builtin "bytes.hex", [.bytes b t]) s) : wpAny M A (getMethod (.bytes b t) (Str.ofString "hex") pl) Q E s := by
  with_reducible exact getMethod_builtin (typeIs_bytes _ _ _) FB.plainAttrs_bytes FB.slot_bytes_hex FB.type_bytes_hex (fun _ e => nomatch e) h
theorem slot_upper : Slot "bytes" "upper" "bytes.upper" :=
  .of (owner := "bytes") (n := "upper") (by rw [typeLookup_type, builtinLookup_eq_fast]; kernel_rfl) (by decide +kernel) (by decide +kernel) (by decide +kernel)
    (by first | exact .inl (by decide +kernel) | exact .inr (by decide +kernel)) (by rw [isSubtype_type]; kernel_rfl)
theorem type_upper : typeOf (.builtin "bytes.upper") = pure (.type "method_descriptor") := by show builtinType _ = _; rw [builtinType_eq_fast]; kernel_rfl
theorem entry_upper : entryFor table "bytes.upper" = some Builtin.«bytes.upper» := entryFor_of_tree (by kernel_rfl)
theorem args_upper (a : Value) : argsOk "bytes.upper" ⟨[a], []⟩ := by
  unfold argsOk; rw [signature?_of (id := "bytes.upper") (n := ['r', 'e', 'p', 'p', 'u']) (o := ['s', 'e', 't', 'y', 'b']) (by kernel_rfl) FB.owner_bytes]; kernel_rfl
theorem get_upper {M : Model} {b : Array UInt8} {t : Tok} {pl : Sem Bool} {Q : Value × List Value → Shared → Prop} (h : Q (.builtin "bytes.upper", [.bytes b t]) s) : wpAny M A (getMethod (.bytes b t) (Str.ofString "upper") pl) Q E s := by
  with_reducible exact getMethod_builtin (typeIs_bytes _ _ _) FB.plainAttrs_bytes slot_upper type_upper (fun _ e => nomatch e) h
theorem get_encode {M : Model} {x : Str} {t : Tok} {pl : Sem Bool} {Q : Value × List Value → Shared → Prop} (h : Q (.builtin "str.encode", [.str x t]) s) : wpAny M A (getMethod (.str x t) (Str.ofString "encode") pl) Q E s := by
  with_reducible exact getMethod_builtin (typeIs_str _ _ _) F.plainAttrs_str F.slot_str_encode F.type_str_encode (fun _ e => nomatch e) h
theorem call_upper {b : Array UInt8} {t : Tok} {Q : Value → Shared → Prop} (hz : b.size ≤ 1000) (h : ∀ t' k, Q (.bytes (b.toList.map Bytes.toUpper).toArray t') { s with toks := k }) :
    wpAny (model prog w) A (call (.builtin "bytes.upper") [.bytes b t]) Q E s := by
  refine call_gives (m := .bytes (b.toList.map Bytes.toUpper).toArray) slot_upper (typeIs_bytes _ _ _) entry_upper (args_upper _) (gives_upper b t) ?_
  exact ⟨by rw [sizeLine_eq]; simp; omega, h _ _⟩
end
/-- the three steps of b16encode, as one list of octets -/
def hex16 (b : Array UInt8) : Array UInt8 := (((hexOut b).map (·.toUInt8)).toList.map Bytes.toUpper).toArray
theorem hexOut_list (b : Array UInt8) : (hexOut b).toList = b.toList.flatMap fun c => [Bytes.hexDigit (c.toNat / 16), Bytes.hexDigit (c.toNat % 16)] := by
  unfold hexOut
  have : ∀ (l : List UInt8) (k : Nat) (o : Array Nat), (List.foldl (fun (out : Array Nat) (p : UInt8 × Nat) => (out.push (Bytes.hexDigit (p.1.toNat / 16))).push (Bytes.hexDigit (p.1.toNat % 16))) o (l.zipIdx k)).toList = o.toList ++ l.flatMap fun c => [Bytes.hexDigit (c.toNat / 16), Bytes.hexDigit (c.toNat % 16)] := by
    intro l
    induction l with
    | nil => intro k o; simp
    | cons c l ih => intro k o; rw [List.zipIdx_cons, List.foldl_cons, ih]; simp
  rw [this]; simp
theorem hexOut_size (b : Array UInt8) : (hexOut b).size = 2 * b.size := by
  rw [← Array.length_toList, hexOut_list]
  have : ∀ l : List UInt8, (l.flatMap fun c => [Bytes.hexDigit (c.toNat / 16), Bytes.hexDigit (c.toNat % 16)]).length = 2 * l.length := by
    intro l
    induction l with
    | nil => rfl
    | cons c l ih => rw [List.flatMap_cons, List.length_append, ih, List.length_cons]; simp; omega
  rw [this]; simp
theorem hexOut_small (b : Array UInt8) : ∀ c ∈ hexOut b, c < 128 := by
  intro c hc
  rw [← Array.mem_toList_iff, hexOut_list] at hc
  obtain ⟨a, _, ha⟩ := List.mem_flatMap.mp hc
  have := a.toNat_lt
  unfold Bytes.hexDigit at ha
  rcases List.mem_cons.mp ha with rfl | ha
  · split <;> omega
  · rw [List.mem_singleton.mp ha]
    split <;> omega
theorem bitAnd63 (x : Int) : 0 ≤ Builtin.bitAnd x 63 ∧ Builtin.bitAnd x 63 < 64 := by
  rw [bitAnd_m6]; omega
end Mine
end
/-! part C2 -/
section
theorem Mine.offC2 : True := by (w_top off; trivial)
namespace Mine
section
variable {prog : Program} {w : World} {A : Around} {E : Value → Shared → Prop} {s₁ : Shared} {h₀ : Heap} {L : Addr} {m : Str → Option Value} {news : Led}
theorem pairedEq {α : Type} : ∀ {l l' : List α}, Paired (fun a b => b = a) l l' → l' = l
  | _, _, .nil => rfl
  | _, _, .cons h r => by rw [h, pairedEq r]
theorem ints_of_get : ∀ {vs : List Value} {ns : List Int}, vs.length = ns.length → (∀ (j : Nat) (v : Value), vs[j]? = some v → ∃ n t, ns[j]? = some n ∧ v = Value.int n t) → IntsAre vs ns
  | [], [], _, _ => .nil
  | v :: vs, n :: ns, hl, h => by
    obtain ⟨n', t, e, rfl⟩ := h 0 v rfl
    have : n = n' := by simpa using e
    subst this
    exact .cons _ _ (ints_of_get (by simpa using hl) fun j v hv => h (j + 1) v hv)
theorem comp_bytes_id {env : Env} {scope : Scope} {x : Str} {px : Pos} {Q : Value → Shared → Prop} {b : Array UInt8} {t : Tok} (hh : A.handled = none) (F : Fr h₀ L s₁.heap m) (N : News h₀ L s₁.heap news)
    (hk : scope.kind = .function) (hl : ∀ C, (compEnv scope C env).kindOf x = some .local) (hd : (x == ("__debug__" : Str)) = false) (hsz : b.size ≤ 1000)
    (g3 : ∀ D vs n h' tk, Fr h₀ L h' m → News h₀ L h' ((D, W.listOf (List.toArray vs) n) :: news) → (∀ p ∈ news, p.1 ≠ D) → IntsAre vs (KBw.bInts b) → Q (.ref D) { s₁ with heap := h', toks := tk }) :
    wpAny (model prog w) A (pyIter (.bytes b t)) (CompPost prog w A env scope x [] (.Name x px) Q) E s₁ := by
  unfold CompPost
  refine KBw.pyIter_bytes ?_
  have up : ∀ (h' : Heap) (o : Obj), (∀ b o', b ∉ [s₁.heap.objs.size] → (s₁.heap.push o).get? b = some o' → h'.get? b = some o') → ∀ b o', s₁.heap.get? b = some o' → h'.get? b = some o' :=
    fun h' o hk b o' e => hk b o' (old_not_new e) (Heap.get?_push_of_some _ e)
  refine ⟨fun _ => true, fun a b => b = a, s₁.heap.objs.size, [s₁.heap.objs.size], [s₁.heap.objs.size], b.size, _, _, rfl, KBw.walks hh s₁.heap.objs.size b t, by rw [sizeLine_eq]; omega, ⟨_, Heap.get?_push_size _ rfl, rfl, rfl⟩, ?_, ⟨?_, ?_⟩, ?_⟩
  · intro b hb
    show b < (s₁.heap.push _).objs.size
    rw [Heap.size_push, List.mem_singleton.mp hb]
    exact Nat.lt_succ_self _
  · intro C i v s₃ m₃ E' hP hn hm _ htk
    exact wpAny_pure ⟨rfl, ⟨s₃.heap, s₃.toks, rfl, fun _ _ e => e⟩⟩
  · intro C i v s₃ m₃ E' hP hp hn hm _ htk
    exact wpAny_Name (wpAny_loadName_local hk (hl C) hn hm ⟨rfl, s₃.heap, s₃.toks, rfl, fun _ _ e => e⟩) hd
  · intro D h' tk ys vs hnew hlD hplD hlen hP hF hk'
    have e1 : vs.filter (fun _ => true) = vs := by simp
    rw [e1] at hF
    have e2 := pairedEq hF
    have up' := up h' _ hk'
    obtain ⟨n, hpl⟩ := hplD
    have hN : ∀ p ∈ news, p.1 ≠ D := fun p hp e => by rw [← e, Heap.get?_push_of_some _ (N p hp).1] at hnew; cases hnew
    have h0D : h₀.get? D = none := by
      cases e : h₀.get? D with
      | none => rfl
      | some o' => rw [Heap.get?_push_of_some _ (F.keep _ _ e)] at hnew; cases hnew
    have hDL : D ≠ L := by
      obtain ⟨oL, _, _, hL, _⟩ := F.ns
      intro e
      rw [e, Heap.get?_push_of_some _ hL] at hnew; cases hnew
    refine g3 D vs n h' tk (F.keeps up') (fun p hp => ?_) hN (ints_of_get (by rw [hlen, KBw.ints_length]) fun j v hv => ?_)
    · rcases List.mem_cons.mp hp with rfl | hp
      · refine ⟨?_, hDL, h0D⟩
        rw [← e2, Array.toArray_toList]; exact hpl
      · exact N.grown up' p hp
    · obtain ⟨c, u, hc, rfl⟩ := hP j v hv
      exact ⟨_, u, KBw.ints_get hc, rfl⟩
end
end Mine
end
/-! part C3 -/
section
theorem Mine.offC3 : True := by (w_top off; trivial)
open PySem PySem.W PySem.Calls PyProof.Rows
namespace Mine
/-- a list's iterator, at the place i -/
abbrev itO (l : Addr) (i : Nat) : Obj := { cls := .type "list_iterator", data := .fields #[.ref l, .int i 0] }
section
variable {prog : Program} {w : World} {A : Around} {E : Value → Shared → Prop} {s : Shared} {h₀ : Heap} {L I l : Addr} {m : Str → Option Value} {news news' : Led} {vs : List Value} {n i : Nat}
theorem call_iter {Q : Value → Shared → Prop} (F : Fr h₀ L s.heap m) (N : News h₀ L s.heap news) (hp : (l, W.listOf vs.toArray n) ∈ news)
    (h : ∀ (I : Addr) h', Fr h₀ L h' m → News h₀ L h' ((I, itO l 0) :: news) → (∀ p ∈ news, p.1 < I) → Q (.ref I) { s with heap := h' }) :
    wpAny (model prog w) A (call (.builtin "iter") [.ref l]) Q E s := by
  refine call_function_entry (by decide +kernel) (by decide +kernel) kdk_entry_iter (kdk_args_iter _) ?_
  unfold Builtin.«iter»
  refine wpAny_bind (m := someArgs "iter" 1 2 _) (wpAny_of_eq (a := [Value.ref l]) (by first | rfl | kernel_rfl!) ?_)
  show wpAny _ _ (pyIter (.ref l) >>= _) _ _ _
  refine wpAny_bind (wpAny_pyIter_list (items := vs.toArray) ⟨_, (N _ hp).1, rfl, n, rfl⟩ ?_)
  exact wpAny_pure ⟨_, rfl, h _ _ (F.push _) (News.push F N _ rfl) (fun q hq => Heap.lt_size (N q hq).1)⟩

theorem special_next {x : Value} {Q : Option Value → Shared → Prop} (hit : s.heap.get? I = some (itO l i)) (hl : s.heap.get? l = some (W.listOf vs.toArray n)) (hx : vs[i]? = some x)
    (hQ : ∀ h', h'.get? I = some (itO l (i + 1)) → Heap.SameBut I s.heap h' → Q (some x) { s with heap := h' }) :
    wpAny (model prog w) A (callSpecial? (.ref I) (Str.ofString "__next__")) Q E s := by
  have hit' : s.heap.IsListIter I l i := ⟨_, hit, rfl, rfl⟩
  refine wpAny_callSpecial?_slot (name := Str.ofString "__next__") hit'.typeIs slot_listiter_next
    (wpAny_call_entry slot_listiter_next hit'.typeIs entry_listiter_next ?_ (args_listiter_next _))
  show wpAny _ _ (field (.ref I) 0 >>= _) _ _ s
  refine wpAny_bind (wpAny_field hit rfl (x := .ref l) rfl ?_)
  show wpAny _ _ (if (Value.ref l == Value.none) = true then _ else _) _ _ s
  rw [if_neg (show ¬ ((Value.ref l == Value.none) = true) from Bool.false_ne_true)]
  show wpAny _ _ (field (.ref I) 1 >>= _) _ _ s
  refine wpAny_bind (wpAny_field hit rfl (x := .int i 0) rfl ?_)
  show wpAny _ _ (seqItems? (.ref l) >>= _) _ _ s
  refine wpAny_bind (wpAny_seqItems hl rfl ?_)
  have hx' : vs.toArray[i]? = some x := by simpa using hx
  simp only [Int.toNat_natCast, hx']
  refine wpAny_bind (wpAny_setField hit rfl (by simp) (wpAny_pure ⟨x, rfl, (hQ _ ?_ (Heap.SameBut.update ..))⟩))
  exact Heap.get?_update_self _ hit rfl

theorem members_stop : ownMembersOf (.type "StopIteration") [] = #[] := by
  unfold ownMembersOf
  split <;> first | rfl | (rename_i h; revert h; decide) | simp_all
theorem special_end {Q : Option Value → Shared → Prop} (hh : A.handled = none) (hit : s.heap.get? I = some (itO l i)) (hl : s.heap.get? l = some (W.listOf vs.toArray n)) (hx : vs[i]? = none)
    (hQ : ∀ h₁ h' e, Heap.SameBut I s.heap h₁ → Heap.NewExc h₁ h' e "StopIteration" → E (.ref e) { s with heap := h' }) :
    wpAny (model prog w) A (callSpecial? (.ref I) (Str.ofString "__next__")) Q E s := by
  have hit' : s.heap.IsListIter I l i := ⟨_, hit, rfl, rfl⟩
  refine wpAny_callSpecial?_slot (name := Str.ofString "__next__") hit'.typeIs slot_listiter_next
    (wpAny_call_entry slot_listiter_next hit'.typeIs entry_listiter_next ?_ (args_listiter_next _))
  show wpAny _ _ (field (.ref I) 0 >>= _) _ _ s
  refine wpAny_bind (wpAny_field hit rfl (x := .ref l) rfl ?_)
  show wpAny _ _ (if (Value.ref l == Value.none) = true then _ else _) _ _ s
  rw [if_neg (show ¬ ((Value.ref l == Value.none) = true) from Bool.false_ne_true)]
  show wpAny _ _ (field (.ref I) 1 >>= _) _ _ s
  refine wpAny_bind (wpAny_field hit rfl (x := .int i 0) rfl ?_)
  show wpAny _ _ (seqItems? (.ref l) >>= _) _ _ s
  refine wpAny_bind (wpAny_seqItems hl rfl ?_)
  have hx' : vs.toArray[i]? = none := by simpa using hx
  simp only [Int.toNat_natCast, hx']
  refine wpAny_bind (wpAny_rule (wpAny_bind (wpAny_setField hit rfl (by simp) ?_)))
  show wpAny _ _ (newExc (.type "StopIteration") [] >>= _) _ _ _
  refine wpAny_bind ?_
  simp only [newExc, newTuple]
  refine wpAny_bind (wpAny_newObj_type ?_ (by size_fits))
  refine wpAny_bind (m := firstArgMember _ _) (wpAny_of_eq (a := Value.none) (by first | rfl | (simp only [firstArgMember]; rfl)) ?_)
  refine wpAny_newObj_type ?_ (by size_fits)
  simp only [raiseNew]
  refine wpAny_bind (wpAny_handled ?_)
  rw [show A.in1.handled = none from hh]
  refine wpAny_bind (wpAny_pure (wpAny_throw ?_))
  refine hQ _ _ _ (Heap.SameBut.update ..) ⟨fun b o e => Heap.get?_push_of_some _ (Heap.get?_push_of_some _ e), ?_, ?_⟩
  · refine Option.eq_none_iff_forall_ne_some.mpr fun o q => ?_
    have h1 := Heap.lt_size q
    rw [Heap.size_push] at h1
    exact Nat.lt_irrefl _ (Nat.lt_of_succ_lt h1)
  · exact ⟨_, _, Heap.get?_push_size _ rfl, rfl, by rw [members_stop]; rfl⟩
theorem call_next {x : Value} {Q : Value → Shared → Prop} (F : Fr h₀ L s.heap m) (N : News h₀ L s.heap news) (U : Upd I (itO l i) (itO l (i + 1)) news news') (hp : (l, W.listOf vs.toArray n) ∈ news) (hx : vs[i]? = some x)
    (h : ∀ h', Fr h₀ L h' m → News h₀ L h' news' → Q x { s with heap := h' }) : wpAny (model prog w) A (call (.builtin "next") [.ref I]) Q E s := by
  obtain ⟨pre, post, rfl, rfl, a, b⟩ := U.split
  have hm := N (I, itO l i) (List.mem_append_right _ (.head _))
  have hit' : s.heap.IsListIter I l i := ⟨_, hm.1, rfl, rfl⟩
  refine call_function_entry (by decide +kernel) (by decide +kernel) kdk_entry_next (kdk_args_next _) ?_
  unfold Builtin.«next»
  refine wpAny_bind (m := someArgs "next" 1 2 _) (wpAny_of_eq (a := [Value.ref I]) (by first | rfl | kernel_rfl!) ?_)
  dsimp only
  refine wpAny_bind (wpAny_specialOf (name := Str.ofString "__next__") hit'.typeIs slot_listiter_next.lookup ?_)
  refine wpAny_ite_split (fun hab => absurd hab (by decide)) (fun _ => ?_)
  refine wpAny_bind (special_next hm.1 (N _ hp).1 hx fun h' ho' hs => ?_)
  exact wpAny_pure ⟨_, rfl, h h' (F.change hs hm.2.1 hm.2.2) (News.setIn N a b hs ho')⟩
theorem call_next_end {Q : Value → Shared → Prop} (hh : A.handled = none) (F : Fr h₀ L s.heap m) (N : News h₀ L s.heap ((I, itO l i) :: news)) (hI : ∀ p ∈ news, p.1 ≠ I) (hp : (l, W.listOf vs.toArray n) ∈ news) (hx : vs[i]? = none)
    (h : ∀ h₁ h' e, Fr h₀ L h₁ m → News h₀ L h₁ news → Heap.NewExc h₁ h' e "StopIteration" → E (.ref e) { s with heap := h' }) : wpAny (model prog w) A (call (.builtin "next") [.ref I]) Q E s := by
  have hm := N (I, itO l i) (.head _)
  have hit' : s.heap.IsListIter I l i := ⟨_, hm.1, rfl, rfl⟩
  refine call_function_entry (by decide +kernel) (by decide +kernel) kdk_entry_next (kdk_args_next _) ?_
  unfold Builtin.«next»
  refine wpAny_bind (m := someArgs "next" 1 2 _) (wpAny_of_eq (a := [Value.ref I]) (by first | rfl | kernel_rfl!) ?_)
  dsimp only
  refine wpAny_bind (wpAny_specialOf (name := Str.ofString "__next__") hit'.typeIs slot_listiter_next.lookup ?_)
  refine wpAny_ite_split (fun hab => absurd hab (by decide)) (fun _ => ?_)
  refine wpAny_bind (special_end hh hm.1 (N _ (.tail _ hp)).1 hx fun h₁ h' e hs hx' => ?_)
  exact h h₁ h' e (F.change hs hm.2.1 hm.2.2) (fun q hq => ⟨(hs.2 q.1 (hI q hq)).trans (N q (.tail _ hq)).1, (N q (.tail _ hq)).2⟩) hx'
/-- a turn's end: what holds between the turns, at a smaller number -/
def Fell (J : Nat → Shared → Prop) (n : Nat) (s : Shared) : Prop := ∃ k, k < n ∧ J k s
theorem whileInv {env : Env} {test : Expr} {body : List Stmt} {pos : Pos} {Q : Flow → Shared → Prop} (J : Nat → Shared → Prop) (hE : PassesOwn (model prog w) A env E)
    (turn : ∀ n s, J n s → wpAny (model prog w) A (isTrue test env (eval test env)) (fun b s₂ => if b = true then wpAny (model prog w) A (execs body env) (fun f s₃ => match f with
        | .next | .cont => Fell J n s₃
        | .brk => Q .next s₃
        | .ret v => Q (.ret v) s₃) E s₂ else Q .next s₂) E s) (n : Nat) (h : J n s) :
    wpAny (model prog w) A (exec (.While test body [] pos) env) Q E s := by
  refine wpAny_While (codeAny_whileLoop (R := fun r s' => match r with | .ok f => Q f s' | .error e => cameBackBy (model prog w) A env E e s') J ?_ n h)
  intro n s hJ
  refine wpAny_mono (wpAny_passesOwn hE (turn n s hJ)) (fun b s₂ hb => ?_) (fun _ _ e => e)
  cases b with
  | true =>
    refine wpAny_mono (wpAny_passesOwn hE hb) (fun f s₃ h₃ => ?_) (fun _ _ e => e)
    cases f <;> exact h₃
  | false => exact wpAny_execs_nil hb
end
def Stop (p : Prop) : Prop := p
theorem stop {p : Prop} (h : Stop p) : p := h
end Mine
end
/-! part C4 -/
section
theorem Mine.offC4 : True := by (w_top off; trivial)
open PySem PySem.W PySem.Calls PyProof.Rows
namespace Mine
/-- a turn's end in a for over a list: the iterator and the list as they were, what holds between the turns at the next place -/
def ForEnd (h₀ : Heap) (L I : Addr) (io : Obj) (le : Addr × Obj) (J : (Str → Option Value) → Led → Prop) (s : Shared) (Q : Flow → Shared → Prop) (f : Flow) (s₃ : Shared) : Prop :=
  match f with
  | .ret v => Q (.ret v) s₃
  | .brk => Q .next s₃
  | _ => ∃ h' tk m' led', s₃ = { s with heap := h', toks := tk } ∧ Fr h₀ L h' m' ∧ News h₀ L h' ((I, io) :: led') ∧ (∀ p ∈ led', p.1 ≠ I) ∧ le ∈ led' ∧ J m' led'
section
variable {prog : Program} {w : World} {A : Around} {E : Value → Shared → Prop} {s : Shared} {h₀ : Heap} {L l : Addr} {m₀ : Str → Option Value} {news : Led} {vs : List Value} {nn : Nat} {env : Env} {target : Expr} {body : List Stmt} {Q : Flow → Shared → Prop}
theorem forEnd_next {I : Addr} {io : Obj} {le : Addr × Obj} {J : (Str → Option Value) → Led → Prop} {m' : Str → Option Value} {led' : Led} {h' : Heap} {tk : Nat} (F : Fr h₀ L h' m') (N : News h₀ L h' ((I, io) :: led')) (hI : ∀ p ∈ led', p.1 ≠ I) (hl : le ∈ led') (hJ : J m' led') :
    ForEnd h₀ L I io le J s Q .next { s with heap := h', toks := tk } := ⟨h', tk, m', led', rfl, F, N, hI, hl, hJ⟩
theorem pyNext_item {I : Addr} {i : Nat} {x : Value} {Q : Option Value → Shared → Prop} (hit : s.heap.get? I = some (itO l i)) (hl : s.heap.get? l = some (W.listOf vs.toArray nn)) (hx : vs[i]? = some x)
    (hQ : ∀ h', h'.get? I = some (itO l (i + 1)) → Heap.SameBut I s.heap h' → Q (some x) { s with heap := h' }) : wpAny (model prog w) A (pyNext (.ref I)) Q E s := by
  unfold pyNext
  refine wpAny_bind (wpAny_attempt (special_next hit hl hx fun h' ho hs => ?_))
  exact wpAny_pure (hQ h' ho hs)
theorem forList (J : Nat → (Str → Option Value) → Led → Prop) (hE : PassesOwn (model prog w) A env E) (hh : A.handled = none)
    (hl : (l, W.listOf vs.toArray nn) ∈ news) (F : Fr h₀ L s.heap m₀) (N : News h₀ L s.heap news) (hj : J 0 m₀ news)
    (turn : ∀ i v m₁ led h tk I, vs[i]? = some v → J i m₁ led → (l, W.listOf vs.toArray nn) ∈ led → (∀ p ∈ led, p.1 ≠ I) → Fr h₀ L h m₁ → News h₀ L h ((I, itO l (i + 1)) :: led) →
      wpAny (model prog w) A (assign target env v) (fun _ s₂ => wpAny (model prog w) A (execs body env) (ForEnd h₀ L I (itO l (i + 1)) (l, W.listOf vs.toArray nn) (J (i + 1)) s Q) E s₂) E { s with heap := h, toks := tk })
    (done : ∀ m₁ led h tk, J vs.length m₁ led → Fr h₀ L h m₁ → News h₀ L h led → Q .next { s with heap := h, toks := tk }) :
    wpAny (model prog w) A (pyIter (.ref l)) (fun it s₂ => codeAny (model prog w) A (.forLoop target it body [] env) (fun r s' => match r with | .ok f => Q f s' | .error e => cameBackBy (model prog w) A env E e s') s₂) E s := by
  refine wpAny_pyIter_list (items := vs.toArray) ⟨_, (N _ hl).1, rfl, nn, rfl⟩ ?_
  refine codeAny_forLoop_any (fun k s' => ∃ h tk m' led i, s' = { s with heap := h, toks := tk } ∧ Fr h₀ L h m' ∧ News h₀ L h ((s.heap.objs.size, itO l i) :: led) ∧ (∀ p ∈ led, p.1 ≠ s.heap.objs.size) ∧ (l, W.listOf vs.toArray nn) ∈ led ∧ J i m' led ∧ i ≤ vs.length ∧ k = vs.length - i) ?_ vs.length
    ⟨_, s.toks, m₀, news, 0, rfl, F.push _, News.push F N _ rfl, fun p hp => Nat.ne_of_lt (Heap.lt_size (N p hp).1), hl, hj, Nat.zero_le _, rfl⟩
  rintro k s' ⟨h, tk, m', led, i, rfl, F', N', hI, hl', hJ, hi, rfl⟩
  have hit := (N' _ (.head _))
  have hlo := (N' _ (.tail _ hl')).1
  by_cases hlt : i < vs.length
  · refine pyNext_item (i := i) (x := vs[i]) hit.1 hlo (List.getElem?_eq_getElem hlt) fun h₁ hit₁' hs => ?_
    refine letGo_listiter ⟨_, hit₁', rfl, rfl⟩ ?_
    have F₁ := F'.change hs hit.2.1 hit.2.2
    have N₁ : News h₀ L h₁ ((s.heap.objs.size, itO l (i + 1)) :: led) := News.setIn (own := []) N' (fun _ hp => nomatch hp) hI hs hit₁'
    refine wpAny_mono (wpAny_passesOwn hE (turn i vs[i] m' led h₁ tk s.heap.objs.size (List.getElem?_eq_getElem hlt) hJ hl' hI F₁ N₁)) (fun _ s₂ h₂ => ?_) fun _ _ e => e
    refine wpAny_mono (wpAny_passesOwn hE h₂) (fun f s₃ h₃ => ?_) fun _ _ e => e
    have go : (∃ h' tk m' led', s₃ = { s with heap := h', toks := tk } ∧ Fr h₀ L h' m' ∧ News h₀ L h' ((s.heap.objs.size, itO l (i + 1)) :: led') ∧ (∀ p ∈ led', p.1 ≠ s.heap.objs.size) ∧ (l, W.listOf vs.toArray nn) ∈ led' ∧ J (i + 1) m' led') →
        ∃ m, m < vs.length - i ∧ ∃ h tk m' led i, s₃ = { s with heap := h, toks := tk } ∧ Fr h₀ L h m' ∧ News h₀ L h ((s.heap.objs.size, itO l i) :: led) ∧ (∀ p ∈ led, p.1 ≠ s.heap.objs.size) ∧ (l, W.listOf vs.toArray nn) ∈ led ∧ J i m' led ∧ i ≤ vs.length ∧ m = vs.length - i := by
      rintro ⟨h', tk', m₂, led', e, F₂, N₂, a, b, c⟩
      exact ⟨vs.length - (i + 1), by omega, h', tk', m₂, led', i + 1, e, F₂, N₂, a, b, c, hlt, rfl⟩
    cases f with
    | ret v => exact h₃
    | brk => exact h₃
    | next => exact go h₃
    | cont => exact go h₃
  · have hin : i = vs.length := by omega
    subst hin
    refine wpAny_pyNext_list_end (i := vs.length) (items := vs.toArray) hh ⟨_, hit.1, rfl, rfl⟩ ⟨_, hlo, rfl, nn, rfl⟩ (by simp) fun h₁ hx => ?_
    have keep : ∀ b o, b ≠ s.heap.objs.size → h.get? b = some o → h₁.get? b = some o := fun b o hb e => hx b o hb e
    refine wpAny_execs_nil (done m' led h₁ _ hJ ?_ ?_)
    · obtain ⟨oL, a1, a2, hoL, a3⟩ := F'.ns
      refine ⟨⟨oL, a1, a2, keep _ _ (fun e => hit.2.1 e.symm) hoL, a3⟩, fun b o e => keep b o (fun q => ?_) (F'.keep b o e), F'.above⟩
      have := hit.2.2
      rw [← q, e] at this; cases this
    · intro p hp
      have := N' p (.tail _ hp)
      exact ⟨keep _ _ (hI p hp) this.1, this.2⟩
end
end Mine
end
/-! part M0 -/
section
theorem Mine.offM0 : True := by (w_top off; trivial)
namespace Mine
theorem bitNot_def (x : Int) : Builtin.bitNot x = -x - 1 := by
  unfold Builtin.bitNot; omega
theorem bitOr_nonneg {x y : Int} (hx : 0 ≤ x) (hy : 0 ≤ y) : Builtin.bitOr x y = ((x.toNat ||| y.toNat : Nat) : Int) := by
  unfold Builtin.bitOr Builtin.bitAnd
  have h1 : decide (0 ≤ Builtin.bitNot x) = false := by rw [bitNot_def]; simp; omega
  have h2 : decide (0 ≤ Builtin.bitNot y) = false := by rw [bitNot_def]; simp; omega
  simp only [h1, h2]
  have e1 : Builtin.bitNot (Builtin.bitNot x) = x := by simp only [bitNot_def]; omega
  have e2 : Builtin.bitNot (Builtin.bitNot y) = y := by simp only [bitNot_def]; omega
  rw [e1, e2]
  simp only [bitNot_def]; omega
theorem bitOr_shift {a k : Int} (i : Nat) (ha : 0 ≤ a) (hk : 0 ≤ k) (hk' : k < 2 ^ i) : Builtin.bitOr (a * 2 ^ i) k = a * 2 ^ i + k := by
  obtain ⟨n, rfl⟩ := Int.eq_ofNat_of_zero_le ha
  obtain ⟨j, rfl⟩ := Int.eq_ofNat_of_zero_le hk
  have hj : j < 2 ^ i := by exact_mod_cast hk'
  have e : ((n : Int) * 2 ^ i) = ((2 ^ i * n : Nat) : Int) := by push_cast; rw [Int.mul_comm]
  rw [e, bitOr_nonneg (Int.natCast_nonneg _) (Int.natCast_nonneg _), Int.toNat_natCast, Int.toNat_natCast, ← Nat.two_pow_add_eq_or_of_lt hj]
  push_cast; rfl

def b64L : List UInt8 := [65, 66, 67, 68, 69, 70, 71, 72, 73, 74, 75, 76, 77, 78, 79, 80, 81, 82, 83, 84, 85, 86, 87, 88, 89, 90, 97, 98, 99, 100, 101, 102, 103, 104, 105, 106, 107, 108, 109, 110, 111, 112, 113, 114, 115, 116, 117, 118, 119, 120, 121, 122, 48, 49, 50, 51, 52, 53, 54, 55, 56, 57, 43, 47]
def ch64 (v : Int) : Int := (((b64L.getD v.toNat 0).toNat : Nat) : Int)
/-- one octet more: the signs so far, the bits left, the char left -/
def st64 (σ : List Int × Int × Int) (k : Int) : List Int × Int × Int :=
  let c := (σ.2.2 * 256 + k) % 65536
  if σ.2.1 = 0 then (σ.1 ++ [ch64 (c / 4 % 64)], 2, c)
  else if σ.2.1 = 2 then (σ.1 ++ [ch64 (c / 16 % 64)], 4, c)
  else (σ.1 ++ [ch64 (c / 64 % 64), ch64 (c % 64)], 0, c)
def z64 : List Int × Int × Int := ([], 0, 0)
theorem st64_lb (σ : List Int × Int × Int) (k : Int) : (st64 σ k).2.1 = 0 ∨ (st64 σ k).2.1 = 2 ∨ (st64 σ k).2.1 = 4 := by
  unfold st64; dsimp only; split
  · exact .inr (.inl rfl)
  · split
    · exact .inr (.inr rfl)
    · exact .inl rfl
theorem st64_lc (σ : List Int × Int × Int) (k : Int) : 0 ≤ (st64 σ k).2.2 ∧ (st64 σ k).2.2 < 65536 := by
  unfold st64; dsimp only; split
  · dsimp only; omega
  · split <;> dsimp only <;> omega
theorem st64_len (σ : List Int × Int × Int) (k : Int) : (st64 σ k).1.length ≤ σ.1.length + 2 := by
  unfold st64; dsimp only; split
  · simp
  · split <;> simp
theorem f64_snoc (l : List Int) (k : Int) : (l ++ [k]).foldl st64 z64 = st64 (l.foldl st64 z64) k := by rw [List.foldl_append]; rfl
theorem f64_okG : ∀ (l : List Int) (σ : List Int × Int × Int) (n : Nat), (σ.2.1 = 0 ∨ σ.2.1 = 2 ∨ σ.2.1 = 4) ∧ 0 ≤ σ.2.2 ∧ σ.2.2 < 65536 ∧ σ.1.length ≤ n →
    ((l.foldl st64 σ).2.1 = 0 ∨ (l.foldl st64 σ).2.1 = 2 ∨ (l.foldl st64 σ).2.1 = 4) ∧ 0 ≤ (l.foldl st64 σ).2.2 ∧ (l.foldl st64 σ).2.2 < 65536 ∧ (l.foldl st64 σ).1.length ≤ n + 2 * l.length
  | [], _, _, h => by simpa using h
  | k :: l, σ, n, h => by
    have h3 := st64_len σ k
    have r := f64_okG l (st64 σ k) (n + 2) ⟨st64_lb _ _, (st64_lc _ _).1, (st64_lc _ _).2, by omega⟩
    rw [List.foldl_cons, List.length_cons]
    refine ⟨r.1, r.2.1, r.2.2.1, by have := r.2.2.2; omega⟩
theorem f64_ok (l : List Int) : ((l.foldl st64 z64).2.1 = 0 ∨ (l.foldl st64 z64).2.1 = 2 ∨ (l.foldl st64 z64).2.1 = 4) ∧ 0 ≤ (l.foldl st64 z64).2.2 ∧ (l.foldl st64 z64).2.2 < 65536 ∧ (l.foldl st64 z64).1.length ≤ 2 * l.length := by
  have := f64_okG l z64 0 ⟨.inl rfl, by decide, by decide, by decide⟩
  simpa using this
theorem f64_succ {ks : List Int} {i : Nat} {k : Int} (h : ks[i]? = some k) : (ks.take (i + 1)).foldl st64 z64 = st64 ((ks.take i).foldl st64 z64) k := by
  rw [List.take_add_one, h]; exact f64_snoc _ _
theorem lc_is {lc k : Int} (h0 : 0 ≤ lc) (hk : 0 ≤ k) (hk' : k < 256) : Builtin.bitAnd (Builtin.bitOr (lc * 2 ^ Int.toNat 8) k) 65535 = (lc * 256 + k) % 65536 := by
  rw [bitAnd_m16, show Int.toNat 8 = 8 from rfl, bitOr_shift 8 h0 hk (by omega)]; rfl
theorem sh_is (c : Int) (n : Nat) : Builtin.bitAnd (c.fdiv (2 ^ n)) 63 = c / 2 ^ n % 64 := by
  rw [bitAnd_m6, Int.fdiv_eq_ediv_of_nonneg _ (Int.pow_nonneg (by decide))]
theorem intsOne {x y : Int} {t : Tok} (e : x = y) : IntsAre [.int x t] [y] := e ▸ IntsAre.cons _ _ .nil
theorem intsTwo {x y x' y' : Int} {t t' : Tok} (e : x = y) (e' : x' = y') : IntsAre [.int x t, .int x' t'] [y, y'] := e ▸ e' ▸ IntsAre.cons _ _ (IntsAre.cons _ _ .nil)
theorem ch64_lt (v : Int) : 0 ≤ ch64 v ∧ ch64 v < 256 := by
  unfold ch64
  have := (b64L.getD v.toNat 0).toNat_lt
  omega
theorem el64 {lc k : Int} (n : Nat) (h0 : 0 ≤ lc) (hk : 0 ≤ k) (hk' : k < 256) :
    ch64 (Builtin.bitAnd ((Builtin.bitAnd (Builtin.bitOr (lc * 2 ^ Int.toNat 8) k) 65535).fdiv (2 ^ n)) 63) = ch64 ((lc * 256 + k) % 65536 / 2 ^ n % 64) := by
  rw [lc_is h0 hk hk', sh_is]
theorem st64_in (σ : List Int × Int × Int) (k : Int) (h : ∀ n ∈ σ.1, 0 ≤ n ∧ n < 256) : ∀ n ∈ (st64 σ k).1, 0 ≤ n ∧ n < 256 := by
  intro n hn
  unfold st64 at hn
  dsimp only at hn
  split at hn
  · rcases List.mem_append.mp hn with hn | hn
    · exact h n hn
    · rw [List.mem_singleton.mp hn]; exact ch64_lt _
  · split at hn
    · rcases List.mem_append.mp hn with hn | hn
      · exact h n hn
      · rw [List.mem_singleton.mp hn]; exact ch64_lt _
    · rcases List.mem_append.mp hn with hn | hn
      · exact h n hn
      · rcases List.mem_cons.mp hn with rfl | hn
        · exact ch64_lt _
        · rw [List.mem_singleton.mp hn]; exact ch64_lt _
theorem f64_inG : ∀ (l : List Int) (σ : List Int × Int × Int), (∀ n ∈ σ.1, 0 ≤ n ∧ n < 256) → ∀ n ∈ (l.foldl st64 σ).1, 0 ≤ n ∧ n < 256
  | [], _, h => h
  | k :: l, σ, h => f64_inG l (st64 σ k) (st64_in σ k h)
theorem f64_in (l : List Int) : ∀ n ∈ (l.foldl st64 z64).1, 0 ≤ n ∧ n < 256 := f64_inG l z64 fun _ h => nomatch h
end Mine
end
/-! part M1 -/
section
theorem Mine.offM1 : True := by (w_top off; trivial)
namespace Mine
/-- one number read from the signs: its value and how many signs it took; val is what is read so far -/
def parseGo (val : Int) : List Int → Option (Int × Nat)
  | [] => none
  | c :: r => if c / 64 % 2 = 0 then some (val * 64 + c % 64, 1) else (parseGo (val * 64 + c % 64) r).map fun p => (p.1, p.2 + 1)
/-- all the numbers -/
def parseAll : Nat → List Int → Option (List Int)
  | _, [] => some []
  | 0, _ :: _ => none
  | f + 1, c :: r => match parseGo 0 (c :: r) with
    | none => none
    | some (v, j) => (parseAll f ((c :: r).drop j)).map (v :: ·)
theorem bitAnd64 {c : Int} (h0 : 0 ≤ c) (h1 : c < 128) : Builtin.bitAnd c 64 = c / 64 % 2 * 64 := by
  obtain ⟨n, rfl⟩ := Int.eq_ofNat_of_zero_le h0
  have hn : n < 128 := by omega
  revert hn
  have : ∀ n : Nat, n < 128 → Builtin.bitAnd (n : Int) 64 = (n : Int) / 64 % 2 * 64 := by decide +kernel
  exact fun _ => this n (by omega)
theorem val_step {val c : Int} {d : Nat} (h0 : 0 ≤ val) (h : val < 2 ^ (6 * d)) : 0 ≤ val * 64 + c % 64 ∧ val * 64 + c % 64 < 2 ^ (6 * (d + 1)) := by
  have e : (2 : Int) ^ (6 * (d + 1)) = 2 ^ (6 * d) * 64 := by rw [show 6 * (d + 1) = 6 * d + 6 from by omega, Int.pow_add]; rfl
  rw [e]
  generalize (2 : Int) ^ (6 * d) = P at *
  omega
theorem bits_of_lt {x : Int} {m : Nat} (h0 : 0 ≤ x) (h : x < 2 ^ m) : Builtin.Int.intBits x ≤ m := by
  refine intBits_le_iff.mpr ?_
  obtain ⟨n, rfl⟩ := Int.eq_ofNat_of_zero_le h0
  exact_mod_cast h
theorem val_or {val c : Int} (h0 : 0 ≤ val) : Builtin.bitOr (val * 2 ^ Int.toNat 6) (Builtin.bitAnd c 63) = val * 64 + c % 64 := by
  rw [bitAnd_m6, show Int.toNat 6 = 6 from rfl, bitOr_shift 6 h0 (by omega) (by omega)]; rfl
theorem parseGo_cons (val c : Int) (r : List Int) : parseGo val (c :: r) = if c / 64 % 2 = 0 then some (val * 64 + c % 64, 1) else (parseGo (val * 64 + c % 64) r).map fun p => (p.1, p.2 + 1) := rfl
theorem parseGo_le : ∀ (l : List Int) (val v : Int) (j : Nat), parseGo val l = some (v, j) → 1 ≤ j ∧ j ≤ l.length
  | [], _, _, _, h => by cases h
  | c :: r, val, v, j, h => by
    rw [parseGo_cons] at h
    split at h
    · cases h
      simp
    · cases hq : parseGo (val * 64 + c % 64) r with
      | none => rw [hq] at h; cases h
      | some p =>
        rw [hq] at h
        cases h
        have := parseGo_le r _ p.1 p.2 hq
        simp only [List.length_cons]
        omega
theorem parseAll_cons {f : Nat} {c : Int} {r rest : List Int} (h : parseAll f (c :: r) = some rest) : ∃ v j rest' f', parseGo 0 (c :: r) = some (v, j) ∧ rest = v :: rest' ∧ parseAll f' ((c :: r).drop j) = some rest' := by
  cases f with
  | zero => cases h
  | succ f =>
    unfold parseAll at h
    cases hq : parseGo 0 (c :: r) with
    | none => rw [hq] at h; cases h
    | some p =>
      rw [hq] at h
      dsimp only at h
      cases hr : parseAll f ((c :: r).drop p.2) with
      | none => rw [hr] at h; cases h
      | some r' =>
        rw [hr] at h
        cases h
        exact ⟨p.1, p.2, r', f, rfl, rfl, hr⟩
end Mine
end
/-! part D0 -/
section
theorem Mine.offD0 : True := by (w_top off; trivial)
namespace Mine
theorem name2 {h₀ h : Heap} {L a b : Addr} {o p : Obj} {news : Led} (_N : News h₀ L h ((a, o) :: (b, p) :: news)) : ∃ a' b', a' = a ∧ b' = b := ⟨a, b, rfl, rfl⟩
theorem name4 {h₀ h : Heap} {L a b c d : Addr} {o p q r : Obj} {news : Led} (_N : News h₀ L h ((a, o) :: (b, p) :: (c, q) :: (d, r) :: news)) : ∃ a' b' c' d', a' = a ∧ b' = b ∧ c' = c ∧ d' = d := ⟨a, b, c, d, rfl, rfl, rfl, rfl⟩
abbrev tupO (xs : List Value) (n : Nat) : Obj := { cls := .type "tuple", data := .seq xs.toArray n }
/-- a piece: its number, its size, whether it ends one -/
abbrev Piece := Int × Int × Bool
abbrev Run := Int × Int
def PieceIn (led : Led) (v : Value) (p : Piece) : Prop := ∃ a t1 t2 n, v = .ref a ∧ (a, tupO [.int p.1 t1, .int p.2.1 t2, .bool p.2.2] n) ∈ led
def RunIn (led : Led) (v : Value) (p : Run) : Prop := ∃ a t1 t2 n, v = .ref a ∧ (a, tupO [.int p.1 t1, .int p.2 t2] n) ∈ led
/-- two lists, item by item -/
inductive Both {α β : Type} (R : α → β → Prop) : List α → List β → Prop
  | nil : Both R [] []
  | cons {a b as bs} : R a b → Both R as bs → Both R (a :: as) (b :: bs)
theorem Both.length {α β : Type} {R : α → β → Prop} : ∀ {as : List α} {bs : List β}, Both R as bs → as.length = bs.length
  | _, _, .nil => rfl
  | _, _, .cons _ r => by simp [r.length]
theorem Both.append {α β : Type} {R : α → β → Prop} {cs : List α} {ds : List β} (h' : Both R cs ds) : ∀ {as : List α} {bs : List β}, Both R as bs → Both R (as ++ cs) (bs ++ ds)
  | _, _, .nil => h'
  | _, _, .cons h r => .cons h (Both.append h' r)
theorem Both.mono {α β : Type} {R R' : α → β → Prop} (hs : ∀ a b, R a b → R' a b) : ∀ {as : List α} {bs : List β}, Both R as bs → Both R' as bs
  | _, _, .nil => .nil
  | _, _, .cons h r => .cons (hs _ _ h) (r.mono hs)
theorem Both.get {α β : Type} {R : α → β → Prop} : ∀ {as : List α} {bs : List β}, Both R as bs → ∀ {i : Nat} {a : α}, as[i]? = some a → ∃ b, bs[i]? = some b ∧ R a b
  | _, _, .cons h _, 0, _, e => by cases e; exact ⟨_, rfl, h⟩
  | _, _, .cons _ r, i + 1, _, e => r.get (i := i) e
theorem PieceIn.mono {led led' : Led} (hs : ∀ p ∈ led, p ∈ led') {v : Value} {p : Piece} (h : PieceIn led v p) : PieceIn led' v p := by
  obtain ⟨a, t1, t2, n, e, hm⟩ := h
  exact ⟨a, t1, t2, n, e, hs _ hm⟩
theorem RunIn.mono {led led' : Led} (hs : ∀ p ∈ led, p ∈ led') {v : Value} {p : Run} (h : RunIn led v p) : RunIn led' v p := by
  obtain ⟨a, t1, t2, n, e, hm⟩ := h
  exact ⟨a, t1, t2, n, e, hs _ hm⟩
def PiecesAt (led : Led) (v : Value) (ps : List Piece) : Prop := ∃ l vs n, v = .ref l ∧ (l, W.listOf (List.toArray vs) n) ∈ led ∧ Both (PieceIn led) vs ps
def RunsAt (led : Led) (v : Value) (ps : List Run) : Prop := ∃ l vs n, v = .ref l ∧ (l, W.listOf (List.toArray vs) n) ∈ led ∧ Both (RunIn led) vs ps
/-- a list of ints of the ledger -/
def IntsAt (led : Led) (v : Value) (ns : List Int) : Prop := ∃ l vs n, v = .ref l ∧ (l, W.listOf (List.toArray vs) n) ∈ led ∧ IntsAre vs ns
theorem PiecesAt.mono {led led' : Led} (hs : ∀ p ∈ led, p ∈ led') {v : Value} {ps : List Piece} (h : PiecesAt led v ps) : PiecesAt led' v ps := by
  obtain ⟨l, vs, n, e, hm, hb⟩ := h
  exact ⟨l, vs, n, e, hs _ hm, hb.mono fun _ _ => PieceIn.mono hs⟩
theorem RunsAt.mono {led led' : Led} (hs : ∀ p ∈ led, p ∈ led') {v : Value} {ps : List Run} (h : RunsAt led v ps) : RunsAt led' v ps := by
  obtain ⟨l, vs, n, e, hm, hb⟩ := h
  exact ⟨l, vs, n, e, hs _ hm, hb.mono fun _ _ => RunIn.mono hs⟩
theorem IntsAt.mono {led led' : Led} (hs : ∀ p ∈ led, p ∈ led') {v : Value} {ps : List Int} (h : IntsAt led v ps) : IntsAt led' v ps := by
  obtain ⟨l, vs, n, e, hm, hb⟩ := h
  exact ⟨l, vs, n, e, hs _ hm, hb⟩

/-- _law_laid's turn -/
def laidStep (σ : List Run × Int × Int) (p : Piece) : List Run × Int × Int :=
  let a := σ.2.1 * 64 ^ p.2.1.toNat + p.1
  let n := σ.2.2 + p.2.1
  if p.2.2 = true then (σ.1 ++ [(a, n)], 0, 0) else (σ.1, a, n)
def laid0 : List Run × Int × Int := ([], 0, 0)
def laid (ps : List Piece) : List Run := (ps.foldl laidStep laid0).1
/-- pieces of digits to the base of 64, not too many -/
structure WfP (ps : List Piece) : Prop where
  each : ∀ p ∈ ps, 0 ≤ p.2.1 ∧ 0 ≤ p.1 ∧ p.1 < 64 ^ p.2.1.toNat
  all : (ps.map fun p => p.2.1.toNat).sum ≤ 300
theorem laidStep_ok {σ : List Run × Int × Int} {p : Piece} {N : Nat} (hp : 0 ≤ p.2.1 ∧ 0 ≤ p.1 ∧ p.1 < 64 ^ p.2.1.toNat) (h : 0 ≤ σ.2.1 ∧ 0 ≤ σ.2.2 ∧ σ.2.1 < 64 ^ σ.2.2.toNat ∧ σ.2.2.toNat ≤ N) :
    0 ≤ (laidStep σ p).2.1 ∧ 0 ≤ (laidStep σ p).2.2 ∧ (laidStep σ p).2.1 < 64 ^ (laidStep σ p).2.2.toNat ∧ (laidStep σ p).2.2.toNat ≤ N + p.2.1.toNat := by
  obtain ⟨h0, h1, h2, h3⟩ := h
  obtain ⟨p0, p1, p2⟩ := hp
  unfold laidStep
  dsimp only
  have e : (σ.2.2 + p.2.1).toNat = σ.2.2.toNat + p.2.1.toNat := by omega
  have hpos : (0 : Int) < 64 ^ p.2.1.toNat := Int.pow_pos (by decide)
  split
  · dsimp only; exact ⟨by omega, by omega, by decide, by omega⟩
  · dsimp only
    refine ⟨Int.add_nonneg (Int.mul_nonneg h0 (Int.le_of_lt hpos)) p1, by omega, ?_, by omega⟩
    rw [e, Int.pow_add]
    generalize (64 : Int) ^ p.2.1.toNat = P at *
    generalize (64 : Int) ^ σ.2.2.toNat = S at *
    have : (σ.2.1 + 1) * P ≤ S * P := Int.mul_le_mul_of_nonneg_right (by omega) (by omega)
    rw [Int.add_mul, Int.one_mul] at this
    omega
theorem laid_ok : ∀ (ps : List Piece) (σ : List Run × Int × Int) (N : Nat), (∀ p ∈ ps, 0 ≤ p.2.1 ∧ 0 ≤ p.1 ∧ p.1 < 64 ^ p.2.1.toNat) → (0 ≤ σ.2.1 ∧ 0 ≤ σ.2.2 ∧ σ.2.1 < 64 ^ σ.2.2.toNat ∧ σ.2.2.toNat ≤ N) →
    0 ≤ (ps.foldl laidStep σ).2.1 ∧ 0 ≤ (ps.foldl laidStep σ).2.2 ∧ (ps.foldl laidStep σ).2.1 < 64 ^ (ps.foldl laidStep σ).2.2.toNat ∧ (ps.foldl laidStep σ).2.2.toNat ≤ N + (ps.map fun p => p.2.1.toNat).sum
  | [], _, _, _, h => by simpa using h
  | p :: ps, σ, N, hp, h => by
    have r := laid_ok ps (laidStep σ p) (N + p.2.1.toNat) (fun q hq => hp q (.tail _ hq)) (laidStep_ok (hp p (.head _)) h)
    rw [List.foldl_cons, List.map_cons, List.sum_cons]
    exact ⟨r.1, r.2.1, r.2.2.1, by have := r.2.2.2; omega⟩
theorem sum_take_le : ∀ (l : List Nat) (i : Nat), (l.take i).sum ≤ l.sum
  | [], i => by simp
  | a :: l, 0 => by simp
  | a :: l, i + 1 => by simp only [List.take_succ_cons, List.sum_cons]; have := sum_take_le l i; omega
theorem le_sum_of_mem : ∀ {l : List Nat} {a : Nat}, a ∈ l → a ≤ l.sum
  | b :: l, a, h => by
    rw [List.sum_cons]
    rcases List.mem_cons.mp h with rfl | h
    · omega
    · have := le_sum_of_mem h; omega
theorem laid_take_ok {ps : List Piece} (h : WfP ps) (i : Nat) : 0 ≤ ((ps.take i).foldl laidStep laid0).2.1 ∧ ((ps.take i).foldl laidStep laid0).2.1 < 2 ^ 1800 ∧ 0 ≤ ((ps.take i).foldl laidStep laid0).2.2 ∧ ((ps.take i).foldl laidStep laid0).2.2 ≤ 300 := by
  have r := laid_ok (ps.take i) laid0 0 (fun p hp => h.each p (List.mem_of_mem_take hp)) ⟨by decide, by decide, by decide, by decide⟩
  have hs : ((ps.take i).map fun p => p.2.1.toNat).sum ≤ 300 := by
    rw [List.map_take]
    exact Nat.le_trans (sum_take_le _ _) h.all
  obtain ⟨r1, r2, r3, r4⟩ := r
  refine ⟨r1, ?_, r2, by omega⟩
  have e : (2 : Int) ^ 1800 = 64 ^ 300 := by
    rw [show (64 : Int) = 2 ^ 6 from rfl, ← Int.pow_mul]
  rw [e]
  refine Int.lt_of_lt_of_le r3 ?_
  exact_mod_cast Nat.pow_le_pow_right (n := 64) (by decide) (show ((ps.take i).foldl laidStep laid0).2.2.toNat ≤ 300 by omega)
theorem laid_succ {ps : List Piece} {i : Nat} {p : Piece} (h : ps[i]? = some p) : (ps.take (i + 1)).foldl laidStep laid0 = laidStep ((ps.take i).foldl laidStep laid0) p := by
  rw [List.take_add_one, h, Option.toList_some, List.foldl_append]; rfl
theorem mulOk {a : Int} {k : Nat} (h0 : 0 ≤ a) (h1 : a < 2 ^ 1800) (hk : k ≤ 1000) : IntMulOk a (64 ^ k) :=
  IntMulOk.of_le (m := 1800) (n := 6001) (bits_of_lt h0 h1) (by
    have e : (64 : Int) ^ k = 2 ^ (6 * k) := by rw [show (64 : Int) = 2 ^ 6 from rfl, ← Int.pow_mul]
    rw [e]
    refine bits_of_lt (Int.le_of_lt (Int.pow_pos (by decide))) ?_
    exact_mod_cast Nat.pow_lt_pow_right (a := 2) (by decide) (show 6 * k < 6001 by omega)) (by decide)
theorem pow64_ne (k : Nat) : (64 : Int) ^ k ≠ 0 := Int.ne_of_gt (Int.pow_pos (by decide))
theorem noPylong64 {x : Int} {k : Nat} (h : k ≤ 1000) : Builtin.divisionGoesByPylong x (64 ^ k) = false := by
  refine PyProof.noPylong_of_log2 ?_
  have e : ((64 : Int) ^ k).natAbs = 2 ^ (6 * k) := by
    rw [Int.natAbs_pow, show ((64 : Int)).natAbs = 2 ^ 6 from rfl, ← Nat.pow_mul]
  rw [e, Nat.log2_two_pow]
  omega
/-- _law_edited's turn: what goes ahead, what goes behind, how far the stop and the start are -/
structure Ed where
  ah : List Piece
  bh : List Piece
  stop : Int
  start : Int
def edA (σ : Ed) (p : Run) : List Piece × Int :=
  if p.2 ≤ σ.stop then (σ.ah ++ [(p.1, p.2, true)], σ.stop - p.2)
  else if 0 < σ.stop then (σ.ah ++ [(p.1 / 64 ^ (p.2 - σ.stop).toNat, σ.stop, false)], 0) else (σ.ah, σ.stop)
def edB (σ : Ed) (p : Run) : List Piece × Int :=
  if p.2 ≤ σ.start then (σ.bh, σ.start - p.2) else (σ.bh ++ [(p.1 % 64 ^ (p.2 - σ.start).toNat, p.2 - σ.start, true)], 0)
def editStep (σ : Ed) (p : Run) : Ed := ⟨(edA σ p).1, (edB σ p).1, (edA σ p).2, (edB σ p).2⟩
def edit0 (place gone : Int) : Ed := ⟨[], [], place, place + gone⟩
theorem edit_nn : ∀ (ps : List Run) (σ : Ed), (∀ p ∈ ps, 0 ≤ p.2) → 0 ≤ σ.stop ∧ 0 ≤ σ.start → 0 ≤ (ps.foldl editStep σ).stop ∧ 0 ≤ (ps.foldl editStep σ).start
  | [], _, _, h => h
  | p :: ps, σ, hp, h => by
    refine edit_nn ps (editStep σ p) (fun q hq => hp q (.tail _ hq)) ?_
    have := hp p (.head _)
    unfold editStep edA edB
    dsimp only
    constructor
    · split
      · dsimp only; omega
      · split <;> dsimp only <;> omega
    · split <;> dsimp only <;> omega
theorem edit_succ {ps : List Run} {i : Nat} {p : Run} {z : Ed} (h : ps[i]? = some p) : (ps.take (i + 1)).foldl editStep z = editStep ((ps.take i).foldl editStep z) p := by
  rw [List.take_add_one, h, Option.toList_some, List.foldl_append]; rfl
def edited (runs : List Run) (place gone : Int) (put : List Piece) : List Piece :=
  let σ := runs.foldl editStep (edit0 place gone)
  σ.ah ++ put ++ σ.bh
end Mine
namespace Mine
section
variable {prog : Program} {w : World} {A : Around} {E : Value → Shared → Prop} {s : Shared} {env : Env} {h₀ : Heap} {x : Str} {body : List Stmt} {Q : Flow → Shared → Prop}
theorem iterRange {r : Addr} {a₀ b₀ c : Int} {t₀ u₀ v₀ : Tok} {n : Nat} {m₀ : Str → Option Value} {news : Led} (J : Nat → (Str → Option Value) → Led → Prop)
    (hh : A.handled = none) (hr : IsRange s.heap r a₀ b₀ c t₀ u₀ v₀) (hsmall : Builtin.Range.small a₀ b₀ c = true) (hsz : Builtin.Range.rangeSize a₀ b₀ c = (n : Int)) (F : Fr h₀ env.locals s.heap m₀) (N : News h₀ env.locals s.heap news) (hj : J 0 m₀ news)
    (turn : ∀ i t m₁ nx h tk own, i < n → OwnOff own (nx.map (·.1)) → J i m₁ nx → Fr h₀ env.locals h (fun y => if y = x then some (.int (a₀ + (i : Int) * c) t) else m₁ y) → News h₀ env.locals h (nx ++ own) →
      wpAny (model prog w) A (execs body env) (InvPostG h₀ env.locals (J (i + 1)) own { s with heap := h, toks := tk } Q) E { s with heap := h, toks := tk })
    (done : ∀ m₁ nx h tk, J n m₁ nx → Fr h₀ env.locals h m₁ → News h₀ env.locals h nx → Q .next { s with heap := h, toks := tk }) :
    wpAny (model prog w) A (pyIter (.ref r)) (fun it s₂ => LoopAtV prog w A h₀ env x body Q E it s₂) E s := by
  refine wpAny_pyIter_range hr hsmall ?_
  have W : Walks prog w A s.heap.objs.size [s.heap.objs.size] [s.heap.objs.size] n (fun i v => i < n ∧ ∃ t, v = .int (a₀ + i * c) t)
      (fun i h => IsRangeIter h s.heap.objs.size (a₀ + (i : Nat) * c) ((n : Int) - (i : Nat)) c) := (Walks.range hh _ a₀ c n).bound
  refine kdr_loop J W (fun _ h => h) (fun _ h => h) ?_ ?_ ?_ ?_ (by show IsRangeIter _ _ _ _ _; rw [hsz]; simpa using Heap.get?_push_size _ rfl) (F.push _) (fun p hp => ⟨Heap.get?_push_of_some _ (N p hp).1, (N p hp).2⟩) hj ?_ ?_
  · intro i h hi b hb
    rw [List.mem_singleton.mp hb]
    exact ⟨_, hi⟩
  · intro hm
    exact absurd F.ns.lt ((List.mem_singleton.mp hm) ▸ Nat.lt_irrefl _)
  · intro b hb
    rw [List.mem_singleton.mp hb]
    exact next_is_new F
  · intro p hp hI
    exact absurd (Heap.lt_size (N p hp).1) ((List.mem_singleton.mp hI) ▸ Nat.lt_irrefl _)
  · rintro i v m₁ nx h tk own hi ⟨_, t, rfl⟩ hoff hJ F₁ N₁
    exact turn i t m₁ nx h tk own hi hoff hJ F₁ N₁
  · exact done
end
end Mine
namespace Mine
def piece16 (v : Int) : Piece := if v < 10 then (v + 48, 1, true) else (v - 9, 1, false)
def dig16 (x : Int) (j : Nat) : Piece := piece16 (x / 16 ^ (5 - j) % 16)
def digs16 (x : Int) : List Piece := (List.range 6).map (dig16 x)
def pieces16 (page : List Int) : List Piece := page.flatMap digs16
def piece60 (v : Int) : Piece := if v < 52 then (if v < 26 then v + 1 else v + 7, 1, false) else (if v < 62 then v - 4 else 4 * v - 205, 1, true)
def dig60 (x : Int) (j : Nat) : Piece := piece60 (x / 64 ^ (3 - j) % 64)
def digs60 (x : Int) : List Piece := (List.range 4).map (dig60 x)
def pieces60 (page : List Int) : List Piece := page.flatMap digs60
/-- between the turns of an inner loop that lays a triple's pieces -/
def LayJ (r I : Addr) (io : Obj) (tl0 : Led) (len0 : Nat) (x : Int) (t : Tok) (ps : List Piece) (j : Nat) (m : Str → Option Value) (nx : Led) : Prop :=
  ∃ rv rn tl, nx = (I, io) :: (r, W.listOf (List.toArray rv) rn) :: tl ∧ (∀ p ∈ tl, p.1 ≠ r) ∧ (∀ p ∈ tl, p.1 ≠ I) ∧ (∀ p ∈ tl0, p ∈ tl) ∧ Both (PieceIn tl) rv ps ∧ rv.length ≤ len0 + j ∧
    m (Str.ofString "pieces") = some (.ref r) ∧ m (Str.ofString "triple") = some (.int x t)
theorem layEnd {h₀ h' : Heap} {L r I P : Addr} {io : Obj} {tl0 tl own : Led} {len0 j rn tk : Nat} {x a b : Int} {e : Bool} {t t1 t2 : Tok} {ps : List Piece} {rv : List Value} {m' : Str → Option Value} {s₁ : Shared}
    (F9 : Fr h₀ L h' m') (N9 : News h₀ L h' ((P, { cls := .type "tuple", data := .seq #[.int a t1, .int b t2, .bool e] }) :: (I, io) :: (r, W.listOf (rv.toArray.push (.ref P)) rn) :: (tl ++ own)))
    (hPr : @Ne Nat P r) (hPI : @Ne Nat P I) (hPo : ∀ p ∈ own, p.1 ≠ P) (hoff : OwnOff own (((I, io) :: (r, W.listOf rv.toArray rn) :: tl).map (·.1))) (htl : ∀ p ∈ tl, p.1 ≠ r) (hIt : ∀ p ∈ tl, p.1 ≠ I) (hsub : ∀ p ∈ tl0, p ∈ tl)
    (hb : Both (PieceIn tl) rv ps) (hl : rv.length ≤ len0 + j) (h1 : m' (Str.ofString "pieces") = some (.ref r)) (h2 : m' (Str.ofString "triple") = some (.int x t)) :
    InvEndG h₀ L (LayJ r I io tl0 len0 x t (ps ++ [(a, b, e)]) (j + 1)) own s₁ { s₁ with heap := h', toks := tk } := by
  rw [List.push_toArray] at N9
  refine ⟨h', tk, m', _, (I, io) :: (r, W.listOf (List.toArray (rv ++ [.ref P])) rn) :: (P, tupO [.int a t1, .int b t2, .bool e] 0) :: tl, rfl, F9, N9, ?_, ?_, ?_, rv ++ [.ref P], rn, _, rfl, ?_, ?_, fun q hq => .tail _ (hsub q hq), ?_, by simp; omega, h1, h2⟩
  · intro q hq
    rcases List.mem_cons.mp hq with rfl | hq
    · exact .tail _ (.head _)
    rcases List.mem_cons.mp hq with rfl | hq
    · exact .tail _ (.tail _ (.head _))
    rcases List.mem_cons.mp hq with rfl | hq
    · exact .head _
    · exact .tail _ (.tail _ (.tail _ (List.mem_append_left _ hq)))
  · exact fun q hq => .tail _ (.tail _ (.tail _ (List.mem_append_right _ hq)))
  · intro q hq b' hb'
    simp only [List.map_cons, List.mem_cons] at hb'
    rcases hb' with rfl | rfl | rfl | hb'
    · exact hoff q hq _ (by simp)
    · exact hoff q hq _ (by simp)
    · exact hPo q hq
    · exact hoff q hq _ (by simp only [List.map_cons, List.mem_cons]; exact .inr (.inr hb'))
  · intro q hq
    rcases List.mem_cons.mp hq with rfl | hq
    · exact hPr
    · exact htl q hq
  · intro q hq
    rcases List.mem_cons.mp hq with rfl | hq
    · exact hPI
    · exact hIt q hq
  · exact Both.append (.cons ⟨P, t1, t2, 0, rfl, .head _⟩ .nil) (hb.mono fun _ _ => PieceIn.mono fun _ hp => .tail _ hp)
theorem allLt_all {d : Nat} : ∀ (l : Led), AllLt d l → ∀ p ∈ l, @LT.lt Nat _ p.1 d
  | [], _, _, hp => nomatch hp
  | q :: l, h, p, hp => by
    rcases List.mem_cons.mp hp with e | hp
    · rw [e]; exact h.1
    · exact allLt_all l h.2 p hp
theorem pow16_ne (k : Nat) : (16 : Int) ^ k ≠ 0 := Int.ne_of_gt (Int.pow_pos (by decide))
theorem noPylong16 {x : Int} {k : Nat} (h : k ≤ 1000) : Builtin.divisionGoesByPylong x (16 ^ k) = false := by
  refine PyProof.noPylong_of_log2 ?_
  have e : ((16 : Int) ^ k).natAbs = 2 ^ (4 * k) := by
    rw [Int.natAbs_pow, show ((16 : Int)).natAbs = 2 ^ 4 from rfl, ← Nat.pow_mul]
  rw [e, Nat.log2_two_pow]
  omega
theorem val16 {x : Int} {j : Nat} (hj : j < 6) : (x.fdiv (16 ^ (5 + (j : Int) * -1).toNat)).fmod 16 = x / 16 ^ (5 - j) % 16 := by
  rw [show (5 + (j : Int) * -1).toNat = 5 - j by omega, Int.fdiv_eq_ediv_of_nonneg _ (Int.pow_nonneg (by decide)), Int.fmod_eq_emod_of_nonneg _ (by decide)]
theorem val64 {x : Int} {j : Nat} (hj : j < 4) : (x.fdiv (64 ^ (3 + (j : Int) * -1).toNat)).fmod 64 = x / 64 ^ (3 - j) % 64 := by
  rw [show (3 + (j : Int) * -1).toNat = 3 - j by omega, Int.fdiv_eq_ediv_of_nonneg _ (Int.pow_nonneg (by decide)), Int.fmod_eq_emod_of_nonneg _ (by decide)]
theorem range_map_succ {α : Type} (f : Nat → α) (j : Nat) : (List.range (j + 1)).map f = (List.range j).map f ++ [f j] := by
  rw [List.range_succ, List.map_append]; rfl
end Mine
end
/-! part C5 -/
section
theorem Mine.offC5 : True := by (w_top off; trivial)
open PySem PySem.W PySem.Calls PyProof.Rows
namespace Mine
section
variable {prog : Program} {w : World} {A : Around} {E : Value → Shared → Prop} {s : Shared} {R : Result → Shared → Prop}
/-- a comprehension's loop over a list of the heap, by what holds of the heap between the turns -/
theorem compLoopG {elt target iter : Expr} {rest : List Comprehension} {scope : Scope} {pos : Pos} {cenv : Env} {I D l : Addr} {vs : List Value} {nn : Nat} {blk : Sem Fin} (J : Nat → Heap → Prop) (hh : A.handled = none)
    (heq : compTurn (.ListComp elt (⟨target, iter, [], 0⟩ :: rest) scope pos) 0 (.ref I) (.ref D) cenv = (standAt iter.pos >>= fun _ => pyNext (.ref I) >>= fun r => match r with
      | none => pure (.done .next)
      | some v => letOwnedTupleGo target (.ref I) v >>= fun _ => assign target cenv v >>= fun _ => blk))
    (hlI : l ≠ I) (hit : s.heap.get? I = some (itO l 0)) (hl : s.heap.get? l = some (W.listOf vs.toArray nn)) (hJ : J 0 s.heap) (hfr : ∀ i h h', J i h → Heap.ExtBut I h h' → J i h')
    (turn : ∀ i v h tk E', vs[i]? = some v → J i h → h.get? I = some (itO l (i + 1)) → h.get? l = some (W.listOf vs.toArray nn) →
      wpAny (model prog w) A (assign target cenv v) (fun _ s₁ => wpAny (model prog w) A blk (fun fin s₂ => fin = .again (.compLoop (.ListComp elt (⟨target, iter, [], 0⟩ :: rest) scope pos) 0 (.ref I) (.ref D) cenv) ∧ ∃ h' tk', s₂ = { s with heap := h', toks := tk' } ∧ J (i + 1) h' ∧ h'.get? I = some (itO l (i + 1)) ∧ h'.get? l = some (W.listOf vs.toArray nn)) E' s₁) E' { s with heap := h, toks := tk })
    (done : ∀ h tk, J vs.length h → R (.ok .next) { s with heap := h, toks := tk }) :
    codeAny (model prog w) A (.compLoop (.ListComp elt (⟨target, iter, [], 0⟩ :: rest) scope pos) 0 (.ref I) (.ref D) cenv) R s := by
  refine codeAny_loop rfl (fun k s' => ∃ h tk i, s' = { s with heap := h, toks := tk } ∧ J i h ∧ h.get? I = some (itO l i) ∧ h.get? l = some (W.listOf vs.toArray nn) ∧ i ≤ vs.length ∧ k = vs.length - i) (fun k s' hI => ?_) vs.length
    ⟨s.heap, s.toks, 0, rfl, hJ, hit, hl, Nat.zero_le _, rfl⟩
  obtain ⟨h, tk, i, rfl, hJ', hit', hl', hi, rfl⟩ := hI
  show wpAny _ _ ((compTurn (.ListComp elt (⟨target, iter, [], 0⟩ :: rest) scope pos) 0 (.ref I) (.ref D) cenv).onRaise (fun x => do noteFrame x cenv; theTreesLotGoes x)) _ _ _
  refine wpAny_noted ?_
  rw [heq]
  refine wpAny_bind (wpAny_standAt (wpAny_bind ?_))
  by_cases hlt : i < vs.length
  · refine pyNext_item (i := i) (x := vs[i]) hit' hl' (List.getElem?_eq_getElem hlt) fun h₁ hit₁ hs => ?_
    refine wpAny_bind (letGo_listiter ⟨_, hit₁, rfl, rfl⟩ ?_)
    refine wpAny_bind (wpAny_mono (turn i vs[i] h₁ tk _ (List.getElem?_eq_getElem hlt) (hfr i h h₁ hJ' hs.extBut) hit₁ ((hs.2 l hlI).trans hl')) (fun _ s₁ h₁' => wpAny_mono h₁' (fun fin s₂ h₂ => ?_) fun _ _ e => e) fun _ _ e => e)
    obtain ⟨rfl, h', tk', rfl, a, b, c⟩ := h₂
    exact ⟨rfl, vs.length - (i + 1), by omega, h', tk', i + 1, rfl, a, b, c, hlt, rfl⟩
  · have hin : i = vs.length := by omega
    subst hin
    refine wpAny_pyNext_list_end (i := vs.length) (items := vs.toArray) hh ⟨_, hit', rfl, rfl⟩ ⟨_, hl', rfl, nn, rfl⟩ (by simp) fun h₁ hx => ?_
    exact wpAny_pure (done h₁ tk (hfr _ h h₁ hJ' hx))
/-- what holds in a comprehension that fills a list of ints -/
structure CompJ (h₁ : Heap) (C D : Addr) (ns : List Int) (h : Heap) : Prop where
  nsC : ∃ m, h.Ns C m
  acc : ∃ ys cnt, h.get? D = some (W.listOf (List.toArray ys) cnt) ∧ IntsAre ys ns
  keep : ∀ b o, h₁.get? b = some o → h.get? b = some o
theorem compLed {env : Env} {elt target iter : Expr} {rest : List Comprehension} {scope : Scope} {pos : Pos} {h₀ : Heap} {L l : Addr} {m : Str → Option Value} {news : Led} {vs : List Value} {nn : Nat} {blk : Addr → Addr → Addr → Sem Fin} {Q : Value → Shared → Prop} (f : Nat → List Int)
    (hh : A.handled = none) (hfree : ∀ x ∈ scope.names, x.2 ≠ .free) (hcell : ∀ y ∈ scope.names, y.2 ≠ .cell) (hkind : scope.kind = .function) (hnames : ∀ x ∈ scope.names, x.2 = .local → scope.names.lookup x.1 = some .local)
    (hs : ∀ x, foldedSetIterable iter env x = pure x)
    (heq : ∀ I C D, compTurn (.ListComp elt (⟨target, iter, [], 0⟩ :: rest) scope pos) 0 (.ref I) (.ref D) (compEnv scope C env) = (standAt iter.pos >>= fun _ => pyNext (.ref I) >>= fun r => match r with
      | none => pure (.done .next)
      | some v => letOwnedTupleGo target (.ref I) v >>= fun _ => assign target (compEnv scope C env) v >>= fun _ => blk I C D))
    (F : Fr h₀ L s.heap m) (N : News h₀ L s.heap news) (hl : (l, W.listOf vs.toArray nn) ∈ news) (heval : ∀ Q' : Value → Shared → Prop, Q' (.ref l) s → wpAny (model prog w) A (eval iter env) Q' E s) (h0 : f 0 = [])
    (turn : ∀ i v I C D h tk mC ys cnt E', vs[i]? = some v → C ≠ D → (∀ b o, s.heap.get? b = some o → b ≠ C ∧ b ≠ D) → h.Ns C mC → h.get? D = some (W.listOf (List.toArray ys) cnt) → IntsAre ys (f i) → (∀ b o, s.heap.get? b = some o → h.get? b = some o) →
      wpAny (model prog w) A (assign target (compEnv scope C env) v) (fun _ s₁ => wpAny (model prog w) A (blk I C D) (fun fin s₂ => fin = .again (.compLoop (.ListComp elt (⟨target, iter, [], 0⟩ :: rest) scope pos) 0 (.ref I) (.ref D) (compEnv scope C env)) ∧ ∃ h' tk' mC' ys' cnt', s₂ = { s with heap := h', toks := tk' } ∧ h'.Ns C mC' ∧ h'.get? D = some (W.listOf (List.toArray ys') cnt') ∧ IntsAre ys' (f (i + 1)) ∧ (∀ b o, b ≠ C → b ≠ D → h.get? b = some o → h'.get? b = some o)) E' s₁) E' { s with heap := h, toks := tk })
    (g : ∀ D ys n h' tk, Fr h₀ L h' m → News h₀ L h' ((D, W.listOf (List.toArray ys) n) :: news) → (∀ p ∈ news, p.1 ≠ D) → IntsAre ys (f vs.length) → Q (.ref D) { s with heap := h', toks := tk }) :
    wpAny (model prog w) A (eval (.ListComp elt (⟨target, iter, [], 0⟩ :: rest) scope pos) env) Q E s := by
  refine wpAny_ListComp hfree hkind hnames (heval _ ?_) hs
  have hlo := (N _ hl).1
  refine wpAny_pyIter_list (items := vs.toArray) ⟨_, hlo, rfl, nn, rfl⟩ (wpAny_newObj_type (hd := by simp [PySem.sizeOk, sizeLine_eq]) (wpAny_newFunctionEnv hcell (by intro y hy; simp at hy) (fun h₁ hns₁ hsb₁ => ?_) hkind))
  dsimp only at hns₁ hsb₁ ⊢
  generalize hH1 : s.heap.push { cls := .type "list_iterator", data := .fields #[.ref l, .int 0 0] } = H1 at hns₁ hsb₁ ⊢
  have hD : H1.objs.size = s.heap.objs.size + 1 := by rw [← hH1, Heap.size_push]
  generalize hH2 : H1.push { cls := .type "list", dict := none, data := .seq ([] : List Value).toArray } = H2 at hns₁ hsb₁ ⊢
  have hC : H2.objs.size = s.heap.objs.size + 2 := by rw [← hH2, Heap.size_push, hD]
  have hDI : H1.objs.size ≠ s.heap.objs.size := by rw [hD]; exact Nat.succ_ne_self _
  have hDC : H1.objs.size ≠ H2.objs.size := by rw [hD, hC]; exact Nat.ne_of_lt (Nat.lt_succ_self _)
  have hIC : s.heap.objs.size ≠ H2.objs.size := by rw [hC]; exact Nat.ne_of_lt (Nat.lt_succ_of_lt (Nat.lt_succ_self _))
  have below : ∀ b, b < s.heap.objs.size → b ≠ H2.objs.size ∧ b ≠ s.heap.objs.size ∧ b ≠ H1.objs.size := fun b hb =>
    ⟨by rw [hC]; exact Nat.ne_of_lt (Nat.lt_succ_of_lt (Nat.lt_succ_of_lt hb)), Nat.ne_of_lt hb, by rw [hD]; exact Nat.ne_of_lt (Nat.lt_succ_of_lt hb)⟩
  have old : ∀ b o, s.heap.get? b = some o → h₁.get? b = some o := fun b o e =>
    hsb₁.extBut b o (below b (Heap.lt_size e)).1 (Heap.get?_push_of_some _ (hH2 ▸ Heap.get?_push_of_some _ (hH1 ▸ Heap.get?_push_of_some _ e)))
  have hit : h₁.get? s.heap.objs.size = some (itO l 0) :=
    hsb₁.extBut _ _ hIC (Heap.get?_push_of_some _ (hH2 ▸ Heap.get?_push_of_some _ (hH1 ▸ Heap.get?_push_size _ rfl)))
  have hacc : h₁.get? H1.objs.size = some (W.listOf (List.toArray []) 0) := hsb₁.extBut _ _ hDC (Heap.get?_push_of_some _ (hH2 ▸ Heap.get?_push_size _ rfl))
  have hll := (below l (Heap.lt_size hlo))
  have loop : ∀ s₂ : Shared, s₂ = { s with heap := h₁, toks := s.toks + ([] : List (Str × Value)).length } →
      codeAny (model prog w) A (.compLoop (.ListComp elt (⟨target, iter, [], 0⟩ :: rest) scope pos) 0 (.ref s.heap.objs.size) (.ref H1.objs.size) (compEnv scope H2.objs.size env))
        (fun r s' => ∃ m, s'.heap.Ns H2.objs.size m ∧ ∀ h', Heap.SameBut H2.objs.size s'.heap h' →
          match r with | .ok _ => Q (.ref H1.objs.size) { s' with heap := h' } | .error x => wpAny (model prog w) A (passOn "comprehension.variables-let-go" x (compEnv scope H2.objs.size env)) Q E { s' with heap := h' }) s₂ := by
    rintro s₂ rfl
    refine compLoopG (l := l) (vs := vs) (nn := nn) (blk := blk s.heap.objs.size H2.objs.size H1.objs.size) (fun i h => CompJ s.heap H2.objs.size H1.objs.size (f i) h) hh (heq _ _ _) hll.2.1 hit (old _ _ hlo) ⟨⟨_, hns₁⟩, ⟨[], 0, hacc, by rw [h0]; exact .nil⟩, old⟩ ?_ ?_ ?_
    · rintro i h h' ⟨⟨mC, hn⟩, ⟨ys, cnt, ha, hi⟩, hk⟩ hx
      exact ⟨⟨mC, hn.extBut hx hIC.symm⟩, ⟨ys, cnt, hx _ _ hDI ha, hi⟩, fun b o e => hx b o (below b (Heap.lt_size e)).2.1 (hk b o e)⟩
    · rintro i v h tk E' hv ⟨⟨mC, hn⟩, ⟨ys, cnt, ha, hi⟩, hk⟩ hI hl'
      refine wpAny_mono (turn i v s.heap.objs.size H2.objs.size H1.objs.size h tk mC ys cnt E' hv hDC.symm (fun b o e => ⟨(below b (Heap.lt_size e)).1, (below b (Heap.lt_size e)).2.2⟩) hn ha hi hk) (fun _ s₁ h₁' => wpAny_mono h₁' (fun _ s₂ h₂ => ?_) fun _ _ e => e) fun _ _ e => e
      obtain ⟨rfl, h', tk', mC', ys', cnt', rfl, a, b, c, d⟩ := h₂
      exact ⟨rfl, h', tk', rfl, ⟨⟨mC', a⟩, ⟨ys', cnt', b, c⟩, fun b o e => d b o (below b (Heap.lt_size e)).1 (below b (Heap.lt_size e)).2.2 (hk b o e)⟩, d _ _ hIC hDI.symm hI, d _ _ hll.1 hll.2.2 hl'⟩
    · rintro h tk ⟨⟨mC, hn⟩, ⟨ys, cnt, ha, hi⟩, hk⟩
      refine ⟨mC, hn, fun h' hs' => ?_⟩
      have keep : ∀ b o, s.heap.get? b = some o → h'.get? b = some o := fun b o e => hs'.extBut b o (below b (Heap.lt_size e)).1 (hk b o e)
      have hnone : ∀ b, H1.objs.size = b → s.heap.get? b = none := by
        rintro b rfl
        refine Option.eq_none_iff_forall_ne_some.mpr fun o q => ?_
        exact (below _ (Heap.lt_size q)).2.2 rfl
      refine g H1.objs.size ys cnt h' tk (F.keeps keep) (fun p hp => ?_) (fun p hp e => (below _ (Heap.lt_size (N p hp).1)).2.2 e) hi
      rcases List.mem_cons.mp hp with rfl | hp
      · refine ⟨hs'.extBut _ _ hDC ha, ?_, ?_⟩
        · obtain ⟨oL, _, _, hL, _⟩ := F.ns
          exact fun e => (below _ (Heap.lt_size hL)).2.2 e.symm
        · cases q : h₀.get? H1.objs.size with
          | none => rfl
          | some o =>
            have := F.keep _ _ q
            rw [hnone _ rfl] at this; cases this
      · exact ⟨keep _ _ (N p hp).1, (N p hp).2⟩
  exact codeAny_compStart_list (loop _ rfl) (wpAny_pyIter_listiter ⟨_, hit, rfl, rfl⟩ (loop _ rfl))
theorem appendExact {l : Addr} {vs : List Value} {n : Nat} {x : Value} {Q : Value → Shared → Prop} (hl : s.heap.get? l = some (W.listOf vs.toArray n)) (hz : vs.length ≤ 1000)
    (hQ : ∀ h', h'.get? l = some (W.listOf (List.toArray (vs ++ [x])) (n + 1)) → Heap.SameBut l s.heap h' → Q .none { s with heap := h' }) : wpAny (model prog w) A (call (.builtin "list.append") [.ref l, x]) Q E s := by
  refine append_at (hsz := by rw [sizeLine_eq, List.size_toArray]; omega) hl fun h' hs ho' => hQ h' ?_ hs
  rw [ho', List.push_toArray]
end
end Mine
namespace Mine
section
variable {prog : Program} {w : World} {A : Around} {E : Value → Shared → Prop} {s : Shared} {R : Result → Shared → Prop}
theorem compPairs {env : Env} {xa xb : Str} {pe pa pb pt pos : Pos} {kt : Nat} {iter : Expr} {scope : Scope} {h₀ : Heap} {L l : Addr} {m : Str → Option Value} {news : Led} {vs : List Value} {nn : Nat} {Q : Value → Shared → Prop} {ps : List Run}
    (hh : A.handled = none) (hfree : ∀ x ∈ scope.names, x.2 ≠ .free) (hcell : ∀ y ∈ scope.names, y.2 ≠ .cell) (hkind : scope.kind = .function) (hnames : ∀ x ∈ scope.names, x.2 = .local → scope.names.lookup x.1 = some .local)
    (hs : ∀ x, foldedSetIterable iter env x = pure x) (ha : scope.names.lookup xa = some .local) (hb : scope.names.lookup xb = some .local) (hab : xa ≠ xb) (hdb : (xa == ("__debug__" : Str)) = false)
    (F : Fr h₀ L s.heap m) (N : News h₀ L s.heap news) (hl : (l, W.listOf vs.toArray nn) ∈ news) (heval : ∀ Q' : Value → Shared → Prop, Q' (.ref l) s → wpAny (model prog w) A (eval iter env) Q' E s) (hps : Both (RunIn news) vs ps) (hz : ps.length ≤ 900)
    (g : ∀ D ys n h' tk, Fr h₀ L h' m → News h₀ L h' ((D, W.listOf (List.toArray ys) n) :: news) → (∀ p ∈ news, p.1 ≠ D) → IntsAre ys (ps.map (·.1)) → Q (.ref D) { s with heap := h', toks := tk }) :
    wpAny (model prog w) A (eval (.ListComp (.Name xa pe) [⟨.Tuple [.Name xa pa, .Name xb pb] kt pt, iter, [], 0⟩] scope pos) env) Q E s := by
  have hlen := hps.length
  refine compLed (vs := vs) (nn := nn) (l := l) (rest := []) (blk := fun I C D => (eval (.Name xa pe) (compEnv scope C env) >>= fun x => call (.builtin "list.append") [.ref D, x] >>= fun _ => pure ()) >>= fun _ => again (.compLoop (.ListComp (.Name xa pe) [⟨.Tuple [.Name xa pa, .Name xb pb] kt pt, iter, [], 0⟩] scope pos) 0 (.ref I) (.ref D) (compEnv scope C env))) (fun i => (ps.take i).map (·.1)) hh hfree hcell hkind hnames hs (fun _ _ _ => rfl) F N hl heval rfl ?_ ?_
  · intro i v I C D h tk mC ys cnt E' hv hCD hold hn hacc hi hk
    obtain ⟨p, hp, a, t1, t2, n, rfl, hmem⟩ := hps.get hv
    have hT : h.get? a = some (tupO [.int p.1 t1, .int p.2 t2] n) := hk _ _ (N _ hmem).1
    have hf : (ps.take (i + 1)).map (·.1) = (ps.take i).map (·.1) ++ [p.1] := by rw [List.take_add_one, hp]; simp
    have hyl : ys.length ≤ 1000 := by rw [hi.length, List.length_map, List.length_take]; omega
    have hpc : ((compEnv scope C env).scope.kind == .class || ((compEnv scope C env).scope.kind == .module && (compEnv scope C env).locals != (compEnv scope C env).globals)) = false := by
      show (scope.kind == .class || (scope.kind == .module && _)) = false
      rw [hkind]; rfl
    refine wpAny_assign_Tuple (items := #[.int p.1 t1, .int p.2 t2]) hh ⟨_, hT, rfl, n, rfl⟩ rfl rfl fun h1 hx1 => ?_
    have keep1 : ∀ b o, h.get? b = some o → h1.get? b = some o := fun b o e => hx1 b o (Nat.ne_of_lt (Heap.lt_size e)) e
    have hn1 : h1.Ns C mC := by obtain ⟨oL, x1, x2, hL, r⟩ := hn; exact ⟨oL, x1, x2, keep1 _ _ hL, r⟩
    refine wpAny_assignInOrder_more (wpAny_assign_Name (wpAny_storeName_local (env := compEnv scope C env) ha hn1 (fun h2 hn2 hs2 => ?_) hpc))
    refine wpAny_assignInOrder_more (wpAny_assign_Name (wpAny_storeName_local (env := compEnv scope C env) hb hn2 (fun h3 hn3 hs3 => ?_) hpc))
    refine wpAny_assignInOrder_none ?_
    refine wpAny_bind (wpAny_bind (wpAny_Name (wpAny_loadName_local (env := compEnv scope C env) (v := .int p.1 t1) hkind ha hn3 (by rw [if_neg hab]; exact if_pos rfl) ?_) hdb))
    have hacc3 : h3.get? D = some (W.listOf ys.toArray cnt) := (hs3.2 D (fun e => hCD e.symm)).trans ((hs2.2 D (fun e => hCD e.symm)).trans (keep1 _ _ hacc))
    refine wpAny_bind (appendExact hacc3 hyl fun h4 ha4 hs4 => ?_)
    refine wpAny_pure (wpAny_pure ⟨rfl, h4, _, _, ys ++ [.int p.1 t1], cnt + 1, rfl, (hn3.extBut hs4.extBut hCD), ha4, by rw [hf]; exact IntsAre.append hi (.cons _ _ .nil), fun b o hbC hbD e => ?_⟩)
    exact hs4.extBut b o hbD (hs3.extBut b o hbC (hs2.extBut b o hbC (keep1 b o e)))
  · intro D ys n h' tk F' N' hD hi
    rw [hlen, List.take_length] at hi
    exact g D ys n h' tk F' N' hD hi
end
end Mine
end
/-! part C6 -/
section
theorem Mine.offC6 : True := by (w_top off; trivial)
open PySem PySem.W PySem.Calls PyProof.Rows
namespace Mine
section
variable {prog : Program} {w : World} {A : Around} {E : Value → Shared → Prop} {s : Shared} {R : Result → Shared → Prop}
theorem compTurn_inner (elt t1 i1 t2 i2 : Expr) (scope : Scope) (pos : Pos) (it acc : Value) (env : Env) :
    compTurn (.ListComp elt [⟨t1, i1, [], 0⟩, ⟨t2, i2, [], 0⟩] scope pos) 1 it acc env = (standAt i2.pos >>= fun _ => pyNext it >>= fun r => match r with
      | none => pure (.done .next)
      | some v => letOwnedTupleGo t2 it v >>= fun _ => assign t2 env v >>= fun _ =>
        (eval elt env >>= fun x => call (.builtin "list.append") [acc, x] >>= fun _ => pure ()) >>= fun _ =>
          again (.compLoop (.ListComp elt [⟨t1, i1, [], 0⟩, ⟨t2, i2, [], 0⟩] scope pos) 1 it acc env)) := by rfl
theorem compTurn_outer (elt t1 i1 t2 i2 : Expr) (scope : Scope) (pos : Pos) (it acc : Value) (env : Env) :
    compTurn (.ListComp elt [⟨t1, i1, [], 0⟩, ⟨t2, i2, [], 0⟩] scope pos) 0 it acc env = (standAt i1.pos >>= fun _ => pyNext it >>= fun r => match r with
      | none => pure (.done .next)
      | some v => letOwnedTupleGo t1 it v >>= fun _ => assign t1 env v >>= fun _ =>
        eval i2 env >>= fun x => standAt i2.pos >>= fun _ => foldedSetIterable i2 env x >>= fun x => holding [x] (pyIter x) >>= fun it' => runOwn (.compStart (.ListComp elt [⟨t1, i1, [], 0⟩, ⟨t2, i2, [], 0⟩] scope pos) 1 it' acc env) env >>= fun _ =>
          again (.compLoop (.ListComp elt [⟨t1, i1, [], 0⟩, ⟨t2, i2, [], 0⟩] scope pos) 0 it acc env)) := by rfl
theorem compStart1 {elt t1 i1 t2 i2 : Expr} {scope : Scope} {pos : Pos} {it acc : Value} {env : Env}
    (h0 : codeAny (model prog w) A (.compLoop (.ListComp elt [⟨t1, i1, [], 0⟩, ⟨t2, i2, [], 0⟩] scope pos) 1 it acc env) R s)
    (h : wpAny (model prog w) A (pyIter it) (fun it' s' => codeAny (model prog w) A (.compLoop (.ListComp elt [⟨t1, i1, [], 0⟩, ⟨t2, i2, [], 0⟩] scope pos) 1 it' acc env) R s')
      (notedBy (model prog w) A env fun x s' => R (.error x) s') s) :
    codeAny (model prog w) A (.compStart (.ListComp elt [⟨t1, i1, [], 0⟩, ⟨t2, i2, [], 0⟩] scope pos) 1 it acc env) R s := by
  refine codeAny_of_tree ?_
  show wpAny _ _ ((compStart (.ListComp elt [⟨t1, i1, [], 0⟩, ⟨t2, i2, [], 0⟩] scope pos) 1 it acc env).onRaise (fun x => do noteFrame x env; standAt theWindowsPlace)) _ _ s
  refine wpAny_notedAt ?_
  unfold compStart
  show wpAny _ _ (ask >>= _) _ _ s
  refine wpAny_bind (wpAny_askSetting (wpAny_ite ?_))
  split
  · first
      | exact wpAny_bind (wpAny_pure (wpAny_pure (And.intro rfl h0)))
      | exact wpAny_pure (And.intro rfl h0)
  · first
      | exact wpAny_bind (wpAny_rule (wpAny_bind (wpAny_standAt (wpAny_bind (wpAny_mono h (fun it' s' h' => wpAny_pure (And.intro rfl h')) fun _ _ x => x)))))
      | (refine wpAny_bind (wpAny_rule ?_); show wpAny _ _ (standAt i2.pos >>= _) _ _ s; exact wpAny_bind (wpAny_standAt (wpAny_bind (wpAny_mono h (fun it' s' h' => wpAny_pure (And.intro rfl h')) fun _ _ x => x))))
theorem compInner {t1 i1 i2 : Expr} {xo : Str} {pe po : Pos} {scope : Scope} {pos : Pos} {env : Env} {J T C D : Addr} {m : Str → Option Value} {items : List Value} {ns old : List Int} {ys : List Value} {cnt : Nat}
    (hh : A.handled = none) (hkind : scope.kind = .function) (ho : scope.names.lookup xo = some .local) (hdb : (xo == ("__debug__" : Str)) = false)
    (hJC : J ≠ C) (hJD : J ≠ D) (hTJ : T ≠ J) (hTC : T ≠ C) (hTD : T ≠ D) (hCD : C ≠ D) (hit : IsTupIter s.heap J T 0) (ht : IsTup s.heap T items.toArray) (hi : IntsAre items ns)
    (hn : s.heap.Ns C m) (hacc : s.heap.get? D = some (W.listOf ys.toArray cnt)) (hys : IntsAre ys old) (hz : old.length + ns.length ≤ 900)
    (hR : ∀ h' tk m' ys' cnt', h'.Ns C m' → h'.get? D = some (W.listOf (List.toArray ys') cnt') → IntsAre ys' (old ++ ns) → (∀ b o, b ≠ C → b ≠ D → b ≠ J → s.heap.get? b = some o → h'.get? b = some o) → R (.ok .next) { s with heap := h', toks := tk }) :
    codeAny (model prog w) A (.compLoop (.ListComp (.Name xo pe) [⟨t1, i1, [], 0⟩, ⟨.Name xo po, i2, [], 0⟩] scope pos) 1 (.ref J) (.ref D) (compEnv scope C env)) R s := by
  have hlen := hi.length
  have hpc : ((compEnv scope C env).scope.kind == .class || ((compEnv scope C env).scope.kind == .module && (compEnv scope C env).locals != (compEnv scope C env).globals)) = false := by
    show (scope.kind == .class || (scope.kind == .module && _)) = false
    rw [hkind]; rfl
  refine codeAny_loop rfl (fun k s' => ∃ h tk i m' ys' cnt', s' = { s with heap := h, toks := tk } ∧ IsTupIter h J T i ∧ IsTup h T items.toArray ∧ h.Ns C m' ∧ h.get? D = some (W.listOf (List.toArray ys') cnt') ∧ IntsAre ys' (old ++ ns.take i) ∧
      (∀ b o, b ≠ C → b ≠ D → b ≠ J → s.heap.get? b = some o → h.get? b = some o) ∧ i ≤ ns.length ∧ k = ns.length - i) (fun k s' hI => ?_) ns.length
    ⟨s.heap, s.toks, 0, m, ys, cnt, rfl, hit, ht, hn, hacc, by simpa using hys, fun _ _ _ _ _ e => e, Nat.zero_le _, rfl⟩
  obtain ⟨h, tk, i, m', ys', cnt', rfl, hit', ht', hn', hacc', hys', hk, hin, rfl⟩ := hI
  show wpAny _ _ ((compTurn _ 1 (.ref J) (.ref D) (compEnv scope C env)).onRaise (fun x => do noteFrame x _; theTreesLotGoes x)) _ _ _
  refine wpAny_noted ?_
  rw [compTurn_inner]
  refine wpAny_bind (wpAny_standAt (wpAny_bind ?_))
  by_cases hlt : i < ns.length
  · obtain ⟨t, hx⟩ := hi.get i _ (List.getElem?_eq_getElem hlt)
    have htk : ns.take (i + 1) = ns.take i ++ [ns[i]] := by rw [List.take_add_one, List.getElem?_eq_getElem hlt]; rfl
    have hyl : ys'.length ≤ 1000 := by rw [hys'.length, List.length_append, List.length_take]; omega
    refine next_tuple_item hit' ht' (by simpa using hx) fun h1 hit1 hs1 => ?_
    refine wpAny_bind (wpAny_of_eq (a := ()) rfl ?_)
    have hn1 : h1.Ns C m' := hn'.extBut hs1.extBut hJC.symm
    refine wpAny_bind (wpAny_assign_Name (wpAny_storeName_local (env := compEnv scope C env) ho hn1 (fun h2 hn2 hs2 => ?_) hpc))
    refine wpAny_bind (wpAny_bind (wpAny_Name (wpAny_loadName_local (env := compEnv scope C env) (v := .int ns[i] t) hkind ho hn2 (if_pos rfl) ?_) hdb))
    have hacc2 : h2.get? D = some (W.listOf ys'.toArray cnt') := (hs2.2 D hCD.symm).trans ((hs1.2 D hJD.symm).trans hacc')
    refine wpAny_bind (appendExact hacc2 hyl fun h3 ha3 hs3 => ?_)
    obtain ⟨oi, hoi, ri⟩ := hit1
    obtain ⟨ot, hot, rt⟩ := ht'
    refine wpAny_pure (wpAny_pure ⟨rfl, ns.length - (i + 1), by omega, h3, _, i + 1, _, ys' ++ [.int ns[i] t], cnt' + 1, rfl, ⟨oi, (hs3.2 J hJD).trans ((hs2.2 J hJC).trans hoi), ri⟩, ⟨ot, (hs3.2 T hTD).trans ((hs2.2 T hTC).trans ((hs1.2 T hTJ).trans hot)), rt⟩, hn2.extBut hs3.extBut hCD, ha3,
      by rw [htk, ← List.append_assoc]; exact IntsAre.append hys' (.cons _ _ .nil), fun b o hbC hbD hbJ e => (hs3.2 b hbD).trans ((hs2.2 b hbC).trans ((hs1.2 b hbJ).trans (hk b o hbC hbD hbJ e))), hlt, rfl⟩)
  · have hin' : i = ns.length := by omega
    subst hin'
    refine next_tuple_end hh hit' ht' (by simp [hlen]) fun h1 hx => ?_
    rw [List.take_length] at hys'
    exact wpAny_pure (hR h1 tk m' ys' cnt' (hn'.extBut hx hJC.symm) (hx D _ hJD.symm hacc') hys' fun b o hbC hbD hbJ e => hx b o hbJ (hk b o hbC hbD hbJ e))
end
end Mine
namespace Mine
section
variable {prog : Program} {w : World} {A : Around} {E : Value → Shared → Prop} {s : Shared}
def octs (x : Int) : List Int := [x / 65536, x / 256 % 256, x % 256]
set_option maxHeartbeats 4000000 in
theorem octTuple {env : Env} {scope : Scope} {xt : Str} {a1 a2 a3 b1 b2 b3 b4 c1 c2 c3 c4 pt : Pos} {kt k1 k2 k3 k4 : Nat} {C : Addr} {mC : Str → Option Value} {x : Int} {t : Tok} {Q : Value → Shared → Prop}
    (hkind : scope.kind = .function) (ht : scope.names.lookup xt = some .local) (hdb : (xt == ("__debug__" : Str)) = false) (hn : s.heap.Ns C mC) (hx : mC xt = some (.int x t))
    (h : ∀ t1 t2 t3 tk, Q (.ref s.heap.objs.size) { s with heap := s.heap.push (tupO [.int (x / 65536) t1, .int (x / 256 % 256) t2, .int (x % 256) t3] 0), toks := tk }) :
    wpAny (model prog w) A (eval (.Tuple [.BinOp (.Name xt a1) .FloorDiv (.Constant (.int 65536) k1 b1) c1, .BinOp (.BinOp (.Name xt a2) .FloorDiv (.Constant (.int 256) k2 b2) c2) .Mod (.Constant (.int 256) k3 b3) c3, .BinOp (.Name xt a3) .Mod (.Constant (.int 256) k4 b4) c4] kt pt) (compEnv scope C env)) Q E s := by
  obtain ⟨hp, gs, dr, tk0, os0⟩ := s
  dsimp only at hn h
  have e1 : x.fdiv 65536 = x / 65536 := Int.fdiv_eq_ediv_of_nonneg _ (by decide)
  have e2 : (x.fdiv 256).fmod 256 = x / 256 % 256 := by rw [Int.fdiv_eq_ediv_of_nonneg _ (by decide), Int.fmod_eq_emod_of_nonneg _ (by decide)]
  have e3 : x.fmod 256 = x % 256 := Int.fmod_eq_emod_of_nonneg _ (by decide)
  refine Tuple_ (spliced_more (wpAny_BinOp (wpAny_Name (wpAny_loadName_local (env := compEnv scope C env) hkind ht hn hx ?_) hdb)))
  refine wpAny_Constant_int (PyProof.Rows.floordiv_int (by decide) ?_ (Or.inl (PyProof.noPylong_small (by decide))))
  refine spliced_more (wpAny_BinOp (wpAny_BinOp (wpAny_Name (wpAny_loadName_local (env := compEnv scope C env) hkind ht hn hx ?_) hdb)))
  refine wpAny_Constant_int (PyProof.Rows.floordiv_int (by decide) ?_ (Or.inl (PyProof.noPylong_small (by decide))))
  refine wpAny_Constant_int (PyProof.Rows.mod_int' (by decide) ?_)
  refine spliced_more (wpAny_BinOp (wpAny_Name (wpAny_loadName_local (env := compEnv scope C env) hkind ht hn hx ?_) hdb))
  refine wpAny_Constant_int (PyProof.Rows.mod_int' (by decide) ?_)
  refine spliced_none ?_
  unfold newTuple
  refine wpAny_newObj_type ?_ (by size_fits)
  rw [e1, e2, e3]
  dsimp only
  exact h (tk0 + 1) (tk0 + 1 + 1 + 1 + 1 + 1) (tk0 + 1 + 1 + 1 + 1 + 1 + 1 + 1) (tk0 + 1 + 1 + 1 + 1 + 1 + 1 + 1 + 1)
set_option maxHeartbeats 4000000 in
theorem compOcts {env : Env} {xt xo : Str} {pe p1 po pos a1 a2 a3 b1 b2 b3 b4 c1 c2 c3 c4 pt : Pos} {kt k1 k2 k3 k4 : Nat} {iter : Expr} {scope : Scope} {h₀ : Heap} {L l : Addr} {m : Str → Option Value} {news : Led} {vs : List Value} {nn : Nat} {Q : Value → Shared → Prop} {pg : List Int}
    (hh : A.handled = none) (hfree : ∀ x ∈ scope.names, x.2 ≠ .free) (hcell : ∀ y ∈ scope.names, y.2 ≠ .cell) (hkind : scope.kind = .function) (hnames : ∀ x ∈ scope.names, x.2 = .local → scope.names.lookup x.1 = some .local)
    (hs : ∀ x, foldedSetIterable iter env x = pure x) (ht : scope.names.lookup xt = some .local) (ho : scope.names.lookup xo = some .local) (hdb1 : (xt == ("__debug__" : Str)) = false) (hdb2 : (xo == ("__debug__" : Str)) = false)
    (F : Fr h₀ L s.heap m) (N : News h₀ L s.heap news) (hl : (l, W.listOf vs.toArray nn) ∈ news) (heval : ∀ Q' : Value → Shared → Prop, Q' (.ref l) s → wpAny (model prog w) A (eval iter env) Q' E s) (hi : IntsAre vs pg) (hz : pg.length ≤ 100)
    (g : ∀ D ys n h' tk, Fr h₀ L h' m → News h₀ L h' ((D, W.listOf (List.toArray ys) n) :: news) → (∀ p ∈ news, p.1 ≠ D) → IntsAre ys (pg.flatMap octs) → Q (.ref D) { s with heap := h', toks := tk }) :
    wpAny (model prog w) A (eval (.ListComp (.Name xo pe) [⟨.Name xt p1, iter, [], 0⟩, ⟨.Name xo po, .Tuple [.BinOp (.Name xt a1) .FloorDiv (.Constant (.int 65536) k1 b1) c1, .BinOp (.BinOp (.Name xt a2) .FloorDiv (.Constant (.int 256) k2 b2) c2) .Mod (.Constant (.int 256) k3 b3) c3, .BinOp (.Name xt a3) .Mod (.Constant (.int 256) k4 b4) c4] kt pt, [], 0⟩] scope pos) env) Q E s := by
  have hlen := hi.length
  have ofl : ∀ l : List Int, (l.flatMap octs).length = 3 * l.length := by
    intro l
    induction l with
    | nil => rfl
    | cons a l ih => rw [List.flatMap_cons, List.length_append, ih, List.length_cons]; show 3 + _ = _; omega
  refine compLed (vs := vs) (nn := nn) (l := l) (fun i => (pg.take i).flatMap octs) hh hfree hcell hkind hnames hs (fun I C D => compTurn_outer _ _ _ _ _ _ _ _ _ _) F N hl heval rfl ?_ ?_
  · intro i v I C D h tk mC ys cnt E' hv hCD hold hn hacc hys hk
    have hil : i < pg.length := by have := (List.getElem?_eq_some_iff.mp hv).1; omega
    obtain ⟨t, hx⟩ := hi.get i _ (List.getElem?_eq_getElem hil)
    rw [hx] at hv
    cases hv
    have htk : pg.take (i + 1) = pg.take i ++ [pg[i]] := by rw [List.take_add_one, List.getElem?_eq_getElem hil]; rfl
    have hpc : ((compEnv scope C env).scope.kind == .class || ((compEnv scope C env).scope.kind == .module && (compEnv scope C env).locals != (compEnv scope C env).globals)) = false := by
      show (scope.kind == .class || (scope.kind == .module && _)) = false
      rw [hkind]; rfl
    refine wpAny_assign_Name (wpAny_storeName_local (env := compEnv scope C env) ht hn (fun h1 hn1 hs1 => ?_) hpc)
    refine wpAny_bind (octTuple hkind ht hdb1 hn1 (if_pos rfl) fun t1 t2 t3 tk1 => ?_)
    dsimp only
    refine wpAny_bind (wpAny_standAt (wpAny_bind (wpAny_of_eq rfl (wpAny_bind (wpAny_holding ?_)))))
    refine iter_tuple (t := h1.objs.size) (items := #[.int (pg[i] / 65536) t1, .int (pg[i] / 256 % 256) t2, .int (pg[i] % 256) t3]) ⟨_, Heap.get?_push_size _ rfl, rfl, 0, rfl⟩ ?_
    dsimp only
    have hD1 : h1.get? D = some (W.listOf ys.toArray cnt) := (hs1.2 D hCD.symm).trans hacc
    have hCl : C < h1.objs.size := hn1.lt
    have hDl : D < h1.objs.size := Heap.lt_size hD1
    refine wpAny_bind (wpAny_runOwn ?_)
    generalize hH1 : h1.push (tupO [.int (pg[i] / 65536) t1, .int (pg[i] / 256 % 256) t2, .int (pg[i] % 256) t3] 0) = H1
    have hsz1 : H1.objs.size = h1.objs.size + 1 := by rw [← hH1, Heap.size_push]
    have up1 : ∀ b o, h1.get? b = some o → H1.get? b = some o := fun b o e => hH1 ▸ Heap.get?_push_of_some _ e
    have hTt : H1.get? h1.objs.size = some (tupO [.int (pg[i] / 65536) t1, .int (pg[i] / 256 % 256) t2, .int (pg[i] % 256) t3] 0) := hH1 ▸ Heap.get?_push_size _ rfl
    have up2 : ∀ b o, H1.get? b = some o → (H1.push { cls := .type "tuple_iterator", data := .fields #[.ref h1.objs.size, .int 0 0] }).get? b = some o := fun b o e => Heap.get?_push_of_some _ e
    have inner : codeAny (model prog w) A (.compLoop (.ListComp (.Name xo pe) [⟨.Name xt p1, iter, [], 0⟩, ⟨.Name xo po, .Tuple [.BinOp (.Name xt a1) .FloorDiv (.Constant (.int 65536) k1 b1) c1, .BinOp (.BinOp (.Name xt a2) .FloorDiv (.Constant (.int 256) k2 b2) c2) .Mod (.Constant (.int 256) k3 b3) c3, .BinOp (.Name xt a3) .Mod (.Constant (.int 256) k4 b4) c4] kt pt, [], 0⟩] scope pos) 1 (.ref H1.objs.size) (.ref D) (compEnv scope C env))
        (fun r s' => match r with
          | .ok f => wpAny (model prog w) A (again (.compLoop (.ListComp (.Name xo pe) [⟨.Name xt p1, iter, [], 0⟩, ⟨.Name xo po, .Tuple [.BinOp (.Name xt a1) .FloorDiv (.Constant (.int 65536) k1 b1) c1, .BinOp (.BinOp (.Name xt a2) .FloorDiv (.Constant (.int 256) k2 b2) c2) .Mod (.Constant (.int 256) k3 b3) c3, .BinOp (.Name xt a3) .Mod (.Constant (.int 256) k4 b4) c4] kt pt, [], 0⟩] scope pos) 0 (.ref I) (.ref D) (compEnv scope C env))) (fun fin s₂ => fin = .again (.compLoop (.ListComp (.Name xo pe) [⟨.Name xt p1, iter, [], 0⟩, ⟨.Name xo po, .Tuple [.BinOp (.Name xt a1) .FloorDiv (.Constant (.int 65536) k1 b1) c1, .BinOp (.BinOp (.Name xt a2) .FloorDiv (.Constant (.int 256) k2 b2) c2) .Mod (.Constant (.int 256) k3 b3) c3, .BinOp (.Name xt a3) .Mod (.Constant (.int 256) k4 b4) c4] kt pt, [], 0⟩] scope pos) 0 (.ref I) (.ref D) (compEnv scope C env)) ∧ ∃ h' tk' mC' ys' cnt', s₂ = { s with heap := h', toks := tk' } ∧ h'.Ns C mC' ∧ h'.get? D = some (W.listOf (List.toArray ys') cnt') ∧ IntsAre ys' ((pg.take (i + 1)).flatMap octs) ∧ (∀ b o, b ≠ C → b ≠ D → h.get? b = some o → h'.get? b = some o)) E' s'
          | .error e => cameBackBy (model prog w) A (compEnv scope C env) E' e s') { s with heap := H1.push { cls := .type "tuple_iterator", data := .fields #[.ref h1.objs.size, .int 0 0] }, toks := tk1 } := by
      refine compInner (T := h1.objs.size) (items := [.int (pg[i] / 65536) t1, .int (pg[i] / 256 % 256) t2, .int (pg[i] % 256) t3]) (ns := octs pg[i]) (old := (pg.take i).flatMap octs) (ys := ys) (cnt := cnt) hh hkind ho hdb2 (by rw [hsz1]; exact Nat.ne_of_gt (Nat.lt_succ_of_lt hCl)) (by rw [hsz1]; exact Nat.ne_of_gt (Nat.lt_succ_of_lt hDl)) (by rw [hsz1]; exact Nat.ne_of_lt (Nat.lt_succ_self _)) (Nat.ne_of_gt hCl) (Nat.ne_of_gt hDl) hCD
        ⟨_, Heap.get?_push_size _ rfl, rfl, rfl⟩ ⟨_, up2 _ _ hTt, rfl, 0, rfl⟩ (.cons _ _ (.cons _ _ (.cons _ _ .nil))) (m := fun y => if y = xt then some (.int pg[i] t) else mC y) ?_ (up2 _ _ (up1 _ _ hD1)) hys ?_ ?_
      · obtain ⟨oL, x1, x2, hL, r⟩ := hn1
        exact ⟨oL, x1, x2, up2 _ _ (up1 _ _ hL), r⟩
      · rw [ofl, List.length_take]; show _ + 3 ≤ _; omega
      · intro h' tk' m' ys' cnt' a b c d
        refine wpAny_pure ⟨rfl, h', tk', m', ys', cnt', rfl, a, b, ?_, fun b' o hbC hbD e => ?_⟩
        · rw [htk, List.flatMap_append, List.flatMap_cons, List.flatMap_nil, List.append_nil]; exact c
        · have e1 := (hs1.2 b' hbC).trans e
          have hlt := Heap.lt_size e1
          exact d b' o hbC hbD (by rw [hsz1]; exact Nat.ne_of_lt (Nat.lt_succ_of_lt hlt)) (up2 _ _ (up1 _ _ e1))
    exact compStart1 inner (wpAny_pyIter_tupleiter (i := 0) (t := h1.objs.size) ⟨_, Heap.get?_push_size _ rfl, rfl, rfl⟩ inner)
  · intro D ys n h' tk F' N' hD hys
    rw [hlen, List.take_length] at hys
    exact g D ys n h' tk F' N' hD hys
end
end Mine
end
/-! part B16 -/
section
theorem Mine.offB16 : True := by (w_top off; trivial)
namespace Mine
local macro_rules | `(tactic| k_room) => `(tactic| ktr_room)
local macro_rules | `(tactic| walk_at "call type:type") => `(tactic| (k_here; (with_reducible show wpAny _ _ (call (Value.type "type") [_]) _ _ _); first | refine call_type_of (Tx := "bytes") rfl (by decide +kernel) ?_ | refine call_type_of (Tx := "bool") rfl (by decide +kernel) ?_ | refine call_type_of (Tx := "int") rfl (by decide +kernel) ?_))
local macro_rules | `(tactic| walk_at "getMethod bytes") => `(tactic| (k_here; first | with_reducible refine get_hex ?_ | with_reducible refine get_upper ?_))
local macro_rules | `(tactic| walk_at "getMethod str") => `(tactic| (k_here; with_reducible refine get_encode ?_))
local macro_rules | `(tactic| walk_at "call builtin:bytes.hex") => `(tactic| (k_here; (refine call_hex (by first | assumption | (simp only [hexOut_size] at *; omega)) ?_); intro _ _))
local macro_rules | `(tactic| walk_at "call builtin:str.encode") => `(tactic| (k_here; (refine call_encode (hexOut_small _) (by (show (hexOut _).size ≤ 1000); simp only [hexOut_size] at *; omega) (by (show 0 < (hexOut _).size); simp only [hexOut_size] at *; omega) ?_); intro _ _))
local macro_rules | `(tactic| walk_at "call builtin:bytes.upper") => `(tactic| (k_here; (refine call_upper (by simp only [Array.size_map, hexOut_size] at *; omega) ?_); intro _ _))
local macro_rules | `(tactic| walk_at "subscriptTail") => `(tactic| (k_here; (with_reducible show wpAny _ _ (subscriptTail _ _ (Value.bytes (List.toArray _) _) (Value.int (Builtin.bitAnd _ 63) _)) _ _ _); k_dflt (refine' bytes_item_K ?f ?a ?b ?e ?_; (case f => kby_size); (case a => exact (bitAnd63 _).1); (case b => exact (bitAnd63 _).2); (case e => exact rfl); k_whole)))
local macro_rules | `(tactic| k_all) => `(tactic| assumption)
local macro_rules | `(tactic| size_fits) => `(tactic| (simp only [PySem.sizeLine_eq, Array.size_push, List.size_toArray, List.length_append, List.length_cons, List.length_nil]; omega))
local macro_rules | `(tactic| walk_at "call type:bytes") => `(tactic| (k_here; (with_reducible show wpAny _ _ (call (Value.type _) [Value.ref _]) _ _ _); k_dflt (refine' bytes_K ?F ?N ?l ?i ?r ?z ?h ?_; (case F => k_asm); (case N => k_asm); (case l => is_list); (case i => assumption); (case r => assumption); (case z => size_fits); (case h => with_unfolding_all rfl); k_whole); intro h' t' k' F' N' hB'; clear hB'))
local macro_rules | `(tactic| walk_at "pyIter bytes") => `(tactic| (k_here; (with_reducible show wpAny _ _ (pyIter (Value.bytes _ _)) (CompPost _ _ _ _ _ _ _ _ _) _ _); k_dflt (refine' comp_bytes_id ?hh ?F ?N ?hk ?hl ?hd ?hz ?_; (case hh => exact rfl); (case F => k_asm); (case N => k_asm); (case hk => exact rfl); (case hl => exact fun _ => rfl); (case hd => decide); (case hz => omega); k_whole); intro D' vs' n' h' tk' F' N' hne' hi'))
local macro_rules | `(tactic| walk_at "inplaceOp LShift int int") => `(tactic| (k_here; refine PyProof.Rows.ilshift_int (by decide) (by assumption) ?_))
local macro_rules | `(tactic| walk_at "call builtin:iter") => `(tactic| (k_here; (with_reducible show wpAny _ _ (call (Value.builtin "iter") [Value.ref _]) _ _ _); k_dflt (refine' call_iter ?F ?N ?p ?_; (case F => k_asm); (case N => k_asm); (case p => k_mem)); intro I' h' F' N' l1))
local macro_rules | `(tactic| walk_at "binaryOp Pow int int") => `(tactic| (k_here; refine PyProof.Rows.pow_int_small (by first | assumption | omega) (by first | assumption | omega) (by decide) ?_))
local macro_rules | `(tactic| walk_at "binaryOp Mult int int") => `(tactic| (k_here; refine PyProof.Rows.mul_int ?_ (by assumption)))
local macro_rules | `(tactic| walk_at "binaryOp Add ref ref") => `(tactic| (k_here; k_dflt (refine' addLed ?F ?N ?a ?b ?z ?_; (case F => k_asm); (case N => k_asm); (case a => k_mem); (case b => k_mem); (case z => simp only [List.length_append]; omega)); intro D' h' F' N' l1; (try k_lt l1)))
set_option maxRecDepth 100000 in
set_option maxHeartbeats 8000000 in
theorem b16_con (w : World) (mean : ExcName → Option Value) (mg mb : Str → Option Value) (b : Array UInt8) (t : Tok) :
    Con w mean mg mb 74 [.bytes b t] [] 10 100 (fun _ => 0 < b.size ∧ b.size ≤ 100) (fun _ r => ∃ t', r = .bytes (hex16 b) t') := by
  unfold Con
  k_fill
  intro dp un gd cn cs a ccd cl outer A₀ base h₀ L m news s Q E B F X N T hk hR hd hu hret
  obtain ⟨hb0, hb1⟩ := hR
  refine wpAny_call ?_
  k_dflt ktr_enter
  k_steps
  exact hret _ [] _ _ (by k_asm) (by k_asm) (fun _ _ _ h9 => nomatch h9) ⟨_, rfl⟩

end Mine
end
/-! part B64 -/
section
theorem Mine.offB64 : True := by (w_top off; trivial)
namespace Mine
local macro_rules | `(tactic| walk_at "never") => `(tactic| fail)
local macro_rules | `(tactic| k_room) => `(tactic| ktr_room)
local macro_rules | `(tactic| walk_at "call type:type") => `(tactic| (k_here; (with_reducible show wpAny _ _ (call (Value.type "type") [_]) _ _ _); first | refine call_type_of (Tx := "bytes") rfl (by decide +kernel) ?_ | refine call_type_of (Tx := "bool") rfl (by decide +kernel) ?_ | refine call_type_of (Tx := "int") rfl (by decide +kernel) ?_))
local macro_rules | `(tactic| walk_at "getMethod bytes") => `(tactic| (k_here; first | with_reducible refine get_hex ?_ | with_reducible refine get_upper ?_))
local macro_rules | `(tactic| walk_at "getMethod str") => `(tactic| (k_here; with_reducible refine get_encode ?_))
local macro_rules | `(tactic| walk_at "call builtin:bytes.hex") => `(tactic| (k_here; (refine call_hex (by first | assumption | (simp only [hexOut_size] at *; omega)) ?_); intro _ _))
local macro_rules | `(tactic| walk_at "call builtin:str.encode") => `(tactic| (k_here; (refine call_encode (hexOut_small _) (by (show (hexOut _).size ≤ 1000); simp only [hexOut_size] at *; omega) (by (show 0 < (hexOut _).size); simp only [hexOut_size] at *; omega) ?_); intro _ _))
local macro_rules | `(tactic| walk_at "call builtin:bytes.upper") => `(tactic| (k_here; (refine call_upper (by simp only [Array.size_map, hexOut_size] at *; omega) ?_); intro _ _))
local macro_rules | `(tactic| walk_at "subscriptTail") => `(tactic| (k_here; (with_reducible show wpAny _ _ (subscriptTail _ _ (Value.bytes (List.toArray _) _) (Value.int (Builtin.bitAnd _ 63) _)) _ _ _); k_dflt (refine' bytes_item_K ?f ?a ?b ?e ?_; (case f => kby_size); (case a => exact (bitAnd63 _).1); (case b => exact (bitAnd63 _).2); (case e => exact rfl); k_whole)))
local macro_rules | `(tactic| k_all) => `(tactic| assumption)
local macro_rules | `(tactic| size_fits) => `(tactic| (simp only [PySem.sizeLine_eq, Array.size_push, List.size_toArray, List.length_append, List.length_cons, List.length_nil]; omega))
local macro_rules | `(tactic| walk_at "call type:bytes") => `(tactic| (k_here; (with_reducible show wpAny _ _ (call (Value.type _) [Value.ref _]) _ _ _); k_dflt (refine' bytes_K ?F ?N ?l ?i ?r ?z ?h ?_; (case F => k_asm); (case N => k_asm); (case l => is_list); (case i => assumption); (case r => assumption); (case z => size_fits); (case h => with_unfolding_all rfl); k_whole); intro h' t' k' F' N' hB'; clear hB'))
local macro_rules | `(tactic| walk_at "pyIter bytes") => `(tactic| (k_here; (with_reducible show wpAny _ _ (pyIter (Value.bytes _ _)) (CompPost _ _ _ _ _ _ _ _ _) _ _); k_dflt (refine' comp_bytes_id ?hh ?F ?N ?hk ?hl ?hd ?hz ?_; (case hh => exact rfl); (case F => k_asm); (case N => k_asm); (case hk => exact rfl); (case hl => exact fun _ => rfl); (case hd => decide); (case hz => omega); k_whole); intro D' vs' n' h' tk' F' N' hne' hi'))
local macro_rules | `(tactic| walk_at "inplaceOp LShift int int") => `(tactic| (k_here; refine PyProof.Rows.ilshift_int (by decide) (by assumption) ?_))
local macro_rules | `(tactic| walk_at "call builtin:iter") => `(tactic| (k_here; (with_reducible show wpAny _ _ (call (Value.builtin "iter") [Value.ref _]) _ _ _); k_dflt (refine' call_iter ?F ?N ?p ?_; (case F => k_asm); (case N => k_asm); (case p => k_mem)); intro I' h' F' N' l1))
local macro_rules | `(tactic| walk_at "binaryOp Pow int int") => `(tactic| (k_here; refine PyProof.Rows.pow_int_small (by first | assumption | omega) (by first | assumption | omega) (by decide) ?_))
local macro_rules | `(tactic| walk_at "binaryOp Mult int int") => `(tactic| (k_here; refine PyProof.Rows.mul_int ?_ (by assumption)))
local macro_rules | `(tactic| walk_at "binaryOp Add ref ref") => `(tactic| (k_here; k_dflt (refine' addLed ?F ?N ?a ?b ?z ?_; (case F => k_asm); (case N => k_asm); (case a => k_mem); (case b => k_mem); (case z => simp only [List.length_append]; omega)); intro D' h' F' N' l1; (try k_lt l1)))
theorem close64 {h₀ h' : Heap} {L l : Addr} {m' : Str → Option Value} {o : Obj} {arr : Array Value} {vs' : List Value} {n' tk : Nat} {news own : Led} {σ : List Int × Int × Int} {s₁ : Shared} {lb lc : Int} {t1 t2 : Tok}
    (F9 : Fr h₀ L h' m') (N9 : News h₀ L h' ((l, W.listOf arr n') :: (news ++ own))) (ha : arr = vs'.toArray) (hi : IntsAre vs' σ.1) (h1 : m' (Str.ofString "out") = some (.ref l)) (h2 : m' (Str.ofString "leftbits") = some (.int lb t1)) (hb : lb = σ.2.1)
    (h3 : m' (Str.ofString "leftchar") = some (.int lc t2)) (hc : lc = σ.2.2) (h4 : m' (Str.ofString "newline") = some (.bool false)) :
    InvEndN h₀ L (fun m nx => ∃ vs n t1 t2, nx = (l, W.listOf (List.toArray vs) n) :: news ∧ IntsAre vs σ.1 ∧ m (Str.ofString "out") = some (.ref l) ∧ m (Str.ofString "leftbits") = some (.int σ.2.1 t1) ∧ m (Str.ofString "leftchar") = some (.int σ.2.2 t2) ∧ m (Str.ofString "newline") = some (.bool false)) own
      (List.map (·.1) ((l, o) :: news)) s₁ { s₁ with heap := h', toks := tk } := by
  subst ha hb hc
  exact ⟨_, _, _, _, (l, W.listOf vs'.toArray n') :: news, rfl, F9, N9, fun p hp => (List.mem_cons.mp hp).elim (fun e => e ▸ .head _) fun q => .tail _ (List.mem_append_left _ q), fun p hp => .tail _ (List.mem_append_right _ hp), rfl, vs', n', t1, t2, rfl, hi, h1, h2, h3, h4⟩
set_option maxRecDepth 100000 in
set_option maxHeartbeats 8000000 in
theorem b64_con (w : World) (mean : ExcName → Option Value) (mg mb : Str → Option Value) (b : Array UInt8) (t : Tok) :
    Con w mean mg mb 50 [.bytes b t] [(Str.ofString "newline", .bool false)] 10 100 (fun _ => 0 < b.size ∧ b.size ≤ 100 ∧ ((KBw.bInts b).foldl st64 z64).2.1 = 0) (fun _ r => ∃ t', r = .bytes ((((KBw.bInts b).foldl st64 z64).1).map fun n => n.toNat.toUInt8).toArray t') := by
  unfold Con
  k_fill
  intro dp un gd cn cs a ccd cl outer A₀ base h₀ L m news s Q E B F X N T hk hR hd hu hret
  obtain ⟨hb0, hb1, hlb⟩ := hR
  refine wpAny_call ?_
  k_dflt ktr_enter
  k_steps
  rename Fr _ _ _ _ => F1
  rename News _ _ _ _ => N1
  rename ∀ p ∈ news, p.1 < _ => hlt
  obtain ⟨l, el⟩ := nameHead N1
  subst el
  refine KBmo.iter_bytesN (fun i m nx => ∃ vs n t1 t2, nx = (l, W.listOf (List.toArray vs) n) :: news ∧ IntsAre vs (((KBw.bInts b).take i).foldl st64 z64).1 ∧
     m (Str.ofString "out") = some (.ref l) ∧ m (Str.ofString "leftbits") = some (.int (((KBw.bInts b).take i).foldl st64 z64).2.1 t1) ∧ m (Str.ofString "leftchar") = some (.int (((KBw.bInts b).take i).foldl st64 z64).2.2 t2) ∧ m (Str.ofString "newline") = some (.bool false)) rfl rfl F1 N1 ?_ ?_ ?_
  · exact ⟨[], 0, _, _, rfl, .nil, rfl, rfl, rfl, rfl⟩
  · rintro i k t m₁ news₁ h tk own hk0 hk1 hk2 hoff ⟨vs, n, t1, t2, rfl, hi, h1, h2, h3, h4⟩ F2 N2
    have ok := f64_ok ((KBw.bInts b).take i)
    have hlen := hi.length
    rw [f64_succ hk0]
    have hil : i < (KBw.bInts b).length := (List.getElem?_eq_some_iff.mp hk0).1
    have hbl : (KBw.bInts b).length = b.size := KBw.ints_length b
    have hz : vs.length ≤ 200 := by
      have := ok.2.2.2
      rw [List.length_take] at this
      omega
    clear hlb
    generalize ((KBw.bInts b).take i).foldl st64 z64 = σ at *
    obtain ⟨ns, lb, lc⟩ := σ
    dsimp only at *
    obtain ⟨hlb', hlc0, hlc1, _⟩ := ok
    have F3 := frCong (m' := fun y => if y = Str.ofString "b" then some (.int k t) else if y = Str.ofString "out" then some (.ref l) else if y = Str.ofString "leftbits" then some (.int lb t1) else if y = Str.ofString "leftchar" then some (.int lc t2) else if y = Str.ofString "newline" then some (.bool false) else m₁ y) F2 (by intro y; (repeat' split) <;> simp_all)
    have hne : ∀ p ∈ news ++ own, p.1 ≠ l := fun p hp => (List.mem_append.mp hp).elim (fun q => Nat.ne_of_lt (hlt p q)) fun q => hoff p q l (.head _)
    rw [List.cons_append] at N2
    clear F2 h1 h2 h3 h4 F1 N1
    rcases hlb' with rfl | rfl | rfl
    · k_steps
      rename Fr _ _ _ _ => F9
      rename News _ _ _ _ => N9
      refine close64 F9 N9 (List.push_toArray _ _) ?_ rfl rfl rfl rfl (lc_is hlc0 hk1 hk2) rfl
      exact IntsAre.append hi (intsOne (el64 2 hlc0 hk1 hk2))
    · k_steps
      rename Fr _ _ _ _ => F9
      rename News _ _ _ _ => N9
      refine close64 F9 N9 (List.push_toArray _ _) ?_ rfl rfl rfl rfl (lc_is hlc0 hk1 hk2) rfl
      exact IntsAre.append hi (intsOne (el64 4 hlc0 hk1 hk2))
    · k_steps
      rename Fr _ _ _ _ => F9
      rename News _ _ _ _ => N9
      refine close64 F9 N9 (by rw [List.push_toArray, List.push_toArray, List.append_assoc]) ?_ rfl rfl rfl rfl (lc_is hlc0 hk1 hk2) rfl
      exact IntsAre.append hi (intsTwo (el64 6 hlc0 hk1 hk2) ((el64 0 hlc0 hk1 hk2).trans (by rw [Int.pow_zero, Int.ediv_one])))
  · rintro m₁ news₁ h tk ⟨vs, n, t1, t2, rfl, hi, h1, h2, h3, h4⟩ F2 N2
    have hall : (KBw.bInts b).take (KBw.bInts b).length = KBw.bInts b := List.take_length
    rw [hall] at hi h2 h3
    rw [hlb] at h2
    have hz : vs.length ≤ 200 := by
      have := (f64_ok (KBw.bInts b)).2.2.2
      have := hi.length
      have hbl : (KBw.bInts b).length = b.size := KBw.ints_length b
      omega
    have hin := f64_in (KBw.bInts b)
    have F3 := frCong (m' := fun y => if y = Str.ofString "out" then some (.ref l) else if y = Str.ofString "leftbits" then some (.int 0 t1) else if y = Str.ofString "newline" then some (.bool false) else m₁ y) F2 (by intro y; (repeat' split) <;> simp_all)
    clear F2 h1 h2 h3 h4 F1 N1
    dsimp only
    k_steps
    exact hret _ [] _ _ (by k_asm) (newsTail (by k_asm)) (fun _ _ _ h9 => nomatch h9) ⟨_, rfl⟩

end Mine
end
/-! part E64 -/
section
theorem Mine.offE64 : True := by (w_top off; trivial)
namespace Mine
local macro_rules | `(tactic| walk_at "never") => `(tactic| fail)
local macro_rules | `(tactic| k_room) => `(tactic| ktr_room)
local macro_rules | `(tactic| walk_at "call type:type") => `(tactic| (k_here; (with_reducible show wpAny _ _ (call (Value.type "type") [_]) _ _ _); first | refine call_type_of (Tx := "bytes") rfl (by decide +kernel) ?_ | refine call_type_of (Tx := "bool") rfl (by decide +kernel) ?_ | refine call_type_of (Tx := "int") rfl (by decide +kernel) ?_))
local macro_rules | `(tactic| walk_at "getMethod bytes") => `(tactic| (k_here; first | with_reducible refine get_hex ?_ | with_reducible refine get_upper ?_))
local macro_rules | `(tactic| walk_at "getMethod str") => `(tactic| (k_here; with_reducible refine get_encode ?_))
local macro_rules | `(tactic| walk_at "call builtin:bytes.hex") => `(tactic| (k_here; (refine call_hex (by first | assumption | (simp only [hexOut_size] at *; omega)) ?_); intro _ _))
local macro_rules | `(tactic| walk_at "call builtin:str.encode") => `(tactic| (k_here; (refine call_encode (hexOut_small _) (by (show (hexOut _).size ≤ 1000); simp only [hexOut_size] at *; omega) (by (show 0 < (hexOut _).size); simp only [hexOut_size] at *; omega) ?_); intro _ _))
local macro_rules | `(tactic| walk_at "call builtin:bytes.upper") => `(tactic| (k_here; (refine call_upper (by simp only [Array.size_map, hexOut_size] at *; omega) ?_); intro _ _))
local macro_rules | `(tactic| walk_at "subscriptTail") => `(tactic| (k_here; (with_reducible show wpAny _ _ (subscriptTail _ _ (Value.bytes (List.toArray _) _) (Value.int (Builtin.bitAnd _ 63) _)) _ _ _); k_dflt (refine' bytes_item_K ?f ?a ?b ?e ?_; (case f => kby_size); (case a => exact (bitAnd63 _).1); (case b => exact (bitAnd63 _).2); (case e => exact rfl); k_whole)))
local macro_rules | `(tactic| k_all) => `(tactic| assumption)
local macro_rules | `(tactic| size_fits) => `(tactic| (simp only [PySem.sizeLine_eq, Array.size_push, List.size_toArray, List.length_append, List.length_cons, List.length_nil]; omega))
local macro_rules | `(tactic| walk_at "call type:bytes") => `(tactic| (k_here; (with_reducible show wpAny _ _ (call (Value.type _) [Value.ref _]) _ _ _); k_dflt (refine' bytes_K ?F ?N ?l ?i ?r ?z ?h ?_; (case F => k_asm); (case N => k_asm); (case l => is_list); (case i => assumption); (case r => assumption); (case z => size_fits); (case h => with_unfolding_all rfl); k_whole); intro h' t' k' F' N' hB'; clear hB'))
local macro_rules | `(tactic| walk_at "pyIter bytes") => `(tactic| (k_here; (with_reducible show wpAny _ _ (pyIter (Value.bytes _ _)) (CompPost _ _ _ _ _ _ _ _ _) _ _); k_dflt (refine' comp_bytes_id ?hh ?F ?N ?hk ?hl ?hd ?hz ?_; (case hh => exact rfl); (case F => k_asm); (case N => k_asm); (case hk => exact rfl); (case hl => exact fun _ => rfl); (case hd => decide); (case hz => omega); k_whole); intro D' vs' n' h' tk' F' N' hne' hi'))
local macro_rules | `(tactic| walk_at "inplaceOp LShift int int") => `(tactic| (k_here; refine PyProof.Rows.ilshift_int (by decide) (by assumption) ?_))
local macro_rules | `(tactic| walk_at "call builtin:iter") => `(tactic| (k_here; (with_reducible show wpAny _ _ (call (Value.builtin "iter") [Value.ref _]) _ _ _); k_dflt (refine' call_iter ?F ?N ?p ?_; (case F => k_asm); (case N => k_asm); (case p => k_mem)); intro I' h' F' N' l1))
local macro_rules | `(tactic| walk_at "binaryOp Pow int int") => `(tactic| (k_here; refine PyProof.Rows.pow_int_small (by first | assumption | omega) (by first | assumption | omega) (by decide) ?_))
local macro_rules | `(tactic| walk_at "binaryOp Mult int int") => `(tactic| (k_here; refine PyProof.Rows.mul_int ?_ (by assumption)))
local macro_rules | `(tactic| walk_at "binaryOp Add ref ref") => `(tactic| (k_here; k_dflt (refine' addLed ?F ?N ?a ?b ?z ?_; (case F => k_asm); (case N => k_asm); (case a => k_mem); (case b => k_mem); (case z => simp only [List.length_append]; omega)); intro D' h' F' N' l1; (try k_lt l1)))
local macro_rules | `(tactic| walk_at "call ref") => `(tactic| (k_here; k_dflt (refine' conUseV (b64_con _ _ _ _ _ _) ?k1 ?k2 ?k3 ?k4 ?k5 ?kK ?kp ?kd ?ku ?_; (case k1 => k_asm); (case k2 => k_asm); (case k3 => k_asm); (case k4 => k_asm); (case k5 => k_asm); (case kK => exact rfl); (case kp => assumption); (case kd => ktr_room); (case ku => ktr_units); intro r9 h9 tk9 F9 N9 p9; obtain ⟨t9, e9⟩ := p9; subst e9; (try dsimp only))))
set_option maxRecDepth 100000 in
set_option maxHeartbeats 8000000 in
theorem e64_con (w : World) (mean : ExcName → Option Value) (mg mb : Str → Option Value) (b : Array UInt8) (t : Tok) :
    Con w mean mg mb 67 [.bytes b t] [] 20 200 (fun _ => 0 < b.size ∧ b.size ≤ 100 ∧ ((KBw.bInts b).foldl st64 z64).2.1 = 0) (fun _ r => ∃ t', r = .bytes ((((KBw.bInts b).foldl st64 z64).1).map fun n => n.toNat.toUInt8).toArray t') := by
  unfold Con
  k_fill
  intro dp un gd cn cs a ccd cl outer A₀ base h₀ L m news s Q E B F X N T hk hR hd hu hret
  refine wpAny_call ?_
  k_dflt (refine' code_def ?k1 ?k2 ?k3 ?k4 ?k5 ?kA ?kF ?kK ?k6 ?k7 ?k8 ?k9 ?kB ?_ ?c2 ?c3 ?c4 ?c5; (case kA => exact rfl); (case kF => exact rfl); (case kK => assumption); (case k1 => k_asm); (case k2 => k_asm); (case k3 => k_asm); (case k4 => k_asm); (case k5 => k_asm); (case k6 => k_is); (case k7 => k_is); (case k8 => ktr_room); (case k9 => exact binds_K (by k_in) rfl (by k_is) rfl rfl rfl); (case c5 => decide); (case kB => exact locs rfl); (case c2 => exact rfl); (case c3 => exact rfl); (case c4 => exact rfl); k_whole; intro g' L' h' FG' F' N' B' X' T'; (try dsimp only); (try k_fold))
  k_steps
  exact hret _ [] _ _ (by k_asm) (by k_asm) (fun _ _ _ h9 => nomatch h9) ⟨_, rfl⟩

end Mine
end
/-! part PV -/
section
theorem Mine.offPV : True := by (w_top off; trivial)
namespace Mine
local macro_rules | `(tactic| k_room) => `(tactic| ktr_room)
local macro_rules | `(tactic| walk_at "call type:type") => `(tactic| (k_here; (with_reducible show wpAny _ _ (call (Value.type "type") [_]) _ _ _); first | refine call_type_of (Tx := "bytes") rfl (by decide +kernel) ?_ | refine call_type_of (Tx := "bool") rfl (by decide +kernel) ?_ | refine call_type_of (Tx := "int") rfl (by decide +kernel) ?_))
local macro_rules | `(tactic| walk_at "getMethod bytes") => `(tactic| (k_here; first | with_reducible refine get_hex ?_ | with_reducible refine get_upper ?_))
local macro_rules | `(tactic| walk_at "getMethod str") => `(tactic| (k_here; with_reducible refine get_encode ?_))
local macro_rules | `(tactic| walk_at "call builtin:bytes.hex") => `(tactic| (k_here; (refine call_hex (by first | assumption | (simp only [hexOut_size] at *; omega)) ?_); intro _ _))
local macro_rules | `(tactic| walk_at "call builtin:str.encode") => `(tactic| (k_here; (refine call_encode (hexOut_small _) (by (show (hexOut _).size ≤ 1000); simp only [hexOut_size] at *; omega) (by (show 0 < (hexOut _).size); simp only [hexOut_size] at *; omega) ?_); intro _ _))
local macro_rules | `(tactic| walk_at "call builtin:bytes.upper") => `(tactic| (k_here; (refine call_upper (by simp only [Array.size_map, hexOut_size] at *; omega) ?_); intro _ _))
local macro_rules | `(tactic| walk_at "subscriptTail") => `(tactic| (k_here; (with_reducible show wpAny _ _ (subscriptTail _ _ (Value.bytes (List.toArray _) _) (Value.int (Builtin.bitAnd _ 63) _)) _ _ _); k_dflt (refine' bytes_item_K ?f ?a ?b ?e ?_; (case f => kby_size); (case a => exact (bitAnd63 _).1); (case b => exact (bitAnd63 _).2); (case e => exact rfl); k_whole)))
local macro_rules | `(tactic| k_all) => `(tactic| assumption)
local macro_rules | `(tactic| size_fits) => `(tactic| (simp only [PySem.sizeLine_eq, Array.size_push, List.size_toArray, List.length_append, List.length_cons, List.length_nil]; omega))
local macro_rules | `(tactic| walk_at "call type:bytes") => `(tactic| (k_here; (with_reducible show wpAny _ _ (call (Value.type _) [Value.ref _]) _ _ _); k_dflt (refine' bytes_K ?F ?N ?l ?i ?r ?z ?h ?_; (case F => k_asm); (case N => k_asm); (case l => is_list); (case i => assumption); (case r => assumption); (case z => size_fits); (case h => with_unfolding_all rfl); k_whole); intro h' t' k' F' N' hB'; clear hB'))
local macro_rules | `(tactic| walk_at "pyIter bytes") => `(tactic| (k_here; (with_reducible show wpAny _ _ (pyIter (Value.bytes _ _)) (CompPost _ _ _ _ _ _ _ _ _) _ _); k_dflt (refine' comp_bytes_id ?hh ?F ?N ?hk ?hl ?hd ?hz ?_; (case hh => exact rfl); (case F => k_asm); (case N => k_asm); (case hk => exact rfl); (case hl => exact fun _ => rfl); (case hd => decide); (case hz => omega); k_whole); intro D' vs' n' h' tk' F' N' hne' hi'))
local macro_rules | `(tactic| walk_at "inplaceOp LShift int int") => `(tactic| (k_here; refine PyProof.Rows.ilshift_int (by decide) (by assumption) ?_))
local macro_rules | `(tactic| walk_at "call builtin:iter") => `(tactic| (k_here; (with_reducible show wpAny _ _ (call (Value.builtin "iter") [Value.ref _]) _ _ _); k_dflt (refine' call_iter ?F ?N ?p ?_; (case F => k_asm); (case N => k_asm); (case p => k_mem)); intro I' h' F' N' l1))
local macro_rules | `(tactic| walk_at "binaryOp Pow int int") => `(tactic| (k_here; refine PyProof.Rows.pow_int_small (by first | assumption | omega) (by first | assumption | omega) (by decide) ?_))
local macro_rules | `(tactic| walk_at "binaryOp Mult int int") => `(tactic| (k_here; refine PyProof.Rows.mul_int ?_ (by assumption)))
local macro_rules | `(tactic| walk_at "binaryOp Add ref ref") => `(tactic| (k_here; k_dflt (refine' addLed ?F ?N ?a ?b ?z ?_; (case F => k_asm); (case N => k_asm); (case a => k_mem); (case b => k_mem); (case z => simp only [List.length_append]; omega)); intro D' h' F' N' l1; (try k_lt l1)))
local macro_rules | `(tactic| walk_at "exec While BinOp cons nil") => `(tactic| refine stop ?_)
set_option maxRecDepth 100000 in
set_option maxHeartbeats 8000000 in
theorem parse_con (w : World) (mean : ExcName → Option Value) (mg mb : Str → Option Value) {dp un : Nat} {gd : Option (List Code)} {cn : Str} {cs : Scope} {a : Addr} {ccd : Value} {outer : List Env} {A₀ : Around} {base h₀ : Heap} {L I D : Addr} {m : Str → Option Value} {news : Led} {s : Shared}
    {Q E : Value → Shared → Prop} {vs : List Value} {ks : List Int} {n i : Nat} (B : Below A₀ base outer h₀) (F : Fr h₀ L s.heap m) (X : (hd.heap_39 w.params).In h₀) (N : News h₀ L s.heap ((I, itO D i) :: news))
    (T : Top hd.view_39 (looseW hd.view_39 [Str.ofString "b2a_base64", Str.ofString "_NO_SEP", Str.ofString "b2a_hex", Str.ofString "hexlify", Str.ofString "b64encode"]) mean mg mb h₀) (hk : cs.kind = .function)
    (hI : ∀ p ∈ news, p.1 ≠ I) (hD : (D, W.listOf vs.toArray n) ∈ news) (hi : IntsAre vs ks) (hin : ∀ c ∈ ks, 0 ≤ c ∧ c < 128) (hlen : ks.length ≤ 300) (hd : dp + 10 < recursionLimit) (hu : un + 100 < cLine)
    (hok : ks.length ≤ i ∨ ∃ v j, parseGo 0 (ks.drop i) = some (v, j))
    (ret : ∀ v j t h' tk', parseGo 0 (ks.drop i) = some (v, j) → Fr h₀ L h' m → News h₀ L h' ((I, itO D (i + j)) :: news) → Q (.int v t) { s with heap := h', toks := tk' })
    (exc : ks.length ≤ i → ∀ e G h' tk', RaisedSN base G (envOf cn cs L a ccd :: outer) e (.type "StopIteration") news h' → Fr h₀ L G m → G.UpToSlots h' → E (.ref e) { s with heap := h', toks := tk' }) :
    wpAny (model PySem.Challenge.rw_ny0010_01.row.prog w) (ktrTop dp un gd cn cs L a ccd [] outer) (call (.ref 28) [.ref I]) Q E s := by
  revert X
  k_fill
  intro X
  refine wpAny_call ?_
  k_dflt ktr_enter
  k_steps
  rename Fr _ _ _ _ => F1
  rename News _ _ _ _ => N1
  have hlv := hi.length
  rename Below _ _ (_ :: _) _ => B1
  by_cases hcase : i < ks.length
  · have hex : ∃ t, vs[i]? = some (.int ks[i] t) := hi.get i _ (List.getElem?_eq_getElem hcase)
    obtain ⟨t, hx⟩ := hex
    refine call_next F1 N1 (Upd.head hI) (List.mem_cons_of_mem _ hD) hx ?_
    intro h2 F2 N2
    clear F1 N1
    have hc := hin _ (List.getElem_mem hcase)
    have hdrop : ks.drop i = ks[i] :: ks.drop (i + 1) := List.drop_eq_getElem_cons hcase
    k_steps
    rename Fr _ _ _ _ => F1
    rename News _ _ _ _ => N1
    unfold Stop
    obtain ⟨g1, eg1⟩ := nameBase F1
    subst eg1
    obtain ⟨L1, eL1⟩ := nameFrame F1
    subst eL1
    refine whileInv (fun k s' => ∃ h tk m' d val c t1 t2, s' = { s with heap := h, toks := tk } ∧ Fr g1 L1 h m' ∧ News g1 L1 h ((I, itO D (i + d)) :: news) ∧ m' (Str.ofString "iterator") = some (.ref I) ∧ m' (Str.ofString "b") = some (.int c t1) ∧ m' (Str.ofString "val") = some (.int val t2) ∧
        0 ≤ c ∧ c < 128 ∧ 0 ≤ val ∧ val < 2 ^ (6 * d) ∧ i + d ≤ ks.length ∧ k = ks.length - (i + d) ∧
        ((c / 64 % 2 = 0 ∧ parseGo 0 (ks.drop i) = some (val, d)) ∨ (c / 64 % 2 = 1 ∧ ∃ v j, parseGo val (ks.drop (i + d)) = some (v, j) ∧ parseGo 0 (ks.drop i) = some (v, d + j)))) (by passes_own) ?_ (ks.length - (i + 1)) ?_
    · rintro k s' ⟨h, tk, m', d, val, c, t1, t2, rfl, F2, N2, e1, e2, e3, hc0, hc1, hv0, hv1, hid, rfl, hres⟩
      have F3 := frCong (m' := fun y => if y = Str.ofString "iterator" then some (.ref I) else if y = Str.ofString "b" then some (.int c t1) else if y = Str.ofString "val" then some (.int val t2) else m' y) F2 (by intro y; rw [pin1 e3, pin1 e2, pin1 e1])
      have hbits : (Builtin.Int.intBits val : Int) + 6 ≤ 2 ^ 27 := by
        have := bits_of_lt hv0 hv1
        omega
      have hand := bitAnd64 hc0 hc1
      clear F1 N1 F2 e1 e2 e3
      k_steps
      · rename Fr _ _ _ _ => F4
        rename News _ _ _ _ => N4
        have hodd : c / 64 % 2 = 1 := by
          rename Builtin.bitAnd c 64 ≠ 0 => hq
          omega
        rcases hres with ⟨h0, _⟩ | ⟨_, v, j, hp1, hp2⟩
        · omega
        have hlt : i + d < ks.length := by
          refine Nat.lt_of_not_le fun hge => ?_
          rw [List.drop_eq_nil_of_le hge] at hp1
          cases hp1
        obtain ⟨t', hx'⟩ := hi.get (i + d) _ (List.getElem?_eq_getElem hlt)
        refine call_next F4 N4 (Upd.head hI) (List.mem_cons_of_mem _ hD) hx' ?_
        intro h5 F5 N5
        clear F4 N4
        have hcc := hin _ (List.getElem_mem hlt)
        rw [List.drop_eq_getElem_cons hlt, parseGo_cons] at hp1
        k_steps
        rename Fr _ _ _ _ => F6
        rename News _ _ _ _ => N6
        have hvs := val_step (c := ks[i + d]) hv0 hv1
        refine ⟨ks.length - (i + (d + 1)), by omega, _, _, _, d + 1, _, ks[i + d], t', _, rfl, F6, N6, rfl, rfl, rfl, hcc.1, hcc.2, ?_, ?_, by omega, rfl, ?_⟩
        · rw [val_or hv0]; exact hvs.1
        · rw [val_or hv0]; exact hvs.2
        · rw [val_or hv0]
          by_cases hz : ks[i + d] / 64 % 2 = 0
          · rw [if_pos hz] at hp1
            cases hp1
            exact .inl ⟨hz, hp2⟩
          · rw [if_neg hz] at hp1
            refine .inr ⟨by omega, ?_⟩
            cases hq : parseGo (val * 64 + ks[i + d] % 64) (ks.drop (i + d + 1)) with
            | none => rw [hq] at hp1; cases hp1
            | some p =>
              rw [hq] at hp1
              cases hp1
              exact ⟨p.1, p.2, rfl, by rw [hp2]; congr 2; omega⟩
      · have hev : c / 64 % 2 = 0 := by
          rename Builtin.bitAnd c 64 = 0 => hq
          omega
        rcases hres with ⟨_, hp⟩ | ⟨h1, _⟩
        · exact ret val d _ _ _ hp (by k_asm) (by k_asm)
        · omega
    · refine ⟨_, _, _, 1, Builtin.bitAnd ks[i] 63, ks[i], t, _, rfl, F1, N1, rfl, rfl, rfl, hc.1, hc.2, ?_, ?_, by omega, rfl, ?_⟩
      · rw [bitAnd_m6]; omega
      · rw [bitAnd_m6]; have : ks[i] % 64 < 64 := Int.emod_lt_of_pos _ (by decide); exact this
      · rcases hok with hh | ⟨v, j, hp⟩
        · omega
        rw [hdrop, parseGo_cons] at hp ⊢
        have e0 : (0 : Int) * 64 + ks[i] % 64 = Builtin.bitAnd ks[i] 63 := by rw [bitAnd_m6]; omega
        rw [e0] at hp ⊢
        by_cases hz : ks[i] / 64 % 2 = 0
        · rw [if_pos hz] at hp ⊢
          exact .inl ⟨hz, rfl⟩
        · rw [if_neg hz] at hp ⊢
          refine .inr ⟨by omega, ?_⟩
          cases hq : parseGo (Builtin.bitAnd ks[i] 63) (ks.drop (i + 1)) with
          | none => rw [hq] at hp; cases hp
          | some p => exact ⟨p.1, p.2, rfl, by show some (p.1, p.2 + 1) = some (p.1, 1 + p.2); rw [Nat.add_comm]⟩
  · refine call_next_end rfl F1 N1 hI hD (by rw [List.getElem?_eq_none_iff]; omega) ?_
    intro h1 h' e F2 N2 hx
    refine leave_newS B1 hx F2 N2 ?_
    intro h3 R _ hup
    exact exc (by omega) e _ h3 _ R (by k_asm) hup

end Mine
end
/-! part TD -/
section
theorem Mine.offTD : True := by (w_top off; trivial)
namespace Mine
local macro_rules | `(tactic| k_room) => `(tactic| ktr_room)
local macro_rules | `(tactic| walk_at "call type:type") => `(tactic| (k_here; (with_reducible show wpAny _ _ (call (Value.type "type") [_]) _ _ _); first | refine call_type_of (Tx := "bytes") rfl (by decide +kernel) ?_ | refine call_type_of (Tx := "bool") rfl (by decide +kernel) ?_ | refine call_type_of (Tx := "int") rfl (by decide +kernel) ?_))
local macro_rules | `(tactic| walk_at "getMethod bytes") => `(tactic| (k_here; first | with_reducible refine get_hex ?_ | with_reducible refine get_upper ?_))
local macro_rules | `(tactic| walk_at "getMethod str") => `(tactic| (k_here; with_reducible refine get_encode ?_))
local macro_rules | `(tactic| walk_at "call builtin:bytes.hex") => `(tactic| (k_here; (refine call_hex (by first | assumption | (simp only [hexOut_size] at *; omega)) ?_); intro _ _))
local macro_rules | `(tactic| walk_at "call builtin:str.encode") => `(tactic| (k_here; (refine call_encode (hexOut_small _) (by (show (hexOut _).size ≤ 1000); simp only [hexOut_size] at *; omega) (by (show 0 < (hexOut _).size); simp only [hexOut_size] at *; omega) ?_); intro _ _))
local macro_rules | `(tactic| walk_at "call builtin:bytes.upper") => `(tactic| (k_here; (refine call_upper (by simp only [Array.size_map, hexOut_size] at *; omega) ?_); intro _ _))
local macro_rules | `(tactic| walk_at "subscriptTail") => `(tactic| (k_here; (with_reducible show wpAny _ _ (subscriptTail _ _ (Value.bytes (List.toArray _) _) (Value.int (Builtin.bitAnd _ 63) _)) _ _ _); k_dflt (refine' bytes_item_K ?f ?a ?b ?e ?_; (case f => kby_size); (case a => exact (bitAnd63 _).1); (case b => exact (bitAnd63 _).2); (case e => exact rfl); k_whole)))
local macro_rules | `(tactic| k_all) => `(tactic| assumption)
local macro_rules | `(tactic| size_fits) => `(tactic| (simp only [PySem.sizeLine_eq, Array.size_push, List.size_toArray, List.length_append, List.length_cons, List.length_nil]; omega))
local macro_rules | `(tactic| walk_at "call type:bytes") => `(tactic| (k_here; (with_reducible show wpAny _ _ (call (Value.type _) [Value.ref _]) _ _ _); k_dflt (refine' bytes_K ?F ?N ?l ?i ?r ?z ?h ?_; (case F => k_asm); (case N => k_asm); (case l => is_list); (case i => assumption); (case r => assumption); (case z => size_fits); (case h => with_unfolding_all rfl); k_whole); intro h' t' k' F' N' hB'; clear hB'))
local macro_rules | `(tactic| walk_at "pyIter bytes") => `(tactic| (k_here; (with_reducible show wpAny _ _ (pyIter (Value.bytes _ _)) (CompPost _ _ _ _ _ _ _ _ _) _ _); k_dflt (refine' comp_bytes_id ?hh ?F ?N ?hk ?hl ?hd ?hz ?_; (case hh => exact rfl); (case F => k_asm); (case N => k_asm); (case hk => exact rfl); (case hl => exact fun _ => rfl); (case hd => decide); (case hz => omega); k_whole); intro D' vs' n' h' tk' F' N' hne' hi'))
local macro_rules | `(tactic| walk_at "inplaceOp LShift int int") => `(tactic| (k_here; refine PyProof.Rows.ilshift_int (by decide) (by assumption) ?_))
local macro_rules | `(tactic| walk_at "call builtin:iter") => `(tactic| (k_here; (with_reducible show wpAny _ _ (call (Value.builtin "iter") [Value.ref _]) _ _ _); k_dflt (refine' call_iter ?F ?N ?p ?_; (case F => k_asm); (case N => k_asm); (case p => k_mem)); intro I' h' F' N' l1))
local macro_rules | `(tactic| walk_at "binaryOp Pow int int") => `(tactic| (k_here; refine PyProof.Rows.pow_int_small (by first | assumption | omega) (by first | assumption | omega) (by decide) ?_))
local macro_rules | `(tactic| walk_at "binaryOp Mult int int") => `(tactic| (k_here; refine PyProof.Rows.mul_int ?_ (by assumption)))
local macro_rules | `(tactic| walk_at "binaryOp Add ref ref") => `(tactic| (k_here; k_dflt (refine' addLed ?F ?N ?a ?b ?z ?_; (case F => k_asm); (case N => k_asm); (case a => k_mem); (case b => k_mem); (case z => simp only [List.length_append]; omega)); intro D' h' F' N' l1; (try k_lt l1)))
local macro_rules | `(tactic| walk_at "exec While Constant cons nil") => `(tactic| refine stop ?_)
local macro_rules | `(tactic| walk_at "call ref") => `(tactic| (k_here; (with_reducible show wpAny _ _ (call (Value.ref 28) _) _ _ _); refine stop ?_))
theorem name3 {h₀ h : Heap} {L a b c : Addr} {o p q : Obj} {news : Led} (_N : News h₀ L h ((a, o) :: (b, p) :: (c, q) :: news)) : ∃ a' b' c', a' = a ∧ b' = b ∧ c' = c := ⟨a, b, c, rfl, rfl, rfl⟩
theorem nameVs {vs : List Value} {ns : List Int} (_h : IntsAre vs ns) : ∃ v, v = vs := ⟨vs, rfl⟩
theorem nameN {h₀ h : Heap} {L a b : Addr} {o : Obj} {n : Nat} {arr : Array Value} {news : Led} (_N : News h₀ L h ((a, o) :: (b, W.listOf arr n) :: news)) : ∃ n', n' = n := ⟨n, rfl⟩
theorem isExc_stop : isSubtype (.type "StopIteration") (.type "BaseException") = pure true := by rw [isSubtype_type]; kernel_rfl
theorem notTuple_stop : isSubtype (.type ((Manifest.find? "StopIteration").elim "type" fun y => y.metatype)) (.type "tuple") = pure false := by rw [isSubtype_type]; kernel_rfl
theorem sub_stop : isSubtype (.type "StopIteration") (.type "StopIteration") = pure true := by rw [isSubtype_type]; kernel_rfl
set_option maxRecDepth 100000 in
set_option maxHeartbeats 8000000 in
theorem told_con (w : World) (mean : ExcName → Option Value) (mg mb : Str → Option Value) (b : Array UInt8) (t : Tok) (nums : List Int) :
    ConS w mean mg mb 79 [.bytes b t] 20 200 (fun _ => b.size ≤ 200 ∧ (∀ c ∈ KBw.bInts b, 0 ≤ c ∧ c < 128) ∧ parseAll (b.size) (KBw.bInts b) = some nums) (fun led r => IntsAt led r nums) := by
  unfold ConS
  k_fill
  intro dp un gd cn cs a ccd outer A₀ base h₀ L m news s Q E B F X N T XB TB D hk hR hd hu hret
  obtain ⟨hb1, hin, hall⟩ := hR
  refine wpAny_call ?_
  k_dflt (refine' code_defS (g₀ := h₀) ?k1 ?k2 ?k3 ?k4 ?k5 ?XB ?TB ?D ?T0 ?kA ?k6 ?k7 ?k8 ?k9 ?kB ?_ ?cK ?c2 ?c3 ?c4 ?c5; (case kA => exact rfl); (case k2 => k_asm); (case k1 => k_asm); (case XB => assumption); (case TB => assumption); (case D => assumption); (case T0 => exact KtsTurn.refl); (case k3 => k_asm); (case k4 => k_asm); (case k5 => k_asm); (case k6 => k_is); (case k7 => k_is); (case k8 => ktr_room); (case k9 => exact BindsTo.of_eq rfl); (case kB => exact locs rfl); (case cK => assumption); (case c2 => exact rfl); (case c3 => exact rfl); (case c4 => exact rfl); (case c5 => decide); k_whole; intro g' L' h' FG' F' N' B' X' T' D'; (try dsimp only); (try k_fold))
  k_steps
  rename Fr _ _ _ _ => F1
  rename News _ _ _ _ => N1
  obtain ⟨I, D0, l, eI, eD, el⟩ := name3 N1
  subst eI eD el
  rename IntsAre _ _ => hi
  have hlen : (KBw.bInts b).length = b.size := KBw.ints_length b
  rw [← hlen] at hall hb1
  generalize KBw.bInts b = ks at *
  unfold Stop
  have hlt1 : ∀ p ∈ news, p.1 < l := by assumption
  have hne1 : ∀ p ∈ (l, W.listOf #[] 0) :: news, p.1 ≠ D0 := by assumption
  obtain ⟨vs, evs⟩ := nameVs hi
  subst evs
  obtain ⟨n, en⟩ := nameN N1
  subst en
  have hlt2 : ∀ p ∈ (D0, W.listOf vs.toArray n) :: (l, W.listOf #[] 0) :: news, p.1 < I := by assumption
  have hlD : @Ne Nat l D0 := hne1 _ (.head _)
  have hlI : @LT.lt Nat _ l I := hlt2 _ (.tail _ (.head _))
  have hDI : @LT.lt Nat _ D0 I := hlt2 _ (.head _)
  have hnI : ∀ p ∈ news, p.1 < I := fun p hp => hlt2 p (.tail _ (.tail _ hp))
  have hnD : ∀ p ∈ news, p.1 ≠ D0 := fun p hp => hne1 p (.tail _ hp)
  have hnl : ∀ p ∈ news, p.1 ≠ l := fun p hp => Nat.ne_of_lt (hlt1 p hp)
  clear hlt1 hne1 hlt2
  have hlv := hi.length
  have hall' : parseAll ks.length (ks.drop 0) = some nums := hall
  refine whileInv (fun k s' => ∃ h tk m' i tv tn dn rest, s' = { s with heap := h, toks := tk } ∧ Fr g' L' h m' ∧ News g' L' h ((I, itO D0 i) :: (D0, W.listOf vs.toArray n) :: (l, W.listOf (List.toArray tv) tn) :: news) ∧
      m' (Str.ofString "told") = some (.ref l) ∧ m' (Str.ofString "left") = some (.ref I) ∧ IntsAre tv dn ∧ tv.length ≤ i ∧ i ≤ ks.length ∧ (∃ f, parseAll f (ks.drop i) = some rest) ∧ nums = dn ++ rest ∧ k = ks.length - i + 1) (by passes_own) ?_ (ks.length + 1) ?_
  · rintro k s' ⟨h, tk, m', i, tv, tn, dn, rest, rfl, F2, N2, e1, e2, hti, htl, hik, ⟨f, hpa⟩, hnum, rfl⟩
    have F3 := frCong (m' := fun y => if y = Str.ofString "told" then some (.ref l) else if y = Str.ofString "left" then some (.ref I) else m' y) F2 (by intro y; rw [pin1 e2, pin1 e1])
    have hI : ∀ p ∈ (D0, W.listOf vs.toArray n) :: (l, W.listOf (List.toArray tv) tn) :: news, p.1 ≠ I := by
      intro p hp
      rcases List.mem_cons.mp hp with rfl | hp
      · exact Nat.ne_of_lt hDI
      rcases List.mem_cons.mp hp with rfl | hp
      · exact Nat.ne_of_lt hlI
      · exact Nat.ne_of_lt (hnI p hp)
    clear F1 N1 F2 e1 e2
    k_steps
    unfold Stop
    rename Below _ _ (_ :: _) _ => B1
    k_dflt (refine' parse_con (ks := ks) (vs := vs) (i := i) w mean mg mb ?kB ?kF ?kX ?kN ?kT ?kK hI ?kD hi hin ?kL ?kd ?ku ?kO ?kR ?kE; (case kB => k_asm); (case kF => exact F3); (case kX => k_asm); (case kN => exact N2); (case kT => k_asm); (case kK => exact rfl); (case kD => exact .head _); (case kL => omega); (case kd => ktr_room); (case ku => ktr_units))
    · by_cases hlt : i < ks.length
      · refine .inr ?_
        rw [List.drop_eq_getElem_cons hlt] at hpa ⊢
        obtain ⟨v, j, _, _, hp, _⟩ := parseAll_cons hpa
        exact ⟨v, j, hp⟩
      · exact .inl (by omega)
    · intro v j t h9 tk9 hp F9 N9
      have hlt : i < ks.length := by
        refine Nat.lt_of_not_le fun hge => ?_
        rw [List.drop_eq_nil_of_le hge] at hp
        cases hp
      have hj := parseGo_le _ _ _ _ hp
      rw [List.length_drop] at hj
      rw [List.drop_eq_getElem_cons hlt] at hpa
      obtain ⟨v', j', rest', f', hp', hrest, hpr⟩ := parseAll_cons hpa
      rw [← List.drop_eq_getElem_cons hlt] at hp' hpr
      rw [hp] at hp'
      cases hp'
      rw [List.drop_drop] at hpr
      have hz : tv.length ≤ 300 := by omega
      clear F3 N2
      dsimp only
      k_steps
      rename Fr _ _ _ _ => F4
      rename News _ _ _ _ => N4
      rw [List.push_toArray] at N4
      exact ⟨ks.length - (i + j) + 1, by omega, _, _, _, i + j, tv ++ [.int v t], _, dn ++ [v], rest', rfl, F4, N4, rfl, rfl, IntsAre.append hti (.cons _ _ .nil), by simp; omega, by omega, ⟨f', hpr⟩, by rw [hnum, hrest]; simp, rfl⟩
    · intro hge e G h9 tk9 R FG hup
      have hrest : rest = [] := by
        rw [List.drop_eq_nil_of_le hge] at hpa
        cases f <;> (unfold parseAll at hpa; cases hpa; rfl)
      subst hrest
      rw [List.append_nil] at hnum
      subst hnum
      clear F3 N2
      k_dflt (refine' caught_SN0 (T' := "StopIteration") R FG ?K hup XB TB ?D (KtsTurn.refl) ?ex PyProof.Rows.Boot.«StopIteration» ?hn isExc_stop notTuple_stop ?hs ?_; (case K => k_asm); (case D => assumption); (case ex => k_is); (case hn => decide); (case hs => exact sub_stop))
      intro h5 g5 T5 F5 N5 B5 X5 TT5 D5
      k_steps
      refine hret _ [(D0, W.listOf vs.toArray n), (l, W.listOf tv.toArray tn)] _ _ _ (by assumption) (by k_asm) (by k_asm) (by assumption) (by assumption) (by assumption) (by assumption) ?_ ⟨l, tv, tn, rfl, .tail _ (.head _), hti⟩
      intro q hq p hp
      rcases List.mem_cons.mp hp with rfl | hp
      · exact hnD q hq
      · rw [List.mem_singleton.mp hp]; exact hnl q hq
  · exact ⟨_, _, _, 0, [], 0, [], nums, rfl, F1, N1, rfl, rfl, .nil, by simp, by omega, ⟨_, hall'⟩, rfl, by omega⟩

end Mine
end
/-! part LD -/
section
theorem Mine.offLD : True := by (w_top off; trivial)
namespace Mine
local macro_rules | `(tactic| k_room) => `(tactic| ktr_room)
local macro_rules | `(tactic| walk_at "call type:type") => `(tactic| (k_here; (with_reducible show wpAny _ _ (call (Value.type "type") [_]) _ _ _); first | refine call_type_of (Tx := "bytes") rfl (by decide +kernel) ?_ | refine call_type_of (Tx := "bool") rfl (by decide +kernel) ?_ | refine call_type_of (Tx := "int") rfl (by decide +kernel) ?_))
local macro_rules | `(tactic| walk_at "getMethod bytes") => `(tactic| (k_here; first | with_reducible refine get_hex ?_ | with_reducible refine get_upper ?_))
local macro_rules | `(tactic| walk_at "getMethod str") => `(tactic| (k_here; with_reducible refine get_encode ?_))
local macro_rules | `(tactic| walk_at "call builtin:bytes.hex") => `(tactic| (k_here; (refine call_hex (by first | assumption | (simp only [hexOut_size] at *; omega)) ?_); intro _ _))
local macro_rules | `(tactic| walk_at "call builtin:str.encode") => `(tactic| (k_here; (refine call_encode (hexOut_small _) (by (show (hexOut _).size ≤ 1000); simp only [hexOut_size] at *; omega) (by (show 0 < (hexOut _).size); simp only [hexOut_size] at *; omega) ?_); intro _ _))
local macro_rules | `(tactic| walk_at "call builtin:bytes.upper") => `(tactic| (k_here; (refine call_upper (by simp only [Array.size_map, hexOut_size] at *; omega) ?_); intro _ _))
local macro_rules | `(tactic| walk_at "subscriptTail") => `(tactic| (k_here; (with_reducible show wpAny _ _ (subscriptTail _ _ (Value.bytes (List.toArray _) _) (Value.int (Builtin.bitAnd _ 63) _)) _ _ _); k_dflt (refine' bytes_item_K ?f ?a ?b ?e ?_; (case f => kby_size); (case a => exact (bitAnd63 _).1); (case b => exact (bitAnd63 _).2); (case e => exact rfl); k_whole)))
local macro_rules | `(tactic| k_all) => `(tactic| assumption)
local macro_rules | `(tactic| size_fits) => `(tactic| (simp only [PySem.sizeLine_eq, Array.size_push, List.size_toArray, List.length_append, List.length_cons, List.length_nil]; omega))
local macro_rules | `(tactic| walk_at "call type:bytes") => `(tactic| (k_here; (with_reducible show wpAny _ _ (call (Value.type _) [Value.ref _]) _ _ _); k_dflt (refine' bytes_K ?F ?N ?l ?i ?r ?z ?h ?_; (case F => k_asm); (case N => k_asm); (case l => is_list); (case i => assumption); (case r => assumption); (case z => size_fits); (case h => with_unfolding_all rfl); k_whole); intro h' t' k' F' N' hB'; clear hB'))
local macro_rules | `(tactic| walk_at "pyIter bytes") => `(tactic| (k_here; (with_reducible show wpAny _ _ (pyIter (Value.bytes _ _)) (CompPost _ _ _ _ _ _ _ _ _) _ _); k_dflt (refine' comp_bytes_id ?hh ?F ?N ?hk ?hl ?hd ?hz ?_; (case hh => exact rfl); (case F => k_asm); (case N => k_asm); (case hk => exact rfl); (case hl => exact fun _ => rfl); (case hd => decide); (case hz => omega); k_whole); intro D' vs' n' h' tk' F' N' hne' hi'))
local macro_rules | `(tactic| walk_at "inplaceOp LShift int int") => `(tactic| (k_here; refine PyProof.Rows.ilshift_int (by decide) (by assumption) ?_))
local macro_rules | `(tactic| walk_at "call builtin:iter") => `(tactic| (k_here; (with_reducible show wpAny _ _ (call (Value.builtin "iter") [Value.ref _]) _ _ _); k_dflt (refine' call_iter ?F ?N ?p ?_; (case F => k_asm); (case N => k_asm); (case p => k_mem)); intro I' h' F' N' l1))
local macro_rules | `(tactic| walk_at "binaryOp Pow int int") => `(tactic| (k_here; refine PyProof.Rows.pow_int_small (by first | assumption | omega) (by first | assumption | omega) (by decide) ?_))
local macro_rules | `(tactic| walk_at "binaryOp Mult int int") => `(tactic| (k_here; refine PyProof.Rows.mul_int ?_ (by assumption)))
local macro_rules | `(tactic| walk_at "binaryOp Add ref ref") => `(tactic| (k_here; k_dflt (refine' addLed ?F ?N ?a ?b ?z ?_; (case F => k_asm); (case N => k_asm); (case a => k_mem); (case b => k_mem); (case z => simp only [List.length_append]; omega)); intro D' h' F' N' l1; (try k_lt l1)))
local macro_rules | `(tactic| walk_at "exec For Tuple Name cons nil") => `(tactic| refine stop ?_)
theorem closeLaid {h₀ h' : Heap} {L I r D9 P9 a : Addr} {m' : Str → Option Value} {oD oa io : Obj} {x y ah lg : Int} {t3 t4 t5 t6 : Tok} {rv : List Value} {rn tk i : Nat} {tl news : Led} {σ1 : List Run} {σ : List Run × Int × Int} {le : Addr × Obj} {s : Shared} {Q : Flow → Shared → Prop}
    (F9 : Fr h₀ L h' m') (N9 : News h₀ L h' ((D9, oD) :: (P9, { cls := .type "tuple", data := .seq #[.int x t3, .int y t4] }) :: (a, oa) :: (I, io) :: (r, W.listOf (rv.toArray.push (.ref P9)) rn) :: tl))
    (hPr : @Ne Nat P9 r) (hPI : @Ne Nat P9 I) (hIr : @Ne Nat I r) (htl : ∀ p ∈ tl, p.1 ≠ r) (hIt : ∀ q ∈ tl, q.1 ≠ I) (hle : le ∈ tl) (hsub : ∀ p ∈ news, p ∈ tl) (hrv : Both (RunIn tl) rv σ1) (hσ : σ.1 = σ1 ++ [(x, y)]) (hrl : rv.length ≤ i)
    (h1 : m' (Str.ofString "runs") = some (.ref r)) (h2 : m' (Str.ofString "ahead") = some (.int ah t5)) (h3 : ah = σ.2.1) (h4 : m' (Str.ofString "length") = some (.int lg t6)) (h5 : lg = σ.2.2) :
    ForEnd h₀ L I io le (fun m' led => ∃ rv rn t1 t2 tl, led = (r, W.listOf (List.toArray rv) rn) :: tl ∧ (∀ p ∈ tl, p.1 ≠ r) ∧ (∀ p ∈ news, p ∈ tl) ∧ Both (RunIn tl) rv σ.1 ∧ rv.length ≤ i + 1 ∧
      m' (Str.ofString "runs") = some (.ref r) ∧ m' (Str.ofString "ahead") = some (.int σ.2.1 t1) ∧ m' (Str.ofString "length") = some (.int σ.2.2 t2)) s Q .next { s with heap := h', toks := tk } := by
  subst h3 h5
  rw [hσ]
  refine forEnd_next (led' := (r, W.listOf (List.toArray (rv ++ [.ref P9])) rn) :: (P9, tupO [.int x t3, .int y t4] 0) :: tl) F9 (newsSub N9 ?_) ?_ (.tail _ (.tail _ hle)) ⟨rv ++ [.ref P9], rn, t5, t6, _, rfl, ?_, fun q hq => .tail _ (hsub q hq), ?_, by simp; omega, h1, h2, h4⟩
  · intro q hq
    rcases List.mem_cons.mp hq with rfl | hq
    · exact .tail _ (.tail _ (.tail _ (.head _)))
    rcases List.mem_cons.mp hq with rfl | hq
    · rw [← List.push_toArray]; exact .tail _ (.tail _ (.tail _ (.tail _ (.head _))))
    rcases List.mem_cons.mp hq with rfl | hq
    · exact .tail _ (.head _)
    · exact .tail _ (.tail _ (.tail _ (.tail _ (.tail _ hq))))
  · intro q hq
    rcases List.mem_cons.mp hq with rfl | hq
    · exact fun e => hIr e.symm
    rcases List.mem_cons.mp hq with rfl | hq
    · exact hPI
    · exact hIt q hq
  · intro q hq
    rcases List.mem_cons.mp hq with rfl | hq
    · exact hPr
    · exact htl q hq
  · exact Both.append (.cons ⟨P9, t3, t4, 0, rfl, .head _⟩ .nil) (hrv.mono fun _ _ => RunIn.mono fun _ hp => .tail _ hp)
set_option maxRecDepth 100000 in
set_option maxHeartbeats 8000000 in
theorem laid_con (w : World) (mean : ExcName → Option Value) (mg mb : Str → Option Value) (v : Value) (ps : List Piece) (hwf : WfP ps) (hlen : ps.length ≤ 300) :
    ConD w mean mg mb 100 [v] 20 200 (fun news => PiecesAt news v ps) (fun led r => RunsAt led r (laid ps)) := by
  unfold ConD
  k_fill
  intro dp un gd cn cs a ccd cl outer A₀ base h₀ L m news s Q E B F X N T hk hR hd hu hret
  obtain ⟨l, vs, n, rfl, hl, hb⟩ := hR
  refine wpAny_call ?_
  k_dflt ktr_enter
  k_steps
  unfold Stop
  rename Fr _ _ _ _ => F1
  rename News _ _ _ _ => N1
  obtain ⟨g1, eg1⟩ := nameBase F1
  subst eg1
  obtain ⟨L1, eL1⟩ := nameFrame F1
  subst eL1
  obtain ⟨D1, r, eD, er⟩ := name2 N1
  subst eD er
  have hlr : ∀ p ∈ news, p.1 < r := by assumption
  refine wpAny_For ?_ (by intro _; rfl)
  (first | (k_unfold; (try dsimp only)) | (k_end; kc_close) | walk1 | (dsimp only; walk1) | (leave1; walk_say "STEP leave1"; (try dsimp only)))
  have hlv := hb.length
  refine forList (fun i m' led => ∃ rv rn t1 t2 tl, led = (r, W.listOf (List.toArray rv) rn) :: tl ∧ (∀ p ∈ tl, p.1 ≠ r) ∧ (∀ p ∈ news, p ∈ tl) ∧ Both (RunIn tl) rv ((ps.take i).foldl laidStep laid0).1 ∧ rv.length ≤ i ∧
      m' (Str.ofString "runs") = some (.ref r) ∧ m' (Str.ofString "ahead") = some (.int ((ps.take i).foldl laidStep laid0).2.1 t1) ∧ m' (Str.ofString "length") = some (.int ((ps.take i).foldl laidStep laid0).2.2 t2)) (by passes_own) rfl (l := l) (vs := vs) (nn := n) (news := (r, W.listOf #[] 0) :: news) (.tail _ hl) F1 (newsTail N1) ?_ ?_ ?_
  · exact ⟨[], 0, _, _, news, rfl, fun p hp => Nat.ne_of_lt (hlr p hp), fun _ h => h, .nil, Nat.le_refl _, rfl, rfl, rfl⟩
  · rintro i v m' led h tk I hv ⟨rv, rn, t1, t2, tl, rfl, htl, hsub, hrv, hrl, e1, e2, e3⟩ hlm hI F2 N2
    obtain ⟨p, hp, a, ta, tb, na, rfl, hmem⟩ := hb.get hv
    have hpm : p ∈ ps := List.mem_of_getElem? hp
    have hps := hwf.each p hpm
    have hsz : p.2.1.toNat ≤ 300 := Nat.le_trans (le_sum_of_mem (List.mem_map.mpr ⟨p, hpm, rfl⟩)) hwf.all
    have hil : i < ps.length := (List.getElem?_eq_some_iff.mp hp).1
    have ok := laid_take_ok hwf i
    rw [laid_succ hp]
    generalize (ps.take i).foldl laidStep laid0 = σ at *
    obtain ⟨rs, A, M⟩ := σ
    obtain ⟨x, sz, e⟩ := p
    dsimp only at *
    have hmul := mulOk (k := sz.toNat) ok.1 ok.2.1 (by omega)
    have har : @Ne Nat a r := htl _ (hsub _ hmem)
    have hIr : @Ne Nat I r := fun e => hI _ (.head _) e.symm
    have hrz : rv.length ≤ 400 := by omega
    have hsz0 : 0 ≤ sz := hps.1
    have hsz1 : sz ≤ 1000000 := by omega
    have N3 : News g1 L1 h ((a, tupO [.int x ta, .int sz tb, .bool e] na) :: (I, itO l (i + 1)) :: (r, W.listOf rv.toArray rn) :: tl) := newsSub N2 (by
      intro q hq
      rcases List.mem_cons.mp hq with rfl | hq
      · exact .tail _ (.tail _ (hsub _ hmem))
      · exact hq)
    have F3 := frCong (m' := fun y => if y = Str.ofString "runs" then some (.ref r) else if y = Str.ofString "ahead" then some (.int A t1) else if y = Str.ofString "length" then some (.int M t2) else m' y) F2 (by intro y; rw [pin1 e3, pin1 e2, pin1 e1])
    have hIt : ∀ q ∈ tl, q.1 ≠ I := fun q hq => hI q (.tail _ hq)
    have hlt' : (l, W.listOf vs.toArray n) ∈ tl := hsub _ hl
    clear F1 N1 F2 N2 e1 e2 e3
    cases e with
    | true =>
      k_steps
      rename Fr _ _ _ _ => F9
      rename News _ _ _ _ => N9
      obtain ⟨D9, P9, eD, eP⟩ := name2 N9
      subst eD eP
      have hPr : @Ne Nat P9 r := by omega
      have hPI : @Ne Nat P9 I := by omega
      exact closeLaid F9 N9 hPr hPI hIr htl hIt hlt' hsub hrv rfl hrl rfl rfl rfl rfl rfl
    | false =>
      k_steps
      rename Fr _ _ _ _ => F9
      rename News _ _ _ _ => N9
      exact forEnd_next (led' := (r, W.listOf rv.toArray rn) :: tl) F9 (newsTail N9) hI (.tail _ hlt') ⟨rv, rn, _, _, tl, rfl, htl, hsub, hrv, by omega, rfl, rfl, rfl⟩
  · rintro m' led h tk ⟨rv, rn, t1, t2, tl, rfl, htl, hsub, hrv, hrl, e1, e2, e3⟩ F2 N2
    have F3 := frCong (m' := fun y => if y = Str.ofString "runs" then some (.ref r) else m' y) F2 (by intro y; rw [pin1 e1])
    rw [hlv, List.take_length] at hrv
    clear F1 N1 F2 e1 e2 e3
    dsimp only
    k_steps
    exact hret _ _ _ _ (by k_asm) (by k_asm) (fun p hp => .tail _ (hsub p hp)) ⟨r, rv, rn, rfl, .head _, hrv.mono fun _ _ => RunIn.mono fun _ hp => .tail _ hp⟩

end Mine
end
/-! part ED -/
section
theorem Mine.offED : True := by (w_top off; trivial)
namespace Mine
local macro_rules | `(tactic| k_room) => `(tactic| ktr_room)
local macro_rules | `(tactic| walk_at "call type:type") => `(tactic| (k_here; (with_reducible show wpAny _ _ (call (Value.type "type") [_]) _ _ _); first | refine call_type_of (Tx := "bytes") rfl (by decide +kernel) ?_ | refine call_type_of (Tx := "bool") rfl (by decide +kernel) ?_ | refine call_type_of (Tx := "int") rfl (by decide +kernel) ?_))
local macro_rules | `(tactic| walk_at "getMethod bytes") => `(tactic| (k_here; first | with_reducible refine get_hex ?_ | with_reducible refine get_upper ?_))
local macro_rules | `(tactic| walk_at "getMethod str") => `(tactic| (k_here; with_reducible refine get_encode ?_))
local macro_rules | `(tactic| walk_at "call builtin:bytes.hex") => `(tactic| (k_here; (refine call_hex (by first | assumption | (simp only [hexOut_size] at *; omega)) ?_); intro _ _))
local macro_rules | `(tactic| walk_at "call builtin:str.encode") => `(tactic| (k_here; (refine call_encode (hexOut_small _) (by (show (hexOut _).size ≤ 1000); simp only [hexOut_size] at *; omega) (by (show 0 < (hexOut _).size); simp only [hexOut_size] at *; omega) ?_); intro _ _))
local macro_rules | `(tactic| walk_at "call builtin:bytes.upper") => `(tactic| (k_here; (refine call_upper (by simp only [Array.size_map, hexOut_size] at *; omega) ?_); intro _ _))
local macro_rules | `(tactic| walk_at "subscriptTail") => `(tactic| (k_here; (with_reducible show wpAny _ _ (subscriptTail _ _ (Value.bytes (List.toArray _) _) (Value.int (Builtin.bitAnd _ 63) _)) _ _ _); k_dflt (refine' bytes_item_K ?f ?a ?b ?e ?_; (case f => kby_size); (case a => exact (bitAnd63 _).1); (case b => exact (bitAnd63 _).2); (case e => exact rfl); k_whole)))
local macro_rules | `(tactic| k_all) => `(tactic| assumption)
local macro_rules | `(tactic| size_fits) => `(tactic| (simp only [PySem.sizeLine_eq, Array.size_push, List.size_toArray, List.length_append, List.length_cons, List.length_nil]; omega))
local macro_rules | `(tactic| walk_at "call type:bytes") => `(tactic| (k_here; (with_reducible show wpAny _ _ (call (Value.type _) [Value.ref _]) _ _ _); k_dflt (refine' bytes_K ?F ?N ?l ?i ?r ?z ?h ?_; (case F => k_asm); (case N => k_asm); (case l => is_list); (case i => assumption); (case r => assumption); (case z => size_fits); (case h => with_unfolding_all rfl); k_whole); intro h' t' k' F' N' hB'; clear hB'))
local macro_rules | `(tactic| walk_at "pyIter bytes") => `(tactic| (k_here; (with_reducible show wpAny _ _ (pyIter (Value.bytes _ _)) (CompPost _ _ _ _ _ _ _ _ _) _ _); k_dflt (refine' comp_bytes_id ?hh ?F ?N ?hk ?hl ?hd ?hz ?_; (case hh => exact rfl); (case F => k_asm); (case N => k_asm); (case hk => exact rfl); (case hl => exact fun _ => rfl); (case hd => decide); (case hz => omega); k_whole); intro D' vs' n' h' tk' F' N' hne' hi'))
local macro_rules | `(tactic| walk_at "inplaceOp LShift int int") => `(tactic| (k_here; refine PyProof.Rows.ilshift_int (by decide) (by assumption) ?_))
local macro_rules | `(tactic| walk_at "call builtin:iter") => `(tactic| (k_here; (with_reducible show wpAny _ _ (call (Value.builtin "iter") [Value.ref _]) _ _ _); k_dflt (refine' call_iter ?F ?N ?p ?_; (case F => k_asm); (case N => k_asm); (case p => k_mem)); intro I' h' F' N' l1))
local macro_rules | `(tactic| walk_at "binaryOp Pow int int") => `(tactic| (k_here; refine PyProof.Rows.pow_int_small (by first | assumption | omega) (by first | assumption | omega) (by decide) ?_))
local macro_rules | `(tactic| walk_at "binaryOp Mult int int") => `(tactic| (k_here; refine PyProof.Rows.mul_int ?_ (by assumption)))
local macro_rules | `(tactic| walk_at "binaryOp Add ref ref") => `(tactic| (k_here; k_dflt (refine' addLed ?F ?N ?a ?b ?z ?_; (case F => k_asm); (case N => k_asm); (case a => k_mem); (case b => k_mem); (case z => simp only [List.length_append]; omega)); intro D' h' F' N' l1; (try k_lt l1)))
local macro_rules | `(tactic| walk_at "exec For Tuple Name cons nil") => `(tactic| refine stop ?_)
local macro_rules | `(tactic| walk_at "call ref") => `(tactic| refine stop ?_)
local macro_rules | `(tactic| walk_at "binaryOp FloorDiv int int") => `(tactic| (k_here; refine PyProof.Rows.floordiv_int (pow64_ne _) ?_ (Or.inl (noPylong64 (by omega)))))
local macro_rules | `(tactic| walk_at "binaryOp Mod int int") => `(tactic| (k_here; refine PyProof.Rows.mod_int' (pow64_ne _) ?_))
theorem fdiv64 (x : Int) (k : Nat) : x.fdiv (64 ^ k) = x / 64 ^ k := Int.fdiv_eq_ediv_of_nonneg _ (Int.pow_nonneg (by decide))
theorem fmod64 (x : Int) (k : Nat) : x.fmod (64 ^ k) = x % 64 ^ k := Int.fmod_eq_emod_of_nonneg _ (Int.pow_nonneg (by decide))
section
variable {h₀ h' : Heap} {L I ra rb lu : Addr} {m' : Str → Option Value} {io : Obj} {av bv : List Value} {an bn tk i : Nat} {tl news led9 : Led} {σ : Ed} {le xa xb e0 : Addr × Obj} {s : Shared} {Q : Flow → Shared → Prop} {t1 t2 : Tok}
def EdJ (ra rb lu : Addr) (news : Led) (σ : Ed) (i : Nat) (m' : Str → Option Value) (led : Led) : Prop :=
  ∃ av an bv bn t1 t2 tl, led = (rb, W.listOf (List.toArray bv) bn) :: (ra, W.listOf (List.toArray av) an) :: tl ∧ (∀ p ∈ tl, p.1 ≠ ra) ∧ (∀ p ∈ tl, p.1 ≠ rb) ∧ (∀ p ∈ news, p ∈ tl) ∧
      Both (PieceIn tl) av σ.ah ∧ Both (PieceIn tl) bv σ.bh ∧ av.length ≤ i ∧ bv.length ≤ i ∧
      m' (Str.ofString "ahead") = some (.ref ra) ∧ m' (Str.ofString "behind") = some (.ref rb) ∧ m' (Str.ofString "stop") = some (.int σ.stop t1) ∧ m' (Str.ofString "start") = some (.int σ.start t2) ∧ m' (Str.ofString "put") = some (.ref lu)
theorem closeEd (new : Led) (F9 : Fr h₀ L h' m') (N9 : News h₀ L h' led9) (hI9 : (I, io) ∈ led9) (hb9 : (rb, W.listOf (List.toArray bv) bn) ∈ led9) (ha9 : (ra, W.listOf (List.toArray av) an) ∈ led9) (hn9 : ∀ p ∈ new, p ∈ led9) (ht9 : ∀ p ∈ tl, p ∈ led9)
    (hnn : ∀ p ∈ new, p.1 ≠ ra ∧ p.1 ≠ rb ∧ p.1 ≠ I) (hIa : @Ne Nat I ra) (hIb : @Ne Nat I rb) (hta : ∀ p ∈ tl, p.1 ≠ ra) (htb : ∀ p ∈ tl, p.1 ≠ rb) (hIt : ∀ q ∈ tl, q.1 ≠ I) (hle : le ∈ tl) (hsub : ∀ p ∈ news, p ∈ tl)
    (hA : Both (PieceIn (new ++ tl)) av σ.ah) (hB : Both (PieceIn (new ++ tl)) bv σ.bh) (hal : av.length ≤ i) (hbl : bv.length ≤ i)
    (h1 : m' (Str.ofString "ahead") = some (.ref ra)) (h2 : m' (Str.ofString "behind") = some (.ref rb)) (h3 : m' (Str.ofString "stop") = some (.int σ.stop t1)) (h4 : m' (Str.ofString "start") = some (.int σ.start t2)) (h5 : m' (Str.ofString "put") = some (.ref lu)) :
    ForEnd h₀ L I io le (EdJ ra rb lu news σ i) s Q .next { s with heap := h', toks := tk } := by
  refine forEnd_next (led' := (rb, W.listOf (List.toArray bv) bn) :: (ra, W.listOf (List.toArray av) an) :: (new ++ tl)) F9 (newsSub N9 ?_) ?_ (.tail _ (.tail _ (List.mem_append_right _ hle)))
    ⟨av, an, bv, bn, t1, t2, new ++ tl, rfl, fun p hp => (List.mem_append.mp hp).elim (fun q => (hnn p q).1) (hta p), fun p hp => (List.mem_append.mp hp).elim (fun q => (hnn p q).2.1) (htb p), fun q hq => List.mem_append_right _ (hsub q hq), hA, hB, hal, hbl, h1, h2, h3, h4, h5⟩
  · intro q hq
    rcases List.mem_cons.mp hq with rfl | hq
    · exact hI9
    rcases List.mem_cons.mp hq with rfl | hq
    · exact hb9
    rcases List.mem_cons.mp hq with rfl | hq
    · exact ha9
    · exact (List.mem_append.mp hq).elim (hn9 q) (ht9 q)
  · intro q hq
    rcases List.mem_cons.mp hq with rfl | hq
    · exact fun e => hIb e.symm
    rcases List.mem_cons.mp hq with rfl | hq
    · exact fun e => hIa e.symm
    · exact (List.mem_append.mp hq).elim (fun z => (hnn q z).2.2) (hIt q)
theorem closeEd0 (F9 : Fr h₀ L h' m') (N9 : News h₀ L h' (e0 :: (I, io) :: (rb, W.listOf (List.toArray bv) bn) :: (ra, W.listOf (List.toArray av) an) :: tl))
    (hIa : @Ne Nat I ra) (hIb : @Ne Nat I rb) (hta : ∀ p ∈ tl, p.1 ≠ ra) (htb : ∀ p ∈ tl, p.1 ≠ rb) (hIt : ∀ q ∈ tl, q.1 ≠ I) (hle : le ∈ tl) (hsub : ∀ p ∈ news, p ∈ tl)
    (hA : Both (PieceIn tl) av σ.ah) (hB : Both (PieceIn tl) bv σ.bh) (hal : av.length ≤ i) (hbl : bv.length ≤ i)
    (h1 : m' (Str.ofString "ahead") = some (.ref ra)) (h2 : m' (Str.ofString "behind") = some (.ref rb)) (h3 : m' (Str.ofString "stop") = some (.int σ.stop t1)) (h4 : m' (Str.ofString "start") = some (.int σ.start t2)) (h5 : m' (Str.ofString "put") = some (.ref lu)) :
    ForEnd h₀ L I io le (EdJ ra rb lu news σ i) s Q .next { s with heap := h', toks := tk } :=
  closeEd [] F9 N9 (.tail _ (.head _)) (.tail _ (.tail _ (.head _))) (.tail _ (.tail _ (.tail _ (.head _)))) (fun _ h => nomatch h) (fun _ hp => .tail _ (.tail _ (.tail _ (.tail _ hp)))) (fun _ h => nomatch h) hIa hIb hta htb hIt hle hsub hA hB hal hbl h1 h2 h3 h4 h5
theorem closeEd1 (F9 : Fr h₀ L h' m') (N9 : News h₀ L h' (xa :: e0 :: (I, io) :: (rb, W.listOf (List.toArray bv) bn) :: (ra, W.listOf (List.toArray av) an) :: tl)) (hx : @Ne Nat xa.1 ra ∧ @Ne Nat xa.1 rb ∧ @Ne Nat xa.1 I)
    (hIa : @Ne Nat I ra) (hIb : @Ne Nat I rb) (hta : ∀ p ∈ tl, p.1 ≠ ra) (htb : ∀ p ∈ tl, p.1 ≠ rb) (hIt : ∀ q ∈ tl, q.1 ≠ I) (hle : le ∈ tl) (hsub : ∀ p ∈ news, p ∈ tl)
    (hA : Both (PieceIn (xa :: tl)) av σ.ah) (hB : Both (PieceIn (xa :: tl)) bv σ.bh) (hal : av.length ≤ i) (hbl : bv.length ≤ i)
    (h1 : m' (Str.ofString "ahead") = some (.ref ra)) (h2 : m' (Str.ofString "behind") = some (.ref rb)) (h3 : m' (Str.ofString "stop") = some (.int σ.stop t1)) (h4 : m' (Str.ofString "start") = some (.int σ.start t2)) (h5 : m' (Str.ofString "put") = some (.ref lu)) :
    ForEnd h₀ L I io le (EdJ ra rb lu news σ i) s Q .next { s with heap := h', toks := tk } :=
  closeEd [xa] F9 N9 (.tail _ (.tail _ (.head _))) (.tail _ (.tail _ (.tail _ (.head _)))) (.tail _ (.tail _ (.tail _ (.tail _ (.head _))))) (fun _ h => by rw [List.mem_singleton.mp h]; exact .head _) (fun _ hp => .tail _ (.tail _ (.tail _ (.tail _ (.tail _ hp))))) (fun _ h => by rw [List.mem_singleton.mp h]; exact hx) hIa hIb hta htb hIt hle hsub hA hB hal hbl h1 h2 h3 h4 h5
theorem closeEd2 (F9 : Fr h₀ L h' m') (N9 : News h₀ L h' (xa :: xb :: e0 :: (I, io) :: (rb, W.listOf (List.toArray bv) bn) :: (ra, W.listOf (List.toArray av) an) :: tl)) (hx : @Ne Nat xa.1 ra ∧ @Ne Nat xa.1 rb ∧ @Ne Nat xa.1 I) (hy : @Ne Nat xb.1 ra ∧ @Ne Nat xb.1 rb ∧ @Ne Nat xb.1 I)
    (hIa : @Ne Nat I ra) (hIb : @Ne Nat I rb) (hta : ∀ p ∈ tl, p.1 ≠ ra) (htb : ∀ p ∈ tl, p.1 ≠ rb) (hIt : ∀ q ∈ tl, q.1 ≠ I) (hle : le ∈ tl) (hsub : ∀ p ∈ news, p ∈ tl)
    (hA : Both (PieceIn (xa :: xb :: tl)) av σ.ah) (hB : Both (PieceIn (xa :: xb :: tl)) bv σ.bh) (hal : av.length ≤ i) (hbl : bv.length ≤ i)
    (h1 : m' (Str.ofString "ahead") = some (.ref ra)) (h2 : m' (Str.ofString "behind") = some (.ref rb)) (h3 : m' (Str.ofString "stop") = some (.int σ.stop t1)) (h4 : m' (Str.ofString "start") = some (.int σ.start t2)) (h5 : m' (Str.ofString "put") = some (.ref lu)) :
    ForEnd h₀ L I io le (EdJ ra rb lu news σ i) s Q .next { s with heap := h', toks := tk } :=
  closeEd [xa, xb] F9 N9 (.tail _ (.tail _ (.tail _ (.head _)))) (.tail _ (.tail _ (.tail _ (.tail _ (.head _))))) (.tail _ (.tail _ (.tail _ (.tail _ (.tail _ (.head _)))))) (fun _ h => by
      rcases List.mem_cons.mp h with rfl | h
      · exact .head _
      · rw [List.mem_singleton.mp h]; exact .tail _ (.head _)) (fun _ hp => .tail _ (.tail _ (.tail _ (.tail _ (.tail _ (.tail _ hp)))))) (fun _ h => by
      rcases List.mem_cons.mp h with rfl | h
      · exact hx
      · rw [List.mem_singleton.mp h]; exact hy) hIa hIb hta htb hIt hle hsub hA hB hal hbl h1 h2 h3 h4 h5
theorem pieces_up {led : Led} {x : Addr × Obj} {vs : List Value} {ps : List Piece} (h : Both (PieceIn led) vs ps) : Both (PieceIn (x :: led)) vs ps := h.mono fun _ _ => PieceIn.mono fun _ hp => .tail _ hp
theorem pieces_snoc {led : Led} {vs : List Value} {ps : List Piece} {v : Value} {p : Piece} (h : Both (PieceIn led) vs ps) (hv : PieceIn led v p) : Both (PieceIn led) (vs ++ [v]) (ps ++ [p]) := Both.append (.cons hv .nil) h
end
set_option maxRecDepth 100000 in
set_option maxHeartbeats 8000000 in
theorem edited_con (w : World) (mean : ExcName → Option Value) (mg mb : Str → Option Value) (v u : Value) (t1 t2 : Tok) (runs : List Run) (put : List Piece) (place gone : Int) (hr : ∀ p ∈ runs, 0 ≤ p.2 ∧ p.2 ≤ 300) (h0 : 0 ≤ place) (h1 : 0 ≤ gone) (hl1 : runs.length ≤ 100) (hl2 : put.length ≤ 100)
    (hwf : WfP (edited runs place gone put)) :
    ConD w mean mg mb 107 [v, .int place t1, .int gone t2, u] 40 400 (fun news => RunsAt news v runs ∧ PiecesAt news u put) (fun led r => RunsAt led r (laid (edited runs place gone put))) := by
  unfold ConD
  k_fill
  intro dp un gd cn cs a ccd cl outer A₀ base h₀ L m news s Q E B F X N T hk hR hd hu hret
  obtain ⟨⟨l, vs, n, rfl, hl, hb⟩, ⟨lu, us, nu, rfl, hlu, hbu⟩⟩ := hR
  refine wpAny_call ?_
  k_dflt ktr_enter
  k_steps
  unfold Stop
  rename Fr _ _ _ _ => F1
  rename News _ _ _ _ => N1
  obtain ⟨g1, eg1⟩ := nameBase F1
  subst eg1
  obtain ⟨L1, eL1⟩ := nameFrame F1
  subst eL1
  obtain ⟨D1, D2, rb, ra, eD, eD', eb, ea⟩ := name4 N1
  subst eD eD' eb ea
  have hlr : ∀ p ∈ news, p.1 < ra := by assumption
  have hall : ra < rb ∧ AllLt rb news := by assumption
  have hlb : ∀ p ∈ news, p.1 < rb := fun p hp => Nat.lt_trans (hlr p hp) hall.1
  have hab : @Ne Nat ra rb := Nat.ne_of_lt hall.1
  refine wpAny_For ?_ (by intro _; rfl)
  (first | (k_unfold; (try dsimp only)) | (k_end; kc_close) | walk1 | (dsimp only; walk1) | (leave1; walk_say "STEP leave1"; (try dsimp only)))
  have hlv := hb.length
  have hnn := fun i => edit_nn (runs.take i) (edit0 place gone) (fun p hp => (hr p (List.mem_of_mem_take hp)).1) ⟨h0, Int.add_nonneg h0 h1⟩
  refine forList (fun i => EdJ ra rb lu news ((runs.take i).foldl editStep (edit0 place gone)) i)
      (by passes_own) rfl (l := l) (vs := vs) (nn := n) (news := (rb, W.listOf #[] 0) :: (ra, W.listOf #[] 0) :: news) (.tail _ (.tail _ hl)) F1 (newsTail (newsTail N1)) ?_ ?_ ?_
  · exact ⟨[], 0, [], 0, _, _, news, rfl, fun p hp => Nat.ne_of_lt (hlr p hp), fun p hp => Nat.ne_of_lt (hlb p hp), fun _ h => h, .nil, .nil, Nat.le_refl _, Nat.le_refl _, rfl, rfl, rfl, rfl, rfl⟩
  · rintro i v m' led h tk I hv ⟨av, an, bv, bn, t1, t2, tl, rfl, hta, htb, hsub, hav, hbv, hal, hbl, e1, e2, e3, e4, e5⟩ hlm hI F2 N2
    obtain ⟨p, hp, a, tx, ty, na, rfl, hmem⟩ := hb.get hv
    have hps := hr p (List.mem_of_getElem? hp)
    have hil : i < runs.length := (List.getElem?_eq_some_iff.mp hp).1
    have ok := hnn i
    rw [edit_succ hp]
    generalize (runs.take i).foldl editStep (edit0 place gone) = σ at *
    obtain ⟨ah, bh, st, sr⟩ := σ
    obtain ⟨x, sz⟩ := p
    dsimp only at *
    have haa : @Ne Nat a ra := hta _ (hsub _ hmem)
    have hab' : @Ne Nat a rb := htb _ (hsub _ hmem)
    have hIa : @Ne Nat I ra := fun e => hI _ (.tail _ (.head _)) e.symm
    have hIb : @Ne Nat I rb := fun e => hI _ (.head _) e.symm
    have hz1 : av.length ≤ 200 := by omega
    have hz2 : bv.length ≤ 200 := by omega
    have N3 : News g1 L1 h ((a, tupO [.int x tx, .int sz ty] na) :: (I, itO l (i + 1)) :: (rb, W.listOf bv.toArray bn) :: (ra, W.listOf av.toArray an) :: tl) := newsSub N2 (by
      intro q hq
      rcases List.mem_cons.mp hq with rfl | hq
      · exact .tail _ (.tail _ (.tail _ (hsub _ hmem)))
      · exact hq)
    have F3 := frCong (m' := fun y => if y = Str.ofString "ahead" then some (.ref ra) else if y = Str.ofString "behind" then some (.ref rb) else if y = Str.ofString "stop" then some (.int st t1) else if y = Str.ofString "start" then some (.int sr t2) else if y = Str.ofString "put" then some (.ref lu) else m' y) F2 (by intro y; rw [pin1 e5, pin1 e4, pin1 e3, pin1 e2, pin1 e1])
    have hIt : ∀ q ∈ tl, q.1 ≠ I := fun q hq => hI q (.tail _ (.tail _ hq))
    have hlt' : (l, W.listOf vs.toArray n) ∈ tl := hsub _ hl
    clear F1 N1 F2 N2 e1 e2 e3 e4 e5
    have hz3 : (av ++ [Value.none]).length ≤ i + 1 := by simp; omega
    have hz4 : (bv ++ [Value.none]).length ≤ i + 1 := by simp; omega
    rw [List.length_append] at hz3 hz4
    k_steps
    · rename Fr _ _ _ _ => F9
      rename News _ _ _ _ => N9
      simp only [fdiv64, fmod64, List.push_toArray] at N9
      rw [show editStep ⟨ah, bh, st, sr⟩ (x, sz) = ⟨ah ++ [(x, sz, true)], bh, st - sz, sr - sz⟩ by unfold editStep edA edB; dsimp only; rw [if_pos (by assumption), if_pos (by assumption)]]
      exact closeEd1 F9 N9 ⟨by dsimp only; omega, by dsimp only; omega, by dsimp only; omega⟩ hIa hIb hta htb hIt hlt' hsub (pieces_snoc (pieces_up hav) ⟨_, _, _, _, rfl, .head _⟩) (pieces_up hbv) (by simpa using hz3) (by omega) rfl rfl rfl rfl rfl
    · rename Fr _ _ _ _ => F9
      rename News _ _ _ _ => N9
      simp only [fdiv64, fmod64, List.push_toArray] at N9
      rw [show editStep ⟨ah, bh, st, sr⟩ (x, sz) = ⟨ah ++ [(x, sz, true)], bh ++ [(x % 64 ^ (sz - sr).toNat, sz - sr, true)], st - sz, 0⟩ by unfold editStep edA edB; dsimp only; rw [if_pos (by assumption), if_neg (by assumption)]]
      exact closeEd2 F9 N9 ⟨by dsimp only; omega, by dsimp only; omega, by dsimp only; omega⟩ ⟨by dsimp only; omega, by dsimp only; omega, by dsimp only; omega⟩ hIa hIb hta htb hIt hlt' hsub (pieces_snoc (pieces_up (pieces_up hav)) ⟨_, _, _, _, rfl, .tail _ (.head _)⟩) (pieces_snoc (pieces_up (pieces_up hbv)) ⟨_, _, _, _, rfl, .head _⟩) (by simpa using hz3) (by simpa using hz4) rfl rfl rfl rfl rfl
    · rename Fr _ _ _ _ => F9
      rename News _ _ _ _ => N9
      simp only [fdiv64, fmod64, List.push_toArray] at N9
      rw [show editStep ⟨ah, bh, st, sr⟩ (x, sz) = ⟨ah ++ [(x / 64 ^ (sz - st).toNat, st, false)], bh, 0, sr - sz⟩ by unfold editStep edA edB; dsimp only; rw [if_neg (by assumption), if_pos (by assumption), if_pos (by assumption)]]
      exact closeEd1 F9 N9 ⟨by dsimp only; omega, by dsimp only; omega, by dsimp only; omega⟩ hIa hIb hta htb hIt hlt' hsub (pieces_snoc (pieces_up hav) ⟨_, _, _, _, rfl, .head _⟩) (pieces_up hbv) (by simpa using hz3) (by omega) rfl rfl rfl rfl rfl
    · rename Fr _ _ _ _ => F9
      rename News _ _ _ _ => N9
      simp only [fdiv64, fmod64, List.push_toArray] at N9
      rw [show editStep ⟨ah, bh, st, sr⟩ (x, sz) = ⟨ah ++ [(x / 64 ^ (sz - st).toNat, st, false)], bh ++ [(x % 64 ^ (sz - sr).toNat, sz - sr, true)], 0, 0⟩ by unfold editStep edA edB; dsimp only; rw [if_neg (by assumption), if_pos (by assumption), if_neg (by assumption)]]
      exact closeEd2 F9 N9 ⟨by dsimp only; omega, by dsimp only; omega, by dsimp only; omega⟩ ⟨by dsimp only; omega, by dsimp only; omega, by dsimp only; omega⟩ hIa hIb hta htb hIt hlt' hsub (pieces_snoc (pieces_up (pieces_up hav)) ⟨_, _, _, _, rfl, .tail _ (.head _)⟩) (pieces_snoc (pieces_up (pieces_up hbv)) ⟨_, _, _, _, rfl, .head _⟩) (by simpa using hz3) (by simpa using hz4) rfl rfl rfl rfl rfl
    · rename Fr _ _ _ _ => F9
      rename News _ _ _ _ => N9
      rw [show editStep ⟨ah, bh, st, sr⟩ (x, sz) = ⟨ah, bh, st, sr - sz⟩ by unfold editStep edA edB; dsimp only; rw [if_neg (by assumption), if_neg (by assumption), if_pos (by assumption)]]
      exact closeEd0 F9 N9 hIa hIb hta htb hIt hlt' hsub hav hbv (by omega) (by omega) rfl rfl rfl rfl rfl
    · rename Fr _ _ _ _ => F9
      rename News _ _ _ _ => N9
      simp only [fdiv64, fmod64, List.push_toArray] at N9
      rw [show editStep ⟨ah, bh, st, sr⟩ (x, sz) = ⟨ah, bh ++ [(x % 64 ^ (sz - sr).toNat, sz - sr, true)], st, 0⟩ by unfold editStep edA edB; dsimp only; rw [if_neg (by assumption), if_neg (by assumption), if_neg (by assumption)]]
      exact closeEd1 F9 N9 ⟨by dsimp only; omega, by dsimp only; omega, by dsimp only; omega⟩ hIa hIb hta htb hIt hlt' hsub (pieces_up hav) (pieces_snoc (pieces_up hbv) ⟨_, _, _, _, rfl, .head _⟩) (by omega) (by simpa using hz4) rfl rfl rfl rfl rfl
  · rintro m' led h tk ⟨av, an, bv, bn, t1, t2, tl, rfl, hta, htb, hsub, hav, hbv, hal, hbl, e1, e2, e3, e4, e5⟩ F2 N2
    have F3 := frCong (m' := fun y => if y = Str.ofString "ahead" then some (.ref ra) else if y = Str.ofString "behind" then some (.ref rb) else if y = Str.ofString "put" then some (.ref lu) else m' y) F2 (by intro y; rw [pin1 e5, pin1 e2, pin1 e1])
    rw [hlv, List.take_length] at hav hbv
    clear F1 N1 F2 e1 e2 e3 e4 e5
    have N3 : News g1 L1 h ((rb, W.listOf bv.toArray bn) :: (ra, W.listOf av.toArray an) :: (lu, W.listOf us.toArray nu) :: tl) := newsSub N2 (by
      intro q hq
      rcases List.mem_cons.mp hq with rfl | hq
      · exact .head _
      rcases List.mem_cons.mp hq with rfl | hq
      · exact .tail _ (.head _)
      rcases List.mem_cons.mp hq with rfl | hq
      · exact .tail _ (.tail _ (hsub _ hlu))
      · exact .tail _ (.tail _ hq))
    clear N2
    dsimp only
    have hz1 : av.length ≤ 100 := by omega
    have hz2 : bv.length ≤ 100 := by omega
    have hz3 : us.length ≤ 100 := by have := hbu.length; omega
    k_steps
    unfold Stop
    rename Fr _ _ _ _ => F9
    rename News _ _ _ _ => N9
    have hpl : (edited runs place gone put).length ≤ 300 := by
      have e1 := hav.length
      have e2 := hbv.length
      have e3 := hbu.length
      unfold edited
      dsimp only
      simp only [List.length_append]
      omega
    have sub9 : ∀ p ∈ tl, p ∈ _ := fun p hp => newsSubRefl N9 p (.tail _ (.tail _ (.tail _ (.tail _ (.tail _ hp)))))
    k_dflt (refine' conDUse (laid_con w mean mg mb _ (edited runs place gone put) hwf hpl) ?k1 F9 ?k3 N9 ?k5 ?kK ?kp ?kd ?ku ?_; (case k1 => k_asm); (case k3 => k_asm); (case k5 => k_asm); (case kK => exact rfl); (case kd => ktr_room); (case ku => ktr_units))
    · refine ⟨_, _, _, rfl, .head _, Both.append (hbv.mono fun _ _ => PieceIn.mono sub9) (Both.append (hbu.mono fun _ _ => PieceIn.mono fun p hp => sub9 p (hsub p hp)) (hav.mono fun _ _ => PieceIn.mono sub9))⟩
    · intro r led h5 tk5 F5 N5 hs5 hr5
      dsimp only
      k_steps
      refine hret _ _ _ _ (by k_asm) (by k_asm) (fun p hp => hs5 _ (sub9 p (hsub p hp))) hr5

end Mine
end
/-! part SX -/
section
theorem Mine.offSX : True := by (w_top off; trivial)
namespace Mine
local macro_rules | `(tactic| k_room) => `(tactic| ktr_room)
local macro_rules | `(tactic| walk_at "call type:type") => `(tactic| (k_here; (with_reducible show wpAny _ _ (call (Value.type "type") [_]) _ _ _); first | refine call_type_of (Tx := "bytes") rfl (by decide +kernel) ?_ | refine call_type_of (Tx := "bool") rfl (by decide +kernel) ?_ | refine call_type_of (Tx := "int") rfl (by decide +kernel) ?_))
local macro_rules | `(tactic| walk_at "getMethod bytes") => `(tactic| (k_here; first | with_reducible refine get_hex ?_ | with_reducible refine get_upper ?_))
local macro_rules | `(tactic| walk_at "getMethod str") => `(tactic| (k_here; with_reducible refine get_encode ?_))
local macro_rules | `(tactic| walk_at "call builtin:bytes.hex") => `(tactic| (k_here; (refine call_hex (by first | assumption | (simp only [hexOut_size] at *; omega)) ?_); intro _ _))
local macro_rules | `(tactic| walk_at "call builtin:str.encode") => `(tactic| (k_here; (refine call_encode (hexOut_small _) (by (show (hexOut _).size ≤ 1000); simp only [hexOut_size] at *; omega) (by (show 0 < (hexOut _).size); simp only [hexOut_size] at *; omega) ?_); intro _ _))
local macro_rules | `(tactic| walk_at "call builtin:bytes.upper") => `(tactic| (k_here; (refine call_upper (by simp only [Array.size_map, hexOut_size] at *; omega) ?_); intro _ _))
local macro_rules | `(tactic| walk_at "subscriptTail") => `(tactic| (k_here; (with_reducible show wpAny _ _ (subscriptTail _ _ (Value.bytes (List.toArray _) _) (Value.int (Builtin.bitAnd _ 63) _)) _ _ _); k_dflt (refine' bytes_item_K ?f ?a ?b ?e ?_; (case f => kby_size); (case a => exact (bitAnd63 _).1); (case b => exact (bitAnd63 _).2); (case e => exact rfl); k_whole)))
local macro_rules | `(tactic| k_all) => `(tactic| assumption)
local macro_rules | `(tactic| size_fits) => `(tactic| (simp only [PySem.sizeLine_eq, Array.size_push, List.size_toArray, List.length_append, List.length_cons, List.length_nil]; omega))
local macro_rules | `(tactic| walk_at "call type:bytes") => `(tactic| (k_here; (with_reducible show wpAny _ _ (call (Value.type _) [Value.ref _]) _ _ _); k_dflt (refine' bytes_K ?F ?N ?l ?i ?r ?z ?h ?_; (case F => k_asm); (case N => k_asm); (case l => is_list); (case i => assumption); (case r => assumption); (case z => size_fits); (case h => with_unfolding_all rfl); k_whole); intro h' t' k' F' N' hB'; clear hB'))
local macro_rules | `(tactic| walk_at "pyIter bytes") => `(tactic| (k_here; (with_reducible show wpAny _ _ (pyIter (Value.bytes _ _)) (CompPost _ _ _ _ _ _ _ _ _) _ _); k_dflt (refine' comp_bytes_id ?hh ?F ?N ?hk ?hl ?hd ?hz ?_; (case hh => exact rfl); (case F => k_asm); (case N => k_asm); (case hk => exact rfl); (case hl => exact fun _ => rfl); (case hd => decide); (case hz => omega); k_whole); intro D' vs' n' h' tk' F' N' hne' hi'))
local macro_rules | `(tactic| walk_at "inplaceOp LShift int int") => `(tactic| (k_here; refine PyProof.Rows.ilshift_int (by decide) (by assumption) ?_))
local macro_rules | `(tactic| walk_at "call builtin:iter") => `(tactic| (k_here; (with_reducible show wpAny _ _ (call (Value.builtin "iter") [Value.ref _]) _ _ _); k_dflt (refine' call_iter ?F ?N ?p ?_; (case F => k_asm); (case N => k_asm); (case p => k_mem)); intro I' h' F' N' l1))
local macro_rules | `(tactic| walk_at "binaryOp Pow int int") => `(tactic| (k_here; refine PyProof.Rows.pow_int_small (by first | assumption | omega) (by first | assumption | omega) (by decide) ?_))
local macro_rules | `(tactic| walk_at "binaryOp Mult int int") => `(tactic| (k_here; refine PyProof.Rows.mul_int ?_ (by assumption)))
local macro_rules | `(tactic| walk_at "binaryOp Add ref ref") => `(tactic| (k_here; k_dflt (refine' addLed ?F ?N ?a ?b ?z ?_; (case F => k_asm); (case N => k_asm); (case a => k_mem); (case b => k_mem); (case z => simp only [List.length_append]; omega)); intro D' h' F' N' l1; (try k_lt l1)))
local macro_rules | `(tactic| walk_at "exec For Name Name cons nil") => `(tactic| refine stop ?_)
local macro_rules | `(tactic| walk_at "pyIter ref") => `(tactic| refine stop ?_)
local macro_rules | `(tactic| walk_at "binaryOp FloorDiv int int") => `(tactic| (k_here; refine PyProof.Rows.floordiv_int (pow16_ne _) ?_ (Or.inl (noPylong16 (by omega)))))
set_option maxRecDepth 100000 in
set_option maxHeartbeats 8000000 in
theorem sixteen_con (w : World) (mean : ExcName → Option Value) (mg mb : Str → Option Value) (v : Value) (page : List Int) (hpg : ∀ x ∈ page, 0 ≤ x ∧ x < 16777216) (hlen : page.length ≤ 20) :
    ConD w mean mg mb 86 [v] 20 200 (fun news => IntsAt news v page) (fun led r => PiecesAt led r (pieces16 page)) := by
  unfold ConD
  k_fill
  intro dp un gd cn cs a ccd cl outer A₀ base h₀ L m news s Q E B F X N T hk hR hd hu hret
  obtain ⟨l, vs, n, rfl, hl, hi⟩ := hR
  refine wpAny_call ?_
  k_dflt ktr_enter
  k_steps
  unfold Stop
  rename Fr _ _ _ _ => F1
  rename News _ _ _ _ => N1
  obtain ⟨g1, eg1⟩ := nameBase F1
  subst eg1
  obtain ⟨L1, eL1⟩ := nameFrame F1
  subst eL1
  obtain ⟨r, er⟩ := nameHead N1
  subst er
  have hlr : ∀ p ∈ news, p.1 < r := by assumption
  refine wpAny_For ?_ (by intro _; rfl)
  (first | (k_unfold; (try dsimp only)) | (k_end; kc_close) | walk1 | (dsimp only; walk1) | (leave1; walk_say "STEP leave1"; (try dsimp only)))
  have hlv := hi.length
  refine forList (fun i m' led => ∃ rv rn tl, led = (r, W.listOf (List.toArray rv) rn) :: tl ∧ (∀ p ∈ tl, p.1 ≠ r) ∧ (∀ p ∈ news, p ∈ tl) ∧ Both (PieceIn tl) rv (pieces16 (page.take i)) ∧ rv.length ≤ 6 * i ∧
      m' (Str.ofString "pieces") = some (.ref r)) (by passes_own) rfl (l := l) (vs := vs) (nn := n) (news := (r, W.listOf #[] 0) :: news) (.tail _ hl) F1 N1 ?_ ?_ ?_
  · exact ⟨[], 0, news, rfl, fun p hp => Nat.ne_of_lt (hlr p hp), fun _ h => h, .nil, Nat.le_refl _, rfl⟩
  · rintro i v m' led h tk I hv ⟨rv, rn, tl, rfl, htl, hsub, hrv, hrl, e1⟩ hlm hI F2 N2
    have hil : i < page.length := by have := (List.getElem?_eq_some_iff.mp hv).1; omega
    obtain ⟨t, hx⟩ := hi.get i _ (List.getElem?_eq_getElem hil)
    rw [hx] at hv
    cases hv
    have hxx := hpg _ (List.getElem_mem hil)
    have hIr : @Ne Nat I r := fun e => hI _ (.head _) e.symm
    have hrz : rv.length ≤ 400 := by omega
    have F3 := frCong (m' := fun y => if y = Str.ofString "pieces" then some (.ref r) else m' y) F2 (by intro y; rw [pin1 e1])
    have hIt : ∀ q ∈ tl, q.1 ≠ I := fun q hq => hI q (.tail _ hq)
    have hlt' : (l, W.listOf vs.toArray n) ∈ tl := hsub _ hl
    have htk : page.take (i + 1) = page.take i ++ [page[i]] := by rw [List.take_add_one, List.getElem?_eq_getElem hil]; rfl
    have hp16 : pieces16 (page.take (i + 1)) = pieces16 (page.take i) ++ digs16 page[i] := by rw [htk]; unfold pieces16; rw [List.flatMap_append, List.flatMap_cons, List.flatMap_nil, List.append_nil]
    rw [hp16]
    generalize page[i] = x at *
    generalize pieces16 (page.take i) = pre at *
    clear F1 N1 F2 e1
    k_steps
    unfold Stop
    rename Fr _ _ _ _ => F1
    rename News _ _ _ _ => N1
    rename IsRange _ _ _ _ _ _ _ _ => hrg
    refine iterRange (n := 6) (fun j => LayJ r I (itO l (i + 1)) tl rv.length x t (pre ++ (List.range j).map (dig16 x)) j) rfl hrg (by decide) (by decide) F1 (newsSub N1 (news' := (I, itO l (i + 1)) :: (r, W.listOf rv.toArray rn) :: tl) ?_) ?_ ?_ ?_
    · intro q hq
      first | exact hq | exact .tail _ hq
    · exact ⟨rv, rn, tl, rfl, htl, hIt, fun _ h => h, by simpa using hrv, by omega, rfl, rfl⟩
    · rintro j tj m₁ nx h5 tk5 own hj hoff ⟨rv, rn, tl', rfl, htl', hIt', hsub', hrv', hrl', e1, e2⟩ F2 N2
      have F3 := frCong (m' := fun y => if y = Str.ofString "k" then some (.int (5 + (j : Int) * -1) tj) else if y = Str.ofString "pieces" then some (.ref r) else if y = Str.ofString "triple" then some (.int x t) else m₁ y) F2 (by intro y; rw [pin1 e2, pin1 e1])
      have hne : ∀ p ∈ tl' ++ own, p.1 ≠ r := fun p hp => (List.mem_append.mp hp).elim (htl' p) fun q => hoff p q r (by simp)
      rw [List.cons_append, List.cons_append] at N2
      have hrz : rv.length ≤ 500 := by omega
      clear F1 N1 F2 e1 e2
      rw [range_map_succ, ← List.append_assoc]
      k_steps
      · rename Fr _ _ _ _ => F9
        rename News _ _ _ _ => N9
        obtain ⟨P, eP⟩ := nameHead N9
        subst eP
        have hlt9 : @LT.lt Nat _ I P ∧ @LT.lt Nat _ r P ∧ AllLt P (tl' ++ own) := by assumption
        have hdg : dig16 x j = ((x.fdiv (16 ^ (5 + (j : Int) * -1).toNat)).fmod 16 + 48, 1, true) := by unfold dig16 piece16; rw [← val16 hj]; exact if_pos (by assumption)
        rw [hdg]
        exact layEnd F9 N9 (by omega) (by omega) (fun p hp => Nat.ne_of_lt (allLt_all _ hlt9.2.2 p (List.mem_append_right _ hp))) hoff htl' hIt' hsub' hrv' hrl' rfl rfl
      · rename Fr _ _ _ _ => F9
        rename News _ _ _ _ => N9
        obtain ⟨P, eP⟩ := nameHead N9
        subst eP
        have hlt9 : @LT.lt Nat _ I P ∧ @LT.lt Nat _ r P ∧ AllLt P (tl' ++ own) := by assumption
        have hdg : dig16 x j = ((x.fdiv (16 ^ (5 + (j : Int) * -1).toNat)).fmod 16 - 9, 1, false) := by unfold dig16 piece16; rw [← val16 hj]; exact if_neg (by assumption)
        rw [hdg]
        exact layEnd F9 N9 (by omega) (by omega) (fun p hp => Nat.ne_of_lt (allLt_all _ hlt9.2.2 p (List.mem_append_right _ hp))) hoff htl' hIt' hsub' hrv' hrl' rfl rfl
    · rintro m₁ nx h5 tk5 ⟨rv, rn, tl', rfl, htl', hIt', hsub', hrv', hrl', e1, e2⟩ F2 N2
      have F3 := frCong (m' := fun y => if y = Str.ofString "pieces" then some (.ref r) else m₁ y) F2 (by intro y; rw [pin1 e1])
      clear F1 N1 F2
      k_steps
      rename Fr _ _ _ _ => F9
      rename News _ _ _ _ => N9
      exact forEnd_next (led' := (r, W.listOf (List.toArray rv) rn) :: tl') F9 N9 (fun q hq => (List.mem_cons.mp hq).elim (fun e => e ▸ fun z => hIr z.symm) (hIt' q)) (.tail _ (hsub' _ hlt')) ⟨rv, rn, tl', rfl, htl', fun q hq => hsub' q (hsub q hq), hrv', by omega, rfl⟩
  · rintro m' led h tk ⟨rv, rn, tl, rfl, htl, hsub, hrv, hrl, e1⟩ F2 N2
    have F3 := frCong (m' := fun y => if y = Str.ofString "pieces" then some (.ref r) else m' y) F2 (by intro y; rw [pin1 e1])
    rw [hlv, List.take_length] at hrv
    clear F1 N1 F2 e1
    dsimp only
    k_steps
    exact hret _ _ _ _ (by k_asm) (by k_asm) (fun p hp => .tail _ (hsub p hp)) ⟨r, rv, rn, rfl, .head _, hrv.mono fun _ _ => PieceIn.mono fun _ hp => .tail _ hp⟩

end Mine
end
/-! part SY -/
section
theorem Mine.offSY : True := by (w_top off; trivial)
namespace Mine
local macro_rules | `(tactic| walk_at "never") => `(tactic| fail)
local macro_rules | `(tactic| k_room) => `(tactic| ktr_room)
local macro_rules | `(tactic| walk_at "call type:type") => `(tactic| (k_here; (with_reducible show wpAny _ _ (call (Value.type "type") [_]) _ _ _); first | refine call_type_of (Tx := "bytes") rfl (by decide +kernel) ?_ | refine call_type_of (Tx := "bool") rfl (by decide +kernel) ?_ | refine call_type_of (Tx := "int") rfl (by decide +kernel) ?_))
local macro_rules | `(tactic| walk_at "getMethod bytes") => `(tactic| (k_here; first | with_reducible refine get_hex ?_ | with_reducible refine get_upper ?_))
local macro_rules | `(tactic| walk_at "getMethod str") => `(tactic| (k_here; with_reducible refine get_encode ?_))
local macro_rules | `(tactic| walk_at "call builtin:bytes.hex") => `(tactic| (k_here; (refine call_hex (by first | assumption | (simp only [hexOut_size] at *; omega)) ?_); intro _ _))
local macro_rules | `(tactic| walk_at "call builtin:str.encode") => `(tactic| (k_here; (refine call_encode (hexOut_small _) (by (show (hexOut _).size ≤ 1000); simp only [hexOut_size] at *; omega) (by (show 0 < (hexOut _).size); simp only [hexOut_size] at *; omega) ?_); intro _ _))
local macro_rules | `(tactic| walk_at "call builtin:bytes.upper") => `(tactic| (k_here; (refine call_upper (by simp only [Array.size_map, hexOut_size] at *; omega) ?_); intro _ _))
local macro_rules | `(tactic| walk_at "subscriptTail") => `(tactic| (k_here; (with_reducible show wpAny _ _ (subscriptTail _ _ (Value.bytes (List.toArray _) _) (Value.int (Builtin.bitAnd _ 63) _)) _ _ _); k_dflt (refine' bytes_item_K ?f ?a ?b ?e ?_; (case f => kby_size); (case a => exact (bitAnd63 _).1); (case b => exact (bitAnd63 _).2); (case e => exact rfl); k_whole)))
local macro_rules | `(tactic| k_all) => `(tactic| assumption)
local macro_rules | `(tactic| size_fits) => `(tactic| (simp only [PySem.sizeLine_eq, Array.size_push, List.size_toArray, List.length_append, List.length_cons, List.length_nil]; omega))
local macro_rules | `(tactic| walk_at "call type:bytes") => `(tactic| (k_here; (with_reducible show wpAny _ _ (call (Value.type _) [Value.ref _]) _ _ _); k_dflt (refine' bytes_K ?F ?N ?l ?i ?r ?z ?h ?_; (case F => k_asm); (case N => k_asm); (case l => is_list); (case i => assumption); (case r => assumption); (case z => size_fits); (case h => with_unfolding_all rfl); k_whole); intro h' t' k' F' N' hB'; clear hB'))
local macro_rules | `(tactic| walk_at "pyIter bytes") => `(tactic| (k_here; (with_reducible show wpAny _ _ (pyIter (Value.bytes _ _)) (CompPost _ _ _ _ _ _ _ _ _) _ _); k_dflt (refine' comp_bytes_id ?hh ?F ?N ?hk ?hl ?hd ?hz ?_; (case hh => exact rfl); (case F => k_asm); (case N => k_asm); (case hk => exact rfl); (case hl => exact fun _ => rfl); (case hd => decide); (case hz => omega); k_whole); intro D' vs' n' h' tk' F' N' hne' hi'))
local macro_rules | `(tactic| walk_at "inplaceOp LShift int int") => `(tactic| (k_here; refine PyProof.Rows.ilshift_int (by decide) (by assumption) ?_))
local macro_rules | `(tactic| walk_at "call builtin:iter") => `(tactic| (k_here; (with_reducible show wpAny _ _ (call (Value.builtin "iter") [Value.ref _]) _ _ _); k_dflt (refine' call_iter ?F ?N ?p ?_; (case F => k_asm); (case N => k_asm); (case p => k_mem)); intro I' h' F' N' l1))
local macro_rules | `(tactic| walk_at "binaryOp Pow int int") => `(tactic| (k_here; refine PyProof.Rows.pow_int_small (by first | assumption | omega) (by first | assumption | omega) (by decide) ?_))
local macro_rules | `(tactic| walk_at "binaryOp Mult int int") => `(tactic| (k_here; refine PyProof.Rows.mul_int ?_ (by assumption)))
local macro_rules | `(tactic| walk_at "binaryOp Add ref ref") => `(tactic| (k_here; k_dflt (refine' addLed ?F ?N ?a ?b ?z ?_; (case F => k_asm); (case N => k_asm); (case a => k_mem); (case b => k_mem); (case z => simp only [List.length_append]; omega)); intro D' h' F' N' l1; (try k_lt l1)))
local macro_rules | `(tactic| walk_at "exec For Name Name cons nil") => `(tactic| refine stop ?_)
local macro_rules | `(tactic| walk_at "pyIter ref") => `(tactic| refine stop ?_)
local macro_rules | `(tactic| walk_at "binaryOp FloorDiv int int") => `(tactic| (k_here; refine PyProof.Rows.floordiv_int (pow64_ne _) ?_ (Or.inl (noPylong64 (by omega)))))
set_option maxRecDepth 100000 in
set_option maxHeartbeats 8000000 in
theorem sixty_con (w : World) (mean : ExcName → Option Value) (mg mb : Str → Option Value) (v : Value) (page : List Int) (hpg : ∀ x ∈ page, 0 ≤ x ∧ x < 16777216) (hlen : page.length ≤ 20) :
    ConD w mean mg mb 93 [v] 20 200 (fun news => IntsAt news v page) (fun led r => PiecesAt led r (pieces60 page)) := by
  unfold ConD
  k_fill
  intro dp un gd cn cs a ccd cl outer A₀ base h₀ L m news s Q E B F X N T hk hR hd hu hret
  obtain ⟨l, vs, n, rfl, hl, hi⟩ := hR
  refine wpAny_call ?_
  k_dflt ktr_enter
  k_steps
  unfold Stop
  rename Fr _ _ _ _ => F1
  rename News _ _ _ _ => N1
  obtain ⟨g1, eg1⟩ := nameBase F1
  subst eg1
  obtain ⟨L1, eL1⟩ := nameFrame F1
  subst eL1
  obtain ⟨r, er⟩ := nameHead N1
  subst er
  have hlr : ∀ p ∈ news, p.1 < r := by assumption
  refine wpAny_For ?_ (by intro _; rfl)
  (first | (k_unfold; (try dsimp only)) | (k_end; kc_close) | walk1 | (dsimp only; walk1) | (leave1; walk_say "STEP leave1"; (try dsimp only)))
  have hlv := hi.length
  refine forList (fun i m' led => ∃ rv rn tl, led = (r, W.listOf (List.toArray rv) rn) :: tl ∧ (∀ p ∈ tl, p.1 ≠ r) ∧ (∀ p ∈ news, p ∈ tl) ∧ Both (PieceIn tl) rv (pieces60 (page.take i)) ∧ rv.length ≤ 4 * i ∧
      m' (Str.ofString "pieces") = some (.ref r)) (by passes_own) rfl (l := l) (vs := vs) (nn := n) (news := (r, W.listOf #[] 0) :: news) (.tail _ hl) F1 N1 ?_ ?_ ?_
  · exact ⟨[], 0, news, rfl, fun p hp => Nat.ne_of_lt (hlr p hp), fun _ h => h, .nil, Nat.le_refl _, rfl⟩
  · rintro i v m' led h tk I hv ⟨rv, rn, tl, rfl, htl, hsub, hrv, hrl, e1⟩ hlm hI F2 N2
    have hil : i < page.length := by have := (List.getElem?_eq_some_iff.mp hv).1; omega
    obtain ⟨t, hx⟩ := hi.get i _ (List.getElem?_eq_getElem hil)
    rw [hx] at hv
    cases hv
    have hxx := hpg _ (List.getElem_mem hil)
    have hIr : @Ne Nat I r := fun e => hI _ (.head _) e.symm
    have hrz : rv.length ≤ 400 := by omega
    have F3 := frCong (m' := fun y => if y = Str.ofString "pieces" then some (.ref r) else m' y) F2 (by intro y; rw [pin1 e1])
    have hIt : ∀ q ∈ tl, q.1 ≠ I := fun q hq => hI q (.tail _ hq)
    have hlt' : (l, W.listOf vs.toArray n) ∈ tl := hsub _ hl
    have htk : page.take (i + 1) = page.take i ++ [page[i]] := by rw [List.take_add_one, List.getElem?_eq_getElem hil]; rfl
    have hp60 : pieces60 (page.take (i + 1)) = pieces60 (page.take i) ++ digs60 page[i] := by rw [htk]; unfold pieces60; rw [List.flatMap_append, List.flatMap_cons, List.flatMap_nil, List.append_nil]
    rw [hp60]
    generalize page[i] = x at *
    generalize pieces60 (page.take i) = pre at *
    clear F1 N1 F2 e1
    k_steps
    unfold Stop
    rename Fr _ _ _ _ => F1
    rename News _ _ _ _ => N1
    rename IsRange _ _ _ _ _ _ _ _ => hrg
    refine iterRange (n := 4) (fun j => LayJ r I (itO l (i + 1)) tl rv.length x t (pre ++ (List.range j).map (dig60 x)) j) rfl hrg (by decide) (by decide) F1 (newsSub N1 (news' := (I, itO l (i + 1)) :: (r, W.listOf rv.toArray rn) :: tl) ?_) ?_ ?_ ?_
    · intro q hq
      first | exact hq | exact .tail _ hq
    · exact ⟨rv, rn, tl, rfl, htl, hIt, fun _ h => h, by simpa using hrv, by omega, rfl, rfl⟩
    · rintro j tj m₁ nx h5 tk5 own hj hoff ⟨rv, rn, tl', rfl, htl', hIt', hsub', hrv', hrl', e1, e2⟩ F2 N2
      have F3 := frCong (m' := fun y => if y = Str.ofString "k" then some (.int (3 + (j : Int) * -1) tj) else if y = Str.ofString "pieces" then some (.ref r) else if y = Str.ofString "triple" then some (.int x t) else m₁ y) F2 (by intro y; rw [pin1 e2, pin1 e1])
      have hne : ∀ p ∈ tl' ++ own, p.1 ≠ r := fun p hp => (List.mem_append.mp hp).elim (htl' p) fun q => hoff p q r (by simp)
      rw [List.cons_append, List.cons_append] at N2
      have hrz : rv.length ≤ 500 := by omega
      clear F1 N1 F2 e1 e2
      rw [range_map_succ, ← List.append_assoc]
      k_steps
      · rename Fr _ _ _ _ => F9
        rename News _ _ _ _ => N9
        obtain ⟨P, eP⟩ := nameHead N9
        subst eP
        have hlt9 : @LT.lt Nat _ I P ∧ @LT.lt Nat _ r P ∧ AllLt P (tl' ++ own) := by assumption
        have hdg : dig60 x j = ((x.fdiv (64 ^ (3 + (j : Int) * -1).toNat)).fmod 64 + 1, 1, false) := by unfold dig60 piece60; rw [← val64 hj]; rw [if_pos (by assumption), if_pos (by assumption)]
        rw [hdg]
        exact layEnd F9 N9 (by omega) (by omega) (fun p hp => Nat.ne_of_lt (allLt_all _ hlt9.2.2 p (List.mem_append_right _ hp))) hoff htl' hIt' hsub' hrv' hrl' rfl rfl
      · rename Fr _ _ _ _ => F9
        rename News _ _ _ _ => N9
        obtain ⟨P, eP⟩ := nameHead N9
        subst eP
        have hlt9 : @LT.lt Nat _ I P ∧ @LT.lt Nat _ r P ∧ AllLt P (tl' ++ own) := by assumption
        have hdg : dig60 x j = ((x.fdiv (64 ^ (3 + (j : Int) * -1).toNat)).fmod 64 + 7, 1, false) := by unfold dig60 piece60; rw [← val64 hj]; rw [if_pos (by assumption), if_neg (by assumption)]
        rw [hdg]
        exact layEnd F9 N9 (by omega) (by omega) (fun p hp => Nat.ne_of_lt (allLt_all _ hlt9.2.2 p (List.mem_append_right _ hp))) hoff htl' hIt' hsub' hrv' hrl' rfl rfl
      · rename Fr _ _ _ _ => F9
        rename News _ _ _ _ => N9
        obtain ⟨P, eP⟩ := nameHead N9
        subst eP
        have hlt9 : @LT.lt Nat _ I P ∧ @LT.lt Nat _ r P ∧ AllLt P (tl' ++ own) := by assumption
        have hdg : dig60 x j = ((x.fdiv (64 ^ (3 + (j : Int) * -1).toNat)).fmod 64 - 4, 1, true) := by unfold dig60 piece60; rw [← val64 hj]; rw [if_neg (by assumption), if_pos (by assumption)]
        rw [hdg]
        exact layEnd F9 N9 (by omega) (by omega) (fun p hp => Nat.ne_of_lt (allLt_all _ hlt9.2.2 p (List.mem_append_right _ hp))) hoff htl' hIt' hsub' hrv' hrl' rfl rfl
      · rename Fr _ _ _ _ => F9
        rename News _ _ _ _ => N9
        obtain ⟨P, eP⟩ := nameHead N9
        subst eP
        have hlt9 : @LT.lt Nat _ I P ∧ @LT.lt Nat _ r P ∧ AllLt P (tl' ++ own) := by assumption
        have hdg : dig60 x j = (4 * (x.fdiv (64 ^ (3 + (j : Int) * -1).toNat)).fmod 64 - 205, 1, true) := by unfold dig60 piece60; rw [← val64 hj]; rw [if_neg (by assumption), if_neg (by assumption)]
        rw [hdg]
        exact layEnd F9 N9 (by omega) (by omega) (fun p hp => Nat.ne_of_lt (allLt_all _ hlt9.2.2 p (List.mem_append_right _ hp))) hoff htl' hIt' hsub' hrv' hrl' rfl rfl
    · rintro m₁ nx h5 tk5 ⟨rv, rn, tl', rfl, htl', hIt', hsub', hrv', hrl', e1, e2⟩ F2 N2
      have F3 := frCong (m' := fun y => if y = Str.ofString "pieces" then some (.ref r) else m₁ y) F2 (by intro y; rw [pin1 e1])
      clear F1 N1 F2
      k_steps
      rename Fr _ _ _ _ => F9
      rename News _ _ _ _ => N9
      exact forEnd_next (led' := (r, W.listOf (List.toArray rv) rn) :: tl') F9 N9 (fun q hq => (List.mem_cons.mp hq).elim (fun e => e ▸ fun z => hIr z.symm) (hIt' q)) (.tail _ (hsub' _ hlt')) ⟨rv, rn, tl', rfl, htl', fun q hq => hsub' q (hsub q hq), hrv', by omega, rfl⟩
  · rintro m' led h tk ⟨rv, rn, tl, rfl, htl, hsub, hrv, hrl, e1⟩ F2 N2
    have F3 := frCong (m' := fun y => if y = Str.ofString "pieces" then some (.ref r) else m' y) F2 (by intro y; rw [pin1 e1])
    rw [hlv, List.take_length] at hrv
    clear F1 N1 F2 e1
    dsimp only
    k_steps
    exact hret _ _ _ _ (by k_asm) (by k_asm) (fun p hp => .tail _ (hsub p hp)) ⟨r, rv, rn, rfl, .head _, hrv.mono fun _ _ => PieceIn.mono fun _ hp => .tail _ hp⟩

end Mine
end
/-! part HO -/
section
theorem Mine.offHO : True := by (w_top off; trivial)
namespace Mine
local macro_rules | `(tactic| k_room) => `(tactic| ktr_room)
local macro_rules | `(tactic| walk_at "call type:type") => `(tactic| (k_here; (with_reducible show wpAny _ _ (call (Value.type "type") [_]) _ _ _); first | refine call_type_of (Tx := "bytes") rfl (by decide +kernel) ?_ | refine call_type_of (Tx := "bool") rfl (by decide +kernel) ?_ | refine call_type_of (Tx := "int") rfl (by decide +kernel) ?_))
local macro_rules | `(tactic| walk_at "getMethod bytes") => `(tactic| (k_here; first | with_reducible refine get_hex ?_ | with_reducible refine get_upper ?_))
local macro_rules | `(tactic| walk_at "getMethod str") => `(tactic| (k_here; with_reducible refine get_encode ?_))
local macro_rules | `(tactic| walk_at "call builtin:bytes.hex") => `(tactic| (k_here; (refine call_hex (by first | assumption | (simp only [hexOut_size] at *; omega)) ?_); intro _ _))
local macro_rules | `(tactic| walk_at "call builtin:str.encode") => `(tactic| (k_here; (refine call_encode (hexOut_small _) (by (show (hexOut _).size ≤ 1000); simp only [hexOut_size] at *; omega) (by (show 0 < (hexOut _).size); simp only [hexOut_size] at *; omega) ?_); intro _ _))
local macro_rules | `(tactic| walk_at "call builtin:bytes.upper") => `(tactic| (k_here; (refine call_upper (by simp only [Array.size_map, hexOut_size] at *; omega) ?_); intro _ _))
local macro_rules | `(tactic| walk_at "subscriptTail") => `(tactic| (k_here; (with_reducible show wpAny _ _ (subscriptTail _ _ (Value.bytes (List.toArray _) _) (Value.int (Builtin.bitAnd _ 63) _)) _ _ _); k_dflt (refine' bytes_item_K ?f ?a ?b ?e ?_; (case f => kby_size); (case a => exact (bitAnd63 _).1); (case b => exact (bitAnd63 _).2); (case e => exact rfl); k_whole)))
local macro_rules | `(tactic| k_all) => `(tactic| assumption)
local macro_rules | `(tactic| size_fits) => `(tactic| (simp only [PySem.sizeLine_eq, Array.size_push, List.size_toArray, List.length_append, List.length_cons, List.length_nil]; omega))
local macro_rules | `(tactic| walk_at "call type:bytes") => `(tactic| (k_here; (with_reducible show wpAny _ _ (call (Value.type _) [Value.ref _]) _ _ _); k_dflt (refine' bytes_K ?F ?N ?l ?i ?r ?z ?h ?_; (case F => k_asm); (case N => k_asm); (case l => is_list); (case i => assumption); (case r => assumption); (case z => size_fits); (case h => with_unfolding_all rfl); k_whole); intro h' t' k' F' N' hB'; clear hB'))
local macro_rules | `(tactic| walk_at "pyIter bytes") => `(tactic| (k_here; (with_reducible show wpAny _ _ (pyIter (Value.bytes _ _)) (CompPost _ _ _ _ _ _ _ _ _) _ _); k_dflt (refine' comp_bytes_id ?hh ?F ?N ?hk ?hl ?hd ?hz ?_; (case hh => exact rfl); (case F => k_asm); (case N => k_asm); (case hk => exact rfl); (case hl => exact fun _ => rfl); (case hd => decide); (case hz => omega); k_whole); intro D' vs' n' h' tk' F' N' hne' hi'))
local macro_rules | `(tactic| walk_at "inplaceOp LShift int int") => `(tactic| (k_here; refine PyProof.Rows.ilshift_int (by decide) (by assumption) ?_))
local macro_rules | `(tactic| walk_at "call builtin:iter") => `(tactic| (k_here; (with_reducible show wpAny _ _ (call (Value.builtin "iter") [Value.ref _]) _ _ _); k_dflt (refine' call_iter ?F ?N ?p ?_; (case F => k_asm); (case N => k_asm); (case p => k_mem)); intro I' h' F' N' l1))
local macro_rules | `(tactic| walk_at "binaryOp Pow int int") => `(tactic| (k_here; refine PyProof.Rows.pow_int_small (by first | assumption | omega) (by first | assumption | omega) (by decide) ?_))
local macro_rules | `(tactic| walk_at "binaryOp Mult int int") => `(tactic| (k_here; refine PyProof.Rows.mul_int ?_ (by assumption)))
local macro_rules | `(tactic| walk_at "binaryOp Add ref ref") => `(tactic| (k_here; k_dflt (refine' addLed ?F ?N ?a ?b ?z ?_; (case F => k_asm); (case N => k_asm); (case a => k_mem); (case b => k_mem); (case z => simp only [List.length_append]; omega)); intro D' h' F' N' l1; (try k_lt l1)))
local macro_rules | `(tactic| walk_at "call ref") => `(tactic| refine stop ?_)
local macro_rules | `(tactic| walk_at "eval ListComp") => `(tactic| refine stop ?_)
theorem octs_in {pg : List Int} (hpg : ∀ x ∈ pg, 0 ≤ x ∧ x < 16777216) : ∀ n ∈ pg.flatMap octs, 0 ≤ n ∧ n < 256 := by
  intro n hn
  obtain ⟨x, hx, hn⟩ := List.mem_flatMap.mp hn
  have := hpg x hx
  unfold octs at hn
  simp only [List.mem_cons, List.not_mem_nil, or_false] at hn
  rcases hn with rfl | rfl | rfl <;> omega
def enc64 (b : Array UInt8) : Array UInt8 := ((((KBw.bInts b).foldl st64 z64).1).map fun n => n.toNat.toUInt8).toArray
def rowOf (pg : List Int) : Array UInt8 := ((pg.flatMap octs).map fun n => n.toNat.toUInt8).toArray
set_option maxRecDepth 100000 in
set_option maxHeartbeats 8000000 in
theorem holds_con (w : World) (mean : ExcName → Option Value) (mg mb : Str → Option Value) (v1 v2 v3 : Value) (pg : List Int) (r16 r60 : List Run) (hpg : ∀ x ∈ pg, 0 ≤ x ∧ x < 16777216) (hlen : 0 < pg.length ∧ pg.length ≤ 10) (hr : r16.length ≤ 200 ∧ r60.length ≤ 200)
    (h16 : (hex16 (rowOf pg)).size ≤ 200 ∧ (∀ c ∈ KBw.bInts (hex16 (rowOf pg)), 0 ≤ c ∧ c < 128) ∧ parseAll (hex16 (rowOf pg)).size (KBw.bInts (hex16 (rowOf pg))) = some (r16.map (·.1)))
    (hlb : ((KBw.bInts (rowOf pg)).foldl st64 z64).2.1 = 0)
    (h60 : (enc64 (rowOf pg)).size ≤ 200 ∧ (∀ c ∈ KBw.bInts (enc64 (rowOf pg)), 0 ≤ c ∧ c < 128) ∧ parseAll (enc64 (rowOf pg)).size (KBw.bInts (enc64 (rowOf pg))) = some (r60.map (·.1))) :
    ConS w mean mg mb 112 [v1, v2, v3] 60 600 (fun news => IntsAt news v1 pg ∧ RunsAt news v2 r16 ∧ RunsAt news v3 r60) (fun led r => r = .bool true) := by
  unfold ConS
  k_fill
  intro dp un gd cn cs a ccd outer A₀ base h₀ L m news s Q E B F X N T XB TB D hk hR hd hu hret
  obtain ⟨⟨l1, vs1, n1, rfl, hl1, hi1⟩, ⟨l2, vs2, n2, rfl, hl2, hb2⟩, ⟨l3, vs3, n3, rfl, hl3, hb3⟩⟩ := hR
  refine wpAny_call ?_
  k_dflt (refine' code_defS (g₀ := h₀) ?k1 ?k2 ?k3 ?k4 ?k5 ?XB ?TB ?D ?T0 ?kA ?k6 ?k7 ?k8 ?k9 ?kB ?_ ?cK ?c2 ?c3 ?c4 ?c5; (case kA => exact rfl); (case k2 => k_asm); (case k1 => k_asm); (case XB => assumption); (case TB => assumption); (case D => assumption); (case T0 => exact KtsTurn.refl); (case k3 => k_asm); (case k4 => k_asm); (case k5 => k_asm); (case k6 => k_is); (case k7 => k_is); (case k8 => ktr_room); (case k9 => exact BindsTo.of_eq rfl); (case kB => exact locs rfl); (case cK => assumption); (case c2 => exact rfl); (case c3 => exact rfl); (case c4 => exact rfl); (case c5 => decide); k_whole; intro g' L' h' FG' F' N' B' X' T' D'; (try dsimp only); (try k_fold))
  k_steps
  unfold Stop
  have hoin := octs_in hpg
  k_dflt (refine' compOcts (pg := pg) (vs := vs1) (l := l1) (nn := n1) ?c1 ?c2 ?c3 ?c4 ?c5 ?c6 ?c7 ?c8 ?c9 ?c10 ?cF ?cN hl1 ?cE hi1 ?cZ ?_; (case c1 => exact rfl); (case c2 => decide); (case c3 => decide); (case c4 => exact rfl); (case c5 => decide); (case c6 => exact fun _ => rfl); (case c7 => exact rfl); (case c8 => exact rfl); (case c9 => decide); (case c10 => decide); (case cF => k_asm); (case cN => k_asm); (case cE => exact fun Q' h => ld (by k_asm) rfl h); (case cZ => omega))
  intro D1 ys1 nd1 h1 tk1 F1 N1 hD1 hy1
  have hyz : ys1.length ≤ 200 := by
    rw [hy1.length]
    have : ∀ l : List Int, (l.flatMap octs).length = 3 * l.length := by
      intro l
      induction l with
      | nil => rfl
      | cons a l ih => rw [List.flatMap_cons, List.length_append, ih, List.length_cons]; show 3 + _ = _; omega
    rw [this]; omega
  dsimp only
  k_steps
  unfold Stop
  have hrow : 0 < (rowOf pg).size ∧ (rowOf pg).size ≤ 100 := by
    have : ∀ l : List Int, (l.flatMap octs).length = 3 * l.length := by
      intro l
      induction l with
      | nil => rfl
      | cons a l ih => rw [List.flatMap_cons, List.length_append, ih, List.length_cons]; show 3 + _ = _; omega
    unfold rowOf
    rw [List.size_toArray, List.length_map, this]
    omega
  k_dflt (refine' conUseV (b16_con w mean mg mb (rowOf pg) _) ?k1 ?k2 ?k3 ?k4 ?k5 ?kK hrow ?kd ?ku ?_; (case k1 => k_asm); (case k2 => k_asm); (case k3 => k_asm); (case k4 => k_asm); (case k5 => k_asm); (case kK => exact rfl); (case kd => ktr_room); (case ku => ktr_units))
  rintro r9 h9 tk9 F9 N9 ⟨t9, rfl⟩
  dsimp only
  k_steps
  unfold Stop
  k_dflt (refine' conSUse (told_con w mean mg mb (hex16 (rowOf pg)) t9 (r16.map (·.1))) ?k1 ?k2 ?k3 ?k4 ?k5 XB TB ?kD ?kK h16 ?kd ?ku ?_; (case k1 => k_asm); (case k2 => k_asm); (case k3 => k_asm); (case k4 => k_asm); (case k5 => k_asm); (case kD => assumption); (case kK => exact rfl); (case kd => ktr_room); (case ku => ktr_units))
  rintro r10 led10 h10 tk10 g10 T10 F10 N10 B10 X10 TT10 D10 hs10 ⟨lt1, tv1, tn1, rfl, hlt1, hti1⟩
  dsimp only
  try clear F9
  try clear N9
  try clear F'
  try clear N'
  k_steps
  unfold Stop
  have sub10 : ∀ p ∈ news, p ∈ led10 := fun p hp => hs10 p (by first | exact hp | exact .tail _ hp | exact .tail _ (.tail _ hp))
  k_dflt (refine' compPairs (ps := r16) (vs := vs2) (l := l2) (nn := n2) ?c1 ?c2 ?c3 ?c4 ?c5 ?c6 ?c7 ?c8 ?c9 ?c10 ?cF ?cN (sub10 _ hl2) ?cE (hb2.mono fun _ _ => RunIn.mono sub10) ?cZ ?_; (case c1 => exact rfl); (case c2 => decide); (case c3 => decide); (case c4 => exact rfl); (case c5 => decide); (case c6 => exact fun _ => rfl); (case c7 => exact rfl); (case c8 => exact rfl); (case c9 => decide); (case c10 => decide); (case cF => k_asm); (case cN => k_asm); (case cE => exact fun Q' h => ld (by k_asm) rfl h); (case cZ => omega))
  intro D2 ys2 nd2 h11 tk11 F11 N11 hD2 hy2
  have N12 : News g10 L' h11 ((D2, W.listOf ys2.toArray nd2) :: (lt1, W.listOf tv1.toArray tn1) :: led10) := newsSub N11 (by
    intro q hq
    rcases List.mem_cons.mp hq with rfl | hq
    · exact .head _
    rcases List.mem_cons.mp hq with rfl | hq
    · exact .tail _ hlt1
    · exact .tail _ hq)
  have hz1 : tv1.length ≤ 300 := by rw [hti1.length, List.length_map]; omega
  have hz2 : ys2.length ≤ 300 := by rw [hy2.length, List.length_map]; omega
  clear N11
  try clear F10
  try clear N10
  dsimp only
  k_steps
  unfold Stop
  k_dflt (refine' conUseV (e64_con w mean mg mb (rowOf pg) _) ?k1 ?k2 ?k3 ?k4 ?k5 ?kK ⟨hrow.1, hrow.2, hlb⟩ ?kd ?ku ?_; (case k1 => k_asm); (case k2 => k_asm); (case k3 => k_asm); (case k4 => k_asm); (case k5 => k_asm); (case kK => exact rfl); (case kd => ktr_room); (case ku => ktr_units))
  rintro r13 h13 tk13 F13 N13 ⟨t13, rfl⟩
  dsimp only
  k_steps
  unfold Stop
  k_dflt (refine' conSUse (told_con w mean mg mb (enc64 (rowOf pg)) t13 (r60.map (·.1))) ?k1 ?k2 ?k3 ?k4 ?k5 XB TB ?kD ?kK h60 ?kd ?ku ?_; (case k1 => k_asm); (case k2 => k_asm); (case k3 => k_asm); (case k4 => k_asm); (case k5 => k_asm); (case kD => assumption); (case kK => exact rfl); (case kd => ktr_room); (case ku => ktr_units))
  rintro r14 led14 h14 tk14 g14 T14 F14 N14 B14 X14 TT14 D14 hs14 ⟨lt3, tv3, tn3, rfl, hlt3, hti3⟩
  dsimp only
  have T15 := T10.trans T14
  clear T10 T14
  try clear F13
  try clear N13
  try clear B10
  try clear X10
  try clear TT10
  try clear D10
  k_steps
  unfold Stop
  have sub14 : ∀ p ∈ news, p ∈ led14 := fun p hp => hs14 p (by first | exact sub10 p hp | exact .tail _ (sub10 p hp) | exact .tail _ (.tail _ (sub10 p hp)) | exact hp | exact .tail _ hp | exact .tail _ (.tail _ hp))
  k_dflt (refine' compPairs (ps := r60) (vs := vs3) (l := l3) (nn := n3) ?c1 ?c2 ?c3 ?c4 ?c5 ?c6 ?c7 ?c8 ?c9 ?c10 ?cF ?cN (sub14 _ hl3) ?cE (hb3.mono fun _ _ => RunIn.mono sub14) ?cZ ?_; (case c1 => exact rfl); (case c2 => decide); (case c3 => decide); (case c4 => exact rfl); (case c5 => decide); (case c6 => exact fun _ => rfl); (case c7 => exact rfl); (case c8 => exact rfl); (case c9 => decide); (case c10 => decide); (case cF => k_asm); (case cN => k_asm); (case cE => exact fun Q' h => ld (by k_asm) rfl h); (case cZ => omega))
  intro D4 ys4 nd4 h16' tk16 F16 N16 hD4 hy4
  have N17 : News g14 L' h16' ((D4, W.listOf ys4.toArray nd4) :: (lt3, W.listOf tv3.toArray tn3) :: led14) := newsSub N16 (by
    intro q hq
    rcases List.mem_cons.mp hq with rfl | hq
    · exact .head _
    rcases List.mem_cons.mp hq with rfl | hq
    · exact .tail _ hlt3
    · exact .tail _ hq)
  have hz3 : tv3.length ≤ 300 := by rw [hti3.length, List.length_map]; omega
  have hz4 : ys4.length ≤ 300 := by rw [hy4.length, List.length_map]; omega
  clear N16
  try clear F14
  try clear N14
  dsimp only
  k_steps
  rename Fr _ _ _ _ => F20
  rename News _ _ _ _ => N20
  exact hret _ [] _ _ _ (by assumption) F20 (newsSub N20 (fun p hp => .tail _ (.tail _ (sub14 p hp)))) (by assumption) (by assumption) (by assumption) (by assumption) (fun _ _ _ h9 => nomatch h9) rfl

end Mine
end
/-! part M2 -/
section
theorem Mine.offM2 : True := by (w_top off; trivial)
namespace Mine
/-- a digit to the base of 64: a piece of the size 1 -/
def Dig (p : Piece) : Prop := p.2.1 = 1 ∧ 0 ≤ p.1 ∧ p.1 < 64
def val (a : Int) (g : List Piece) : Int := g.foldl (fun a p => a * 64 + p.1) a
theorem val_cons (a : Int) (p : Piece) (g : List Piece) : val a (p :: g) = val (a * 64 + p.1) g := rfl
theorem val_nil (a : Int) : val a [] = a := rfl
theorem val_eq : ∀ (g : List Piece) (a : Int), val a g = a * 64 ^ g.length + val 0 g
  | [], a => by simp [val]
  | p :: g, a => by
    rw [val_cons, val_eq g, val_cons, val_eq g (0 * 64 + p.1), List.length_cons, Int.pow_succ]
    generalize (64 : Int) ^ g.length = P
    rw [Int.zero_mul, Int.zero_add, Int.add_mul, ← Int.add_assoc, Int.mul_assoc, Int.mul_comm 64 P]
theorem val_append (a : Int) (g h : List Piece) : val a (g ++ h) = val (val a g) h := by unfold val; rw [List.foldl_append]
theorem val_lt : ∀ (g : List Piece), (∀ p ∈ g, Dig p) → 0 ≤ val 0 g ∧ val 0 g < 64 ^ g.length
  | [], _ => by simp [val]
  | p :: g, h => by
    have ih := val_lt g fun q hq => h q (.tail _ hq)
    have hp := h p (.head _)
    rw [val_cons, val_eq, List.length_cons, Int.pow_succ]
    have hP : (0 : Int) < 64 ^ g.length := Int.pow_pos (by decide)
    generalize (64 : Int) ^ g.length = P at *
    obtain ⟨_, h0, h1⟩ := hp
    have h2 : 0 ≤ p.1 * P := Int.mul_nonneg h0 (by omega)
    have h3 : p.1 * P ≤ 63 * P := Int.mul_le_mul_of_nonneg_right (by omega) (by omega)
    have e : (0 * 64 + p.1) * P = p.1 * P := by rw [Int.zero_mul, Int.zero_add]
    rw [e]
    omega
/-- a number's digits: those that go on, then one that ends it -/
structure Grp (g : List Piece) : Prop where
  dig : ∀ p ∈ g, Dig p
  shape : ∃ ini d, g = ini ++ [(d, 1, true)] ∧ ∀ p ∈ ini, p.2.2 = false
inductive Closed : List Piece → Prop
  | nil : Closed []
  | app {g rest : List Piece} : Grp g → Closed rest → Closed (g ++ rest)
theorem fold_open : ∀ (h : List Piece) (R : List Run) (a n : Int), (∀ p ∈ h, Dig p) → (∀ p ∈ h, p.2.2 = false) → h.foldl laidStep (R, a, n) = (R, val a h, n + h.length)
  | [], R, a, n, _, _ => by simp [val]
  | p :: h, R, a, n, hd, ho => by
    have e : laidStep (R, a, n) p = (R, a * 64 + p.1, n + 1) := by
      have h1 := (hd p (.head _)).1
      have h2 := ho p (.head _)
      unfold laidStep
      dsimp only
      rw [h1, h2]
      simp
    rw [List.foldl_cons, e, fold_open h R _ _ (fun q hq => hd q (.tail _ hq)) fun q hq => ho q (.tail _ hq), val_cons, List.length_cons]
    congr 2
    push_cast; omega
theorem fold_grp {g : List Piece} (G : Grp g) (R : List Run) (a n : Int) : g.foldl laidStep (R, a, n) = (R ++ [(val a g, n + g.length)], 0, 0) := by
  obtain ⟨hd, ini, d, rfl, ho⟩ := G
  rw [List.foldl_append, fold_open ini R a n (fun p hp => hd p (List.mem_append_left _ hp)) ho, val_append]
  simp only [List.foldl_cons, List.foldl_nil]
  unfold laidStep
  dsimp only
  rw [if_pos rfl]
  rw [val_cons, val_nil]
  simp
  omega
theorem grp_len {g : List Piece} (G : Grp g) : 1 ≤ g.length := by
  obtain ⟨_, ini, d, rfl, _⟩ := G
  simp
theorem fold_closed {ds : List Piece} (C : Closed ds) : ∀ (R : List Run), ∃ rs, ds.foldl laidStep (R, 0, 0) = (R ++ rs, 0, 0) := by
  induction C with
  | nil => intro R; exact ⟨[], by simp⟩
  | app G _ ih =>
    intro R
    rw [List.foldl_append, fold_grp G]
    obtain ⟨rs, e⟩ := ih (R ++ [_])
    exact ⟨_, by rw [e, List.append_assoc]⟩
theorem laidStep_if (R : List Run) (a n : Int) (p : Piece) : laidStep (R, a, n) p = if p.2.2 = true then (R ++ [(a * 64 ^ p.2.1.toNat + p.1, n + p.2.1)], 0, 0) else (R, a * 64 ^ p.2.1.toNat + p.1, n + p.2.1) := rfl
theorem laid_shift {ds : List Piece} : ∀ (R : List Run) (a n : Int), ds.foldl laidStep (R, a, n) = (R ++ (ds.foldl laidStep ([], a, n)).1, (ds.foldl laidStep ([], a, n)).2) := by
  induction ds with
  | nil => intro R a n; simp
  | cons p ds ih =>
    intro R a n
    rw [List.foldl_cons, List.foldl_cons, laidStep_if, laidStep_if]
    split
    · rw [ih (R ++ _), ih ([] ++ _)]; simp
    · rw [ih R]
theorem laid_app {g rest : List Piece} (G : Grp g) : laid (g ++ rest) = (val 0 g, (g.length : Int)) :: laid rest := by
  unfold laid laid0
  rw [List.foldl_append, fold_grp G, laid_shift]
  simp
/-- what goes ahead of the stop -/
def aheadOf : Int → List Run → List Piece
  | _, [] => []
  | st, p :: r => if p.2 ≤ st then (p.1, p.2, true) :: aheadOf (st - p.2) r else if 0 < st then (p.1 / 64 ^ (p.2 - st).toNat, st, false) :: aheadOf 0 r else aheadOf st r
def behindOf : Int → List Run → List Piece
  | _, [] => []
  | sr, p :: r => if p.2 ≤ sr then behindOf (sr - p.2) r else (p.1 % 64 ^ (p.2 - sr).toNat, p.2 - sr, true) :: behindOf 0 r
theorem aheadOf_cons (st : Int) (p : Run) (r : List Run) : aheadOf st (p :: r) = if p.2 ≤ st then (p.1, p.2, true) :: aheadOf (st - p.2) r else if 0 < st then (p.1 / 64 ^ (p.2 - st).toNat, st, false) :: aheadOf 0 r else aheadOf st r := rfl
theorem behindOf_cons (sr : Int) (p : Run) (r : List Run) : behindOf sr (p :: r) = if p.2 ≤ sr then behindOf (sr - p.2) r else (p.1 % 64 ^ (p.2 - sr).toNat, p.2 - sr, true) :: behindOf 0 r := rfl
theorem edit_split : ∀ (rs : List Run) (σ : Ed), (rs.foldl editStep σ).ah = σ.ah ++ aheadOf σ.stop rs ∧ (rs.foldl editStep σ).bh = σ.bh ++ behindOf σ.start rs
  | [], σ => by simp [aheadOf, behindOf]
  | p :: rs, σ => by
    obtain ⟨i1, i2⟩ := edit_split rs (editStep σ p)
    rw [List.foldl_cons, i1, i2, aheadOf_cons, behindOf_cons]
    unfold editStep edA edB
    dsimp only
    constructor
    · split
      · simp
      · split <;> simp
    · split <;> simp
theorem ahead_zero : ∀ (rs : List Run), (∀ p ∈ rs, 1 ≤ p.2) → aheadOf 0 rs = []
  | [], _ => rfl
  | p :: rs, h => by
    rw [aheadOf_cons]
    have := h p (.head _)
    rw [if_neg (by omega), if_neg (by omega)]
    exact ahead_zero rs fun q hq => h q (.tail _ hq)
theorem laid_sizes {ds : List Piece} (C : Closed ds) : ∀ p ∈ laid ds, 1 ≤ p.2 := by
  induction C with
  | nil => intro p hp; cases hp
  | app G _ ih =>
    intro p hp
    rw [laid_app G] at hp
    rcases List.mem_cons.mp hp with rfl | hp
    · have := grp_len G; dsimp only; omega
    · exact ih p hp
theorem ahead_fold {ds : List Piece} (C : Closed ds) : ∀ (k : Nat) (R : List Run), (aheadOf (k : Int) (laid ds)).foldl laidStep (R, 0, 0) = (ds.take k).foldl laidStep (R, 0, 0) := by
  induction C with
  | nil => intro k R; simp [laid, laid0, aheadOf]
  | @app g rest G C ih =>
    intro k R
    rw [laid_app G, aheadOf_cons]
    dsimp only
    by_cases h1 : g.length ≤ k
    · rw [if_pos (by omega), List.take_append, List.take_of_length_le h1, List.foldl_append, fold_grp G, List.foldl_cons]
      have e : laidStep (R, 0, 0) (val 0 g, (g.length : Int), true) = (R ++ [(val 0 g, 0 + (g.length : Int))], 0, 0) := by
        unfold laidStep; dsimp only; rw [if_pos rfl]; simp
      have ek : (k : Int) - (g.length : Int) = ((k - g.length : Nat) : Int) := by omega
      rw [e, ek, ih]
    · rw [if_neg (by omega)]
      by_cases h2 : 0 < k
      · rw [if_pos (by omega), ahead_zero _ (laid_sizes C), List.take_append_of_le_length (by omega)]
        obtain ⟨hd, ini, d, rfl, ho⟩ := G
        have hk : k ≤ ini.length := by simp at h1; omega
        rw [List.take_append_of_le_length hk, fold_open (ini.take k) R 0 0 (fun p hp => hd p (List.mem_append_left _ (List.mem_of_mem_take hp))) (fun p hp => ho p (List.mem_of_mem_take hp))]
        simp only [List.foldl_cons, List.foldl_nil]
        unfold laidStep
        dsimp only
        have hg : ini ++ [(d, 1, true)] = ini.take k ++ (ini.drop k ++ [(d, 1, true)]) := by rw [← List.append_assoc, List.take_append_drop]
        have hv : val 0 (ini ++ [(d, 1, true)]) = val 0 (ini.take k) * 64 ^ (ini.drop k ++ [(d, 1, true)]).length + val 0 (ini.drop k ++ [(d, 1, true)]) := by
          rw [hg, val_append, val_eq]
        have hr := val_lt (ini.drop k ++ [(d, 1, true)]) (fun p hp => hd p (by rw [hg]; exact List.mem_append_right _ hp))
        have hl : ((((ini ++ [(d, 1, true)]).length : Nat) : Int) - (k : Int)).toNat = (ini.drop k ++ [(d, 1, true)]).length := by simp; omega
        rw [hl, hv]
        generalize hP : (64 : Int) ^ (ini.drop k ++ [(d, 1, true)]).length = P at *
        have hPpos : 0 < P := hP ▸ Int.pow_pos (by decide)
        have hdiv : (val 0 (ini.take k) * P + val 0 (ini.drop k ++ [(d, 1, true)])) / P = val 0 (ini.take k) := by
          rw [Int.add_comm, Int.add_mul_ediv_right _ _ (by omega), Int.ediv_eq_zero_of_lt hr.1 hr.2, Int.zero_add]
        rw [hdiv]
        simp
        omega
      · have : k = 0 := by omega
        subst this
        rw [if_neg (by omega)]
        rw [show ((0 : Nat) : Int) = 0 from rfl, ahead_zero _ (laid_sizes C)]
        simp
theorem behind_fold {ds : List Piece} (C : Closed ds) : ∀ (k : Nat) (σ : List Run × Int × Int), (behindOf (k : Int) (laid ds)).foldl laidStep σ = (ds.drop k).foldl laidStep σ := by
  induction C with
  | nil => intro k σ; simp [laid, laid0, behindOf]
  | @app g rest G C ih =>
    rintro k ⟨R, a, n⟩
    rw [laid_app G, behindOf_cons]
    dsimp only
    by_cases h1 : g.length ≤ k
    · have ek : (k : Int) - (g.length : Int) = ((k - g.length : Nat) : Int) := by omega
      rw [if_pos (by omega), ek, ih, List.drop_append, List.drop_eq_nil_of_le h1, List.nil_append]
    · rw [if_neg (by omega), List.drop_append_of_le_length (by omega), List.foldl_append, List.foldl_cons]
      have hg : g = g.take k ++ g.drop k := (List.take_append_drop k g).symm
      have hv : val 0 g = val 0 (g.take k) * 64 ^ (g.drop k).length + val 0 (g.drop k) := by
        conv => lhs; rw [hg]
        rw [val_append, val_eq]
      have hr := val_lt (g.drop k) (fun p hp => G.dig p (List.mem_of_mem_drop hp))
      have hl : ((g.length : Int) - (k : Int)).toNat = (g.drop k).length := by rw [List.length_drop]; omega
      have hl' : ((g.length : Int) - (k : Int)) = ((g.drop k).length : Int) := by rw [List.length_drop]; omega
      have hm : val 0 g % 64 ^ (g.drop k).length = val 0 (g.drop k) := by
        rw [hv, Int.add_comm, Int.add_mul_emod_self_right, Int.emod_eq_of_lt hr.1 hr.2]
      have G' : Grp (g.drop k) := by
        obtain ⟨hd, ini, d, rfl, ho⟩ := G
        have hk : k ≤ ini.length := by simp at h1; omega
        refine ⟨fun p hp => hd p (List.mem_of_mem_drop hp), ini.drop k, d, List.drop_append_of_le_length hk, fun p hp => ho p (List.mem_of_mem_drop hp)⟩
      rw [hl, hm, hl', fold_grp G']
      have e : laidStep (R, a, n) (val 0 (g.drop k), ((g.drop k).length : Int), true) = (R ++ [(val a (g.drop k), n + ((g.drop k).length : Int))], 0, 0) := by
        unfold laidStep; dsimp only; rw [if_pos rfl, val_eq (g.drop k) a, Int.toNat_natCast]
      rw [e]
      have := ih 0
      rw [List.drop_zero] at this
      exact this _
/-- the edit of a closed writing is the writing of the edited digits -/
theorem edited_laid {ds put : List Piece} (C : Closed ds) (p g : Nat) : laid (edited (laid ds) (p : Int) (g : Int) put) = laid (ds.take p ++ put ++ ds.drop (p + g)) := by
  unfold edited
  obtain ⟨e1, e2⟩ := edit_split (laid ds) (edit0 p g)
  dsimp only
  rw [e1, e2]
  unfold edit0 laid laid0
  dsimp only
  rw [List.nil_append, List.nil_append, List.foldl_append, List.foldl_append, List.foldl_append, List.foldl_append]
  have h1 := ahead_fold C p []
  have h2 := behind_fold C (p + g)
  unfold laid laid0 at h1 h2
  rw [show (p : Int) + (g : Int) = ((p + g : Nat) : Int) by omega, h1, h2]
end Mine
end
/-! part M3 -/
section
theorem Mine.offM3 : True := by (w_top off; trivial)
namespace Mine
theorem laid_runs {ds : List Piece} (C : Closed ds) : ∀ p ∈ laid ds, 1 ≤ p.2 ∧ 0 ≤ p.1 ∧ p.1 < 64 ^ p.2.toNat := by
  induction C with
  | nil => intro p hp; cases hp
  | app G _ ih =>
    intro p hp
    rw [laid_app G] at hp
    rcases List.mem_cons.mp hp with rfl | hp
    · have := grp_len G
      have h2 := val_lt _ G.dig
      dsimp only
      rw [Int.toNat_natCast]
      exact ⟨by omega, h2.1, h2.2⟩
    · exact ih p hp
theorem laid_sum {ds : List Piece} (C : Closed ds) : ((laid ds).map fun p => p.2.toNat).sum = ds.length := by
  induction C with
  | nil => rfl
  | app G _ ih => rw [laid_app G, List.map_cons, List.sum_cons, ih, List.length_append, Int.toNat_natCast]
theorem laid_length {ds : List Piece} (C : Closed ds) : (laid ds).length ≤ ds.length := by
  induction C with
  | nil => exact Nat.le_refl _
  | app G _ ih => rw [laid_app G, List.length_cons, List.length_append]; have := grp_len G; omega
theorem ahead_ok : ∀ (rs : List Run) (st : Int), 0 ≤ st → (∀ p ∈ rs, 1 ≤ p.2 ∧ 0 ≤ p.1 ∧ p.1 < 64 ^ p.2.toNat) →
    (∀ p ∈ aheadOf st rs, 0 ≤ p.2.1 ∧ 0 ≤ p.1 ∧ p.1 < 64 ^ p.2.1.toNat) ∧ ((aheadOf st rs).map fun p => p.2.1.toNat).sum ≤ (rs.map fun p => p.2.toNat).sum
  | [], _, _, _ => ⟨fun _ h => (nomatch h), Nat.le_refl _⟩
  | p :: rs, st, h0, h => by
    have hp := h p (.head _)
    have hr : ∀ q ∈ rs, 1 ≤ q.2 ∧ 0 ≤ q.1 ∧ q.1 < 64 ^ q.2.toNat := fun q hq => h q (.tail _ hq)
    rw [aheadOf_cons]
    split
    · obtain ⟨i1, i2⟩ := ahead_ok rs (st - p.2) (by omega) hr
      refine ⟨fun q hq => ?_, ?_⟩
      · rcases List.mem_cons.mp hq with rfl | hq
        · exact ⟨by dsimp only; omega, hp.2⟩
        · exact i1 q hq
      · simp only [List.map_cons, List.sum_cons]; omega
    · split
      · obtain ⟨i1, i2⟩ := ahead_ok rs 0 (by omega) hr
        refine ⟨fun q hq => ?_, ?_⟩
        · rcases List.mem_cons.mp hq with rfl | hq
          · dsimp only
            refine ⟨h0, Int.ediv_nonneg hp.2.1 (Int.pow_nonneg (by decide)), ?_⟩
            refine Int.ediv_lt_of_lt_mul (Int.pow_pos (by decide)) ?_
            rw [← Int.pow_add, show st.toNat + (p.2 - st).toNat = p.2.toNat by omega]
            exact hp.2.2
          · exact i1 q hq
        · simp only [List.map_cons, List.sum_cons]; omega
      · obtain ⟨i1, i2⟩ := ahead_ok rs st h0 hr
        exact ⟨i1, by simp only [List.map_cons, List.sum_cons]; omega⟩
theorem behind_ok : ∀ (rs : List Run) (st : Int), 0 ≤ st → (∀ p ∈ rs, 1 ≤ p.2 ∧ 0 ≤ p.1 ∧ p.1 < 64 ^ p.2.toNat) →
    (∀ p ∈ behindOf st rs, 0 ≤ p.2.1 ∧ 0 ≤ p.1 ∧ p.1 < 64 ^ p.2.1.toNat) ∧ ((behindOf st rs).map fun p => p.2.1.toNat).sum ≤ (rs.map fun p => p.2.toNat).sum
  | [], _, _, _ => ⟨fun _ h => (nomatch h), Nat.le_refl _⟩
  | p :: rs, st, h0, h => by
    have hr : ∀ q ∈ rs, 1 ≤ q.2 ∧ 0 ≤ q.1 ∧ q.1 < 64 ^ q.2.toNat := fun q hq => h q (.tail _ hq)
    rw [behindOf_cons]
    split
    · obtain ⟨i1, i2⟩ := behind_ok rs (st - p.2) (by omega) hr
      exact ⟨i1, by simp only [List.map_cons, List.sum_cons]; omega⟩
    · obtain ⟨i1, i2⟩ := behind_ok rs 0 (by omega) hr
      refine ⟨fun q hq => ?_, ?_⟩
      · rcases List.mem_cons.mp hq with rfl | hq
        · dsimp only
          have hpos : (0 : Int) < 64 ^ (p.2 - st).toNat := Int.pow_pos (by decide)
          exact ⟨by omega, Int.emod_nonneg _ (by omega), Int.emod_lt_of_pos _ hpos⟩
        · exact i1 q hq
      · simp only [List.map_cons, List.sum_cons]; omega
theorem digits_sum : ∀ (ds : List Piece), (∀ p ∈ ds, Dig p) → (ds.map fun p => p.2.1.toNat).sum = ds.length
  | [], _ => rfl
  | p :: ds, h => by
    have := (h p (.head _)).1
    rw [List.map_cons, List.sum_cons, digits_sum ds (fun q hq => h q (.tail _ hq)), this, List.length_cons]
    show 1 + _ = _
    omega
theorem digits_wf {ds : List Piece} (h : ∀ p ∈ ds, Dig p) : ∀ p ∈ ds, 0 ≤ p.2.1 ∧ 0 ≤ p.1 ∧ p.1 < 64 ^ p.2.1.toNat := fun p hp => by
  obtain ⟨a, b, c⟩ := h p hp
  rw [a]
  exact ⟨by decide, b, c⟩
theorem edited_wf {ds put : List Piece} (C : Closed ds) (hp : ∀ p ∈ put, Dig p) (hl : 2 * ds.length + put.length ≤ 300) (p g : Nat) : WfP (edited (laid ds) (p : Int) (g : Int) put) := by
  obtain ⟨e1, e2⟩ := edit_split (laid ds) (edit0 p g)
  obtain ⟨a1, a2⟩ := ahead_ok (laid ds) p (by omega) (laid_runs C)
  obtain ⟨b1, b2⟩ := behind_ok (laid ds) (p + g) (by omega) (laid_runs C)
  rw [laid_sum C] at a2 b2
  have hd := digits_sum put hp
  have hw := digits_wf hp
  unfold edited
  dsimp only
  rw [e1, e2]
  unfold edit0
  dsimp only
  refine ⟨fun q hq => ?_, ?_⟩
  · rcases List.mem_append.mp hq with hq | hq
    · rcases List.mem_append.mp hq with hq | hq
      · exact a1 q hq
      · exact hw q hq
    · exact b1 q hq
  · simp only [List.nil_append, List.map_append, List.sum_append]
    omega
/-- the sign that stands for a digit -/
def sgn (p : Piece) : Int := if p.2.2 = true then p.1 else p.1 + 64
theorem parse_grp : ∀ (ini : List Piece) (d v : Int) (rest : List Int), (∀ p ∈ ini, Dig p) → (∀ p ∈ ini, p.2.2 = false) → 0 ≤ d → d < 64 →
    parseGo v ((ini ++ [(d, 1, true)]).map sgn ++ rest) = some (val v (ini ++ [(d, 1, true)]), ini.length + 1)
  | [], d, v, rest, _, _, h0, h1 => by
    show parseGo v (sgn (d, 1, true) :: rest) = _
    have e : sgn (d, 1, true) = d := if_pos rfl
    rw [parseGo_cons, e, if_pos (by omega), Int.emod_eq_of_lt h0 h1]
    rfl
  | p :: ini, d, v, rest, hd, ho, h0, h1 => by
    have hp := hd p (.head _)
    have e : sgn p = p.1 + 64 := by unfold sgn; rw [ho p (.head _)]; rfl
    show parseGo v (sgn p :: ((ini ++ [(d, 1, true)]).map sgn ++ rest)) = _
    obtain ⟨_, q0, q1⟩ := hp
    rw [parseGo_cons, e, if_neg (by omega), show (p.1 + 64) % 64 = p.1 by omega, parse_grp ini d _ rest (fun q hq => hd q (.tail _ hq)) (fun q hq => ho q (.tail _ hq)) h0 h1]
    rfl
theorem parse_closed {ds : List Piece} (C : Closed ds) : ∀ n, ds.length ≤ n → parseAll n (ds.map sgn) = some ((laid ds).map (·.1)) := by
  induction C with
  | nil => intro n _; cases n <;> rfl
  | @app g rest G C ih =>
    intro n hn
    rw [List.length_append] at hn
    have hg := grp_len G
    rw [laid_app G, List.map_cons, List.map_append]
    obtain ⟨hd, ini, d, rfl, ho⟩ := G
    have hdd := hd (d, 1, true) (List.mem_append_right _ (.head _))
    have hp := parse_grp ini d 0 (rest.map sgn) (fun p hp => hd p (List.mem_append_left _ hp)) ho hdd.2.1 hdd.2.2
    cases n with
    | zero => omega
    | succ n =>
      have ih' := ih n (by simp at hn hg; omega)
      generalize hL : (ini ++ [(d, 1, true)]).map sgn ++ rest.map sgn = L at *
      have hdrop : L.drop (ini.length + 1) = rest.map sgn := by rw [← hL]; exact List.drop_left' (by simp)
      cases L with
      | nil => cases hp
      | cons c r =>
        unfold parseAll
        rw [hp]
        dsimp only
        rw [hdrop, ih']
        rfl
theorem closed_of_last : ∀ (ds : List Piece), (∀ p ∈ ds, Dig p) → (∀ p, ds.getLast? = some p → p.2.2 = true) → Closed ds
  | [], _, _ => .nil
  | p :: ds, hd, hl => by
    have hd' : ∀ q ∈ ds, Dig q := fun q hq => hd q (.tail _ hq)
    by_cases he : p.2.2 = true
    · refine Closed.app (g := [p]) (rest := ds) ⟨fun q hq => by rw [List.mem_singleton.mp hq]; exact hd p (.head _), [], p.1, ?_, fun _ h => nomatch h⟩ (closed_of_last ds hd' fun q hq => hl q ?_)
      · have h1 := (hd p (.head _)).1
        show [p] = [(p.1, 1, true)]
        rw [← h1, ← he]
      · cases ds with
        | nil => cases hq
        | cons a ds => rw [List.getLast?_cons_cons]; exact hq
    · cases ds with
      | nil => exact absurd (hl p rfl) he
      | cons a ds =>
        have ih := closed_of_last (a :: ds) hd' fun q hq => hl q (by rw [List.getLast?_cons_cons]; exact hq)
        generalize hE : a :: ds = E at ih
        cases ih with
        | nil => cases hE
        | @app g rest G C =>
          obtain ⟨gd, ini, d, rfl, ho⟩ := G
          refine Closed.app (g := p :: (ini ++ [(d, 1, true)])) (rest := rest) ⟨fun q hq => ?_, p :: ini, d, rfl, fun q hq => ?_⟩ C
          · rcases List.mem_cons.mp hq with rfl | hq
            · exact hd q (.head _)
            · exact gd q hq
          · rcases List.mem_cons.mp hq with rfl | hq
            · exact Bool.eq_false_iff.mpr he
            · exact ho q hq
end Mine
end
/-! part M4 -/
section
theorem Mine.offM4 : True := by (w_top off; trivial)
namespace Mine
structure Pg (pg : List Int) : Prop where
  rng : ∀ x ∈ pg, 0 ≤ x ∧ x < 16777216
  last : pg.getLast? = some 1745143
  len : pg.length ≤ 10
theorem pg0 : Pg [1745143] := ⟨by decide, rfl, by decide⟩
theorem fm_len {f : Int → List Piece} {k : Nat} (hf : ∀ x, (f x).length = k) : ∀ (l : List Int), (l.flatMap f).length = k * l.length
  | [] => rfl
  | a :: l => by rw [List.flatMap_cons, List.length_append, hf, fm_len hf l, List.length_cons, Nat.mul_succ, Nat.add_comm]
theorem fm_take {f : Int → List Piece} {k : Nat} (hf : ∀ x, (f x).length = k) : ∀ (l : List Int) (n : Nat), (l.flatMap f).take (k * n) = (l.take n).flatMap f
  | [], n => by simp
  | a :: l, 0 => by simp
  | a :: l, n + 1 => by
    rw [List.flatMap_cons, List.take_succ_cons, List.flatMap_cons, List.take_append, List.take_of_length_le (by rw [hf, Nat.mul_succ]; omega), hf, show k * (n + 1) - k = k * n by rw [Nat.mul_succ]; omega, fm_take hf l n]
theorem fm_drop {f : Int → List Piece} {k : Nat} (hf : ∀ x, (f x).length = k) : ∀ (l : List Int) (n : Nat), (l.flatMap f).drop (k * n) = (l.drop n).flatMap f
  | [], n => by simp
  | a :: l, 0 => by simp
  | a :: l, n + 1 => by
    rw [List.flatMap_cons, List.drop_succ_cons, List.drop_append, List.drop_of_length_le (by rw [hf, Nat.mul_succ]; omega), hf, show k * (n + 1) - k = k * n by rw [Nat.mul_succ]; omega, fm_drop hf l n, List.nil_append]
theorem digs16_len (x : Int) : (digs16 x).length = 6 := by unfold digs16; rw [List.length_map, List.length_range]
theorem digs60_len (x : Int) : (digs60 x).length = 4 := by unfold digs60; rw [List.length_map, List.length_range]
theorem dig_piece16 {v : Int} (h0 : 0 ≤ v) (h1 : v < 16) : Dig (piece16 v) := by
  unfold piece16
  split
  · exact ⟨rfl, by dsimp only; omega, by dsimp only; omega⟩
  · exact ⟨rfl, by dsimp only; omega, by dsimp only; omega⟩
theorem dig_piece60 {v : Int} (h0 : 0 ≤ v) (h1 : v < 64) : Dig (piece60 v) := by
  unfold piece60
  split
  · split
    · exact ⟨rfl, by dsimp only; omega, by dsimp only; omega⟩
    · exact ⟨rfl, by dsimp only; omega, by dsimp only; omega⟩
  · split
    · exact ⟨rfl, by dsimp only; omega, by dsimp only; omega⟩
    · exact ⟨rfl, by dsimp only; omega, by dsimp only; omega⟩
theorem pieces16_dig (pg : List Int) : ∀ p ∈ pieces16 pg, Dig p := by
  intro p hp
  obtain ⟨x, _, hp⟩ := List.mem_flatMap.mp hp
  obtain ⟨j, _, rfl⟩ := List.mem_map.mp hp
  exact dig_piece16 (Int.emod_nonneg _ (by decide)) (Int.emod_lt_of_pos _ (by decide))
theorem pieces60_dig (pg : List Int) : ∀ p ∈ pieces60 pg, Dig p := by
  intro p hp
  obtain ⟨x, _, hp⟩ := List.mem_flatMap.mp hp
  obtain ⟨j, _, rfl⟩ := List.mem_map.mp hp
  exact dig_piece60 (Int.emod_nonneg _ (by decide)) (Int.emod_lt_of_pos _ (by decide))
theorem pieces16_len (pg : List Int) : (pieces16 pg).length = 6 * pg.length := fm_len digs16_len pg
theorem pieces60_len (pg : List Int) : (pieces60 pg).length = 4 * pg.length := fm_len digs60_len pg
theorem pieces16_app (a b : List Int) : pieces16 (a ++ b) = pieces16 a ++ pieces16 b := List.flatMap_append
theorem pieces60_app (a b : List Int) : pieces60 (a ++ b) = pieces60 a ++ pieces60 b := List.flatMap_append
theorem last16 : (pieces16 [1745143]).getLast? = some (55, 1, true) := by decide +kernel
theorem last60 : (pieces60 [1745143]).getLast? = some (51, 1, true) := by decide +kernel
theorem pg_c16 {pg : List Int} (P : Pg pg) : Closed (pieces16 pg) := by
  refine closed_of_last _ (pieces16_dig pg) fun p hp => ?_
  obtain ⟨ini, rfl⟩ := List.getLast?_eq_some_iff.mp P.last
  rw [pieces16_app, List.getLast?_append, last16] at hp
  cases hp
  rfl
theorem pg_c60 {pg : List Int} (P : Pg pg) : Closed (pieces60 pg) := by
  refine closed_of_last _ (pieces60_dig pg) fun p hp => ?_
  obtain ⟨ini, rfl⟩ := List.getLast?_eq_some_iff.mp P.last
  rw [pieces60_app, List.getLast?_append, last60] at hp
  cases hp
  rfl
theorem pg_wf16 {pg : List Int} (P : Pg pg) : WfP (pieces16 pg) := ⟨digits_wf (pieces16_dig pg), by rw [digits_sum _ (pieces16_dig pg), pieces16_len]; have := P.len; omega⟩
theorem pg_wf60 {pg : List Int} (P : Pg pg) : WfP (pieces60 pg) := ⟨digits_wf (pieces60_dig pg), by rw [digits_sum _ (pieces60_dig pg), pieces60_len]; have := P.len; omega⟩
theorem pg_lens {pg : List Int} (P : Pg pg) : (laid (pieces16 pg)).length ≤ 200 ∧ (laid (pieces60 pg)).length ≤ 200 := by
  have h1 := laid_length (pg_c16 P)
  have h2 := laid_length (pg_c60 P)
  rw [pieces16_len] at h1
  rw [pieces60_len] at h2
  have := P.len
  omega
/-- the sign of a figure of the base 16, as b16encode writes it -/
def sgH (k : Nat) : Int := ((Builtin.Bytes.toUpper (Builtin.Bytes.hexDigit k).toUInt8).toNat : Int)
theorem bInts_hex16 (b : Array UInt8) : KBw.bInts (hex16 b) = b.toList.flatMap fun c => [sgH (c.toNat / 16), sgH (c.toNat % 16)] := by
  unfold KBw.bInts hex16
  rw [List.map_map, Array.toList_map, hexOut_list, List.map_map, List.map_flatMap]
  rfl
theorem oct_sgn {n : Int} (h0 : 0 ≤ n) (h1 : n < 256) : [sgH ((n.toNat.toUInt8).toNat / 16), sgH ((n.toNat.toUInt8).toNat % 16)] = [sgn (piece16 (n / 16)), sgn (piece16 (n % 16))] := by
  obtain ⟨k, rfl⟩ := Int.eq_ofNat_of_zero_le h0
  have hk : k < 256 := by omega
  have key : ∀ k : Nat, k < 256 → [sgH (((k : Int).toNat.toUInt8).toNat / 16), sgH (((k : Int).toNat.toUInt8).toNat % 16)] = [sgn (piece16 ((k : Int) / 16)), sgn (piece16 ((k : Int) % 16))] := by decide +kernel
  exact key k hk
theorem digs16_eq (x : Int) : digs16 x = [piece16 (x / 1048576 % 16), piece16 (x / 65536 % 16), piece16 (x / 4096 % 16), piece16 (x / 256 % 16), piece16 (x / 16 % 16), piece16 (x / 1 % 16)] := rfl
theorem digs60_eq (x : Int) : digs60 x = [piece60 (x / 262144 % 64), piece60 (x / 4096 % 64), piece60 (x / 64 % 64), piece60 (x / 1 % 64)] := rfl
theorem oct16 {x : Int} (h0 : 0 ≤ x) (h1 : x < 16777216) : ((octs x).map fun n => n.toNat.toUInt8).flatMap (fun c => [sgH (c.toNat / 16), sgH (c.toNat % 16)]) = (digs16 x).map sgn := by
  have e1 := oct_sgn (n := x / 65536) (by omega) (by omega)
  have e2 := oct_sgn (n := x / 256 % 256) (by omega) (by omega)
  have e3 := oct_sgn (n := x % 256) (by omega) (by omega)
  unfold octs
  rw [List.map_cons, List.map_cons, List.map_cons, List.map_nil, List.flatMap_cons, List.flatMap_cons, List.flatMap_cons, List.flatMap_nil, e1, e2, e3, digs16_eq]
  rw [show x / 65536 / 16 = x / 1048576 % 16 by omega, show x / 256 % 256 / 16 = x / 4096 % 16 by omega, show x / 256 % 256 % 16 = x / 256 % 16 by omega, show x % 256 / 16 = x / 16 % 16 by omega, show x % 256 % 16 = x / 1 % 16 by omega]
  rfl
theorem signs16 : ∀ (pg : List Int), (∀ x ∈ pg, 0 ≤ x ∧ x < 16777216) → ((pg.flatMap octs).map fun n => n.toNat.toUInt8).flatMap (fun c => [sgH (c.toNat / 16), sgH (c.toNat % 16)]) = (pieces16 pg).map sgn
  | [], _ => rfl
  | x :: pg, h => by
    have hx := h x (.head _)
    rw [List.flatMap_cons, List.map_append, List.flatMap_append, signs16 pg fun y hy => h y (.tail _ hy), oct16 hx.1 hx.2]
    show _ = ((x :: pg).flatMap digs16).map sgn
    rw [List.flatMap_cons, List.map_append]
    rfl
theorem sgn_in {p : Piece} (h : Dig p) : 0 ≤ sgn p ∧ sgn p < 128 := by
  obtain ⟨_, h0, h1⟩ := h
  unfold sgn
  split <;> omega
theorem pg_s16 {pg : List Int} (P : Pg pg) : KBw.bInts (hex16 (rowOf pg)) = (pieces16 pg).map sgn := by
  rw [bInts_hex16]
  exact signs16 pg P.rng
theorem pg_h16 {pg : List Int} (P : Pg pg) : (hex16 (rowOf pg)).size ≤ 200 ∧ (∀ c ∈ KBw.bInts (hex16 (rowOf pg)), 0 ≤ c ∧ c < 128) ∧ parseAll (hex16 (rowOf pg)).size (KBw.bInts (hex16 (rowOf pg))) = some ((laid (pieces16 pg)).map (·.1)) := by
  have hz : (hex16 (rowOf pg)).size = (pieces16 pg).length := by rw [← KBw.ints_length, pg_s16 P, List.length_map]
  refine ⟨?_, ?_, ?_⟩
  · rw [hz, pieces16_len]; have := P.len; omega
  · intro c hc
    rw [pg_s16 P] at hc
    obtain ⟨p, hp, rfl⟩ := List.mem_map.mp hc
    exact sgn_in (pieces16_dig pg p hp)
  · rw [pg_s16 P, hz]
    exact parse_closed (pg_c16 P) _ (Nat.le_refl _)
theorem back8 {n : Int} (h0 : 0 ≤ n) (h1 : n < 256) : (((n.toNat.toUInt8).toNat : Nat) : Int) = n := by
  obtain ⟨k, rfl⟩ := Int.eq_ofNat_of_zero_le h0
  have hk : k < 256 := by omega
  rw [Int.toNat_natCast, Nat.toUInt8, UInt8.toNat_ofNat']
  omega
theorem back_list : ∀ (l : List Int), (∀ n ∈ l, 0 ≤ n ∧ n < 256) → (l.map fun n => n.toNat.toUInt8).map (fun c => (c.toNat : Int)) = l
  | [], _ => rfl
  | n :: l, h => by
    rw [List.map_cons, List.map_cons, back_list l fun m hm => h m (.tail _ hm), back8 (h n (.head _)).1 (h n (.head _)).2]
theorem pg_row {pg : List Int} (P : Pg pg) : KBw.bInts (rowOf pg) = pg.flatMap octs := by
  unfold KBw.bInts rowOf
  exact back_list _ (octs_in P.rng)
theorem ch_sgn {v : Int} (h0 : 0 ≤ v) (h1 : v < 64) : ch64 v = sgn (piece60 v) := by
  obtain ⟨k, rfl⟩ := Int.eq_ofNat_of_zero_le h0
  have hk : k < 64 := by omega
  have key : ∀ k : Nat, k < 64 → ch64 (k : Int) = sgn (piece60 (k : Int)) := by decide +kernel
  exact key k hk
theorem st64_0 (o : List Int) (lc k : Int) : st64 (o, 0, lc) k = (o ++ [ch64 ((lc * 256 + k) % 65536 / 4 % 64)], 2, (lc * 256 + k) % 65536) := rfl
theorem st64_2 (o : List Int) (lc k : Int) : st64 (o, 2, lc) k = (o ++ [ch64 ((lc * 256 + k) % 65536 / 16 % 64)], 4, (lc * 256 + k) % 65536) := rfl
theorem st64_4 (o : List Int) (lc k : Int) : st64 (o, 4, lc) k = (o ++ [ch64 ((lc * 256 + k) % 65536 / 64 % 64), ch64 ((lc * 256 + k) % 65536 % 64)], 0, (lc * 256 + k) % 65536) := rfl
theorem oct60 {x : Int} (h0 : 0 ≤ x) (h1 : x < 16777216) (o : List Int) (lc : Int) : ∃ lc', (octs x).foldl st64 (o, 0, lc) = (o ++ (digs60 x).map sgn, 0, lc') := by
  unfold octs
  rw [List.foldl_cons, List.foldl_cons, List.foldl_cons, List.foldl_nil, st64_0, st64_2, st64_4, digs60_eq]
  refine ⟨(((lc * 256 + x / 65536) % 65536 * 256 + x / 256 % 256) % 65536 * 256 + x % 256) % 65536, ?_⟩
  rw [List.map_cons, List.map_cons, List.map_cons, List.map_cons, List.map_nil, ← ch_sgn (v := x / 262144 % 64) (by omega) (by omega), ← ch_sgn (v := x / 4096 % 64) (by omega) (by omega), ← ch_sgn (v := x / 64 % 64) (by omega) (by omega), ← ch_sgn (v := x / 1 % 64) (by omega) (by omega)]
  have q1 : (lc * 256 + x / 65536) % 65536 / 4 % 64 = x / 262144 % 64 := by omega
  have q2 : ((lc * 256 + x / 65536) % 65536 * 256 + x / 256 % 256) % 65536 / 16 % 64 = x / 4096 % 64 := by omega
  have q3 : (((lc * 256 + x / 65536) % 65536 * 256 + x / 256 % 256) % 65536 * 256 + x % 256) % 65536 / 64 % 64 = x / 64 % 64 := by omega
  have q4 : (((lc * 256 + x / 65536) % 65536 * 256 + x / 256 % 256) % 65536 * 256 + x % 256) % 65536 % 64 = x / 1 % 64 := by omega
  rw [q1, q2, q3, q4, List.append_assoc, List.append_assoc]
  rfl
theorem signs60 : ∀ (pg : List Int), (∀ x ∈ pg, 0 ≤ x ∧ x < 16777216) → ∀ (o : List Int) (lc : Int), ∃ lc', (pg.flatMap octs).foldl st64 (o, 0, lc) = (o ++ (pieces60 pg).map sgn, 0, lc')
  | [], _, o, lc => ⟨lc, by show (o, (0 : Int), lc) = (o ++ [], 0, lc); rw [List.append_nil]⟩
  | x :: pg, h, o, lc => by
    have hx := h x (.head _)
    obtain ⟨l1, e1⟩ := oct60 hx.1 hx.2 o lc
    obtain ⟨l2, e2⟩ := signs60 pg (fun y hy => h y (.tail _ hy)) (o ++ (digs60 x).map sgn) l1
    refine ⟨l2, ?_⟩
    rw [List.flatMap_cons, List.foldl_append, e1, e2, List.append_assoc, ← List.map_append]
    rfl
theorem pg_f60 {pg : List Int} (P : Pg pg) : ∃ lc, (KBw.bInts (rowOf pg)).foldl st64 z64 = ((pieces60 pg).map sgn, 0, lc) := by
  rw [pg_row P]
  exact signs60 pg P.rng [] 0
theorem pg_hlb {pg : List Int} (P : Pg pg) : ((KBw.bInts (rowOf pg)).foldl st64 z64).2.1 = 0 := by
  obtain ⟨lc, e⟩ := pg_f60 P
  rw [e]
theorem pg_s60 {pg : List Int} (P : Pg pg) : KBw.bInts (enc64 (rowOf pg)) = (pieces60 pg).map sgn := by
  obtain ⟨lc, e⟩ := pg_f60 P
  have h : KBw.bInts (enc64 (rowOf pg)) = ((KBw.bInts (rowOf pg)).foldl st64 z64).1 := back_list _ (f64_in _)
  rw [h, e]
theorem pg_h60 {pg : List Int} (P : Pg pg) : (enc64 (rowOf pg)).size ≤ 200 ∧ (∀ c ∈ KBw.bInts (enc64 (rowOf pg)), 0 ≤ c ∧ c < 128) ∧ parseAll (enc64 (rowOf pg)).size (KBw.bInts (enc64 (rowOf pg))) = some ((laid (pieces60 pg)).map (·.1)) := by
  have hz : (enc64 (rowOf pg)).size = (pieces60 pg).length := by rw [← KBw.ints_length, pg_s60 P, List.length_map]
  refine ⟨?_, ?_, ?_⟩
  · rw [hz, pieces60_len]; have := P.len; omega
  · intro c hc
    rw [pg_s60 P] at hc
    obtain ⟨p, hp, rfl⟩ := List.mem_map.mp hc
    exact sgn_in (pieces60_dig pg p hp)
  · rw [pg_s60 P, hz]
    exact parse_closed (pg_c60 P) _ (Nat.le_refl _)
theorem pg_put16 {put : List Int} (h : put.length ≤ 1) : (pieces16 put).length ≤ 100 := by rw [pieces16_len]; omega
theorem pg_put60 {put : List Int} (h : put.length ≤ 1) : (pieces60 put).length ≤ 100 := by rw [pieces60_len]; omega
theorem natQ {k : Nat} {q : Int} (hq : 0 ≤ q) : (k : Int) * q = ((k * q.toNat : Nat) : Int) := by
  obtain ⟨n, rfl⟩ := Int.eq_ofNat_of_zero_le hq
  rw [Int.toNat_natCast]
  push_cast
  rfl
theorem pg_edit16 {pg : List Int} (P : Pg pg) (q g : Int) (hq : 0 ≤ q) (hg : 0 ≤ g) (put : List Int) : laid (edited (laid (pieces16 pg)) (6 * q) (6 * g) (pieces16 put)) = laid (pieces16 (pg.take q.toNat ++ put ++ pg.drop (q.toNat + g.toNat))) := by
  rw [show (6 : Int) * q = _ from natQ (k := 6) hq, show (6 : Int) * g = _ from natQ (k := 6) hg, edited_laid (pg_c16 P), ← Nat.mul_add, pieces16_app, pieces16_app]
  unfold pieces16
  rw [fm_take digs16_len, fm_drop digs16_len]
theorem pg_edit60 {pg : List Int} (P : Pg pg) (q g : Int) (hq : 0 ≤ q) (hg : 0 ≤ g) (put : List Int) : laid (edited (laid (pieces60 pg)) (4 * q) (4 * g) (pieces60 put)) = laid (pieces60 (pg.take q.toNat ++ put ++ pg.drop (q.toNat + g.toNat))) := by
  rw [show (4 : Int) * q = _ from natQ (k := 4) hq, show (4 : Int) * g = _ from natQ (k := 4) hg, edited_laid (pg_c60 P), ← Nat.mul_add, pieces60_app, pieces60_app]
  unfold pieces60
  rw [fm_take digs60_len, fm_drop digs60_len]
theorem pg_ewf16 {pg : List Int} (P : Pg pg) (q g : Int) (hq : 0 ≤ q) (hg : 0 ≤ g) (put : List Int) (hp : put.length ≤ 1) : WfP (edited (laid (pieces16 pg)) (6 * q) (6 * g) (pieces16 put)) := by
  rw [show (6 : Int) * q = _ from natQ (k := 6) hq, show (6 : Int) * g = _ from natQ (k := 6) hg]
  exact edited_wf (pg_c16 P) (pieces16_dig put) (by rw [pieces16_len, pieces16_len]; have := P.len; omega) _ _
theorem pg_ewf60 {pg : List Int} (P : Pg pg) (q g : Int) (hq : 0 ≤ q) (hg : 0 ≤ g) (put : List Int) (hp : put.length ≤ 1) : WfP (edited (laid (pieces60 pg)) (4 * q) (4 * g) (pieces60 put)) := by
  rw [show (4 : Int) * q = _ from natQ (k := 4) hq, show (4 : Int) * g = _ from natQ (k := 4) hg]
  exact edited_wf (pg_c60 P) (pieces60_dig put) (by rw [pieces60_len, pieces60_len]; have := P.len; omega) _ _
theorem le_sum {l : List Nat} {n : Nat} (h : n ∈ l) : n ≤ l.sum := by
  induction l with
  | nil => cases h
  | cons a l ih =>
    rw [List.sum_cons]
    rcases List.mem_cons.mp h with rfl | h
    · omega
    · have := ih h; omega
theorem runs_ok {ds : List Piece} (C : Closed ds) (hl : ds.length ≤ 100) : (∀ p ∈ laid ds, 0 ≤ p.2 ∧ p.2 ≤ 300) ∧ (laid ds).length ≤ 100 := by
  refine ⟨fun p hp => ?_, Nat.le_trans (laid_length C) hl⟩
  have h1 := (laid_runs C p hp).1
  have h2 := le_sum (List.mem_map_of_mem (f := fun p : Run => p.2.toNat) hp)
  rw [laid_sum C] at h2
  omega
theorem pg_runs16 {pg : List Int} (P : Pg pg) : (∀ p ∈ laid (pieces16 pg), 0 ≤ p.2 ∧ p.2 ≤ 300) ∧ (laid (pieces16 pg)).length ≤ 100 := runs_ok (pg_c16 P) (by rw [pieces16_len]; have := P.len; omega)
theorem pg_runs60 {pg : List Int} (P : Pg pg) : (∀ p ∈ laid (pieces60 pg), 0 ≤ p.2 ∧ p.2 ≤ 300) ∧ (laid (pieces60 pg)).length ≤ 100 := runs_ok (pg_c60 P) (by rw [pieces60_len]; have := P.len; omega)
theorem pg_next {pg put : List Int} (P : Pg pg) (pl g : Nat) (hl : pg.length ≤ 9) (hp : ∀ x ∈ put, 0 ≤ x ∧ x < 16777216) (hz : put.length ≤ 1) (hg : pl + g < pg.length) : Pg (pg.take pl ++ put ++ pg.drop (pl + g)) := by
  refine ⟨fun x hx => ?_, ?_, ?_⟩
  · rcases List.mem_append.mp hx with hx | hx
    · rcases List.mem_append.mp hx with hx | hx
      · exact P.rng x (List.mem_of_mem_take hx)
      · exact hp x hx
    · exact P.rng x (List.mem_of_mem_drop hx)
  · rw [List.getLast?_append, List.getLast?_drop, if_neg (by omega), P.last]
    rfl
  · rw [List.length_append, List.length_append, List.length_take, List.length_drop]
    omega
theorem pg_pos {pg : List Int} (P : Pg pg) : 0 < pg.length ∧ pg.length ≤ 10 := by
  refine ⟨?_, P.len⟩
  have := P.last
  cases pg with
  | nil => cases this
  | cons _ _ => exact Nat.succ_pos _
theorem pg_grow {pg put : List Int} {i a b : Nat} (h : pg.length ≤ i + 1) (hz : put.length ≤ 1) : (pg.take a ++ put ++ pg.drop (a + b)).length ≤ i + 1 + 1 := by
  rw [List.length_append, List.length_append, List.length_take, List.length_drop]
  omega
end Mine
end
/-! part LW -/
section
theorem Mine.offLW : True := by (w_top off; trivial)
namespace Mine
local macro_rules | `(tactic| k_room) => `(tactic| ktr_room)
local macro_rules | `(tactic| walk_at "call type:type") => `(tactic| (k_here; (with_reducible show wpAny _ _ (call (Value.type "type") [_]) _ _ _); first | refine call_type_of (Tx := "bytes") rfl (by decide +kernel) ?_ | refine call_type_of (Tx := "bool") rfl (by decide +kernel) ?_ | refine call_type_of (Tx := "int") rfl (by decide +kernel) ?_))
local macro_rules | `(tactic| walk_at "getMethod bytes") => `(tactic| (k_here; first | with_reducible refine get_hex ?_ | with_reducible refine get_upper ?_))
local macro_rules | `(tactic| walk_at "getMethod str") => `(tactic| (k_here; with_reducible refine get_encode ?_))
local macro_rules | `(tactic| walk_at "call builtin:bytes.hex") => `(tactic| (k_here; (refine call_hex (by first | assumption | (simp only [hexOut_size] at *; omega)) ?_); intro _ _))
local macro_rules | `(tactic| walk_at "call builtin:str.encode") => `(tactic| (k_here; (refine call_encode (hexOut_small _) (by (show (hexOut _).size ≤ 1000); simp only [hexOut_size] at *; omega) (by (show 0 < (hexOut _).size); simp only [hexOut_size] at *; omega) ?_); intro _ _))
local macro_rules | `(tactic| walk_at "call builtin:bytes.upper") => `(tactic| (k_here; (refine call_upper (by simp only [Array.size_map, hexOut_size] at *; omega) ?_); intro _ _))
local macro_rules | `(tactic| walk_at "subscriptTail") => `(tactic| (k_here; (with_reducible show wpAny _ _ (subscriptTail _ _ (Value.bytes (List.toArray _) _) (Value.int (Builtin.bitAnd _ 63) _)) _ _ _); k_dflt (refine' bytes_item_K ?f ?a ?b ?e ?_; (case f => kby_size); (case a => exact (bitAnd63 _).1); (case b => exact (bitAnd63 _).2); (case e => exact rfl); k_whole)))
local macro_rules | `(tactic| k_all) => `(tactic| assumption)
local macro_rules | `(tactic| size_fits) => `(tactic| (simp only [PySem.sizeLine_eq, Array.size_push, List.size_toArray, List.length_append, List.length_cons, List.length_nil]; omega))
local macro_rules | `(tactic| walk_at "call type:bytes") => `(tactic| (k_here; (with_reducible show wpAny _ _ (call (Value.type _) [Value.ref _]) _ _ _); k_dflt (refine' bytes_K ?F ?N ?l ?i ?r ?z ?h ?_; (case F => k_asm); (case N => k_asm); (case l => is_list); (case i => assumption); (case r => assumption); (case z => size_fits); (case h => with_unfolding_all rfl); k_whole); intro h' t' k' F' N' hB'; clear hB'))
local macro_rules | `(tactic| walk_at "pyIter bytes") => `(tactic| (k_here; (with_reducible show wpAny _ _ (pyIter (Value.bytes _ _)) (CompPost _ _ _ _ _ _ _ _ _) _ _); k_dflt (refine' comp_bytes_id ?hh ?F ?N ?hk ?hl ?hd ?hz ?_; (case hh => exact rfl); (case F => k_asm); (case N => k_asm); (case hk => exact rfl); (case hl => exact fun _ => rfl); (case hd => decide); (case hz => omega); k_whole); intro D' vs' n' h' tk' F' N' hne' hi'))
local macro_rules | `(tactic| walk_at "inplaceOp LShift int int") => `(tactic| (k_here; refine PyProof.Rows.ilshift_int (by decide) (by assumption) ?_))
local macro_rules | `(tactic| walk_at "call builtin:iter") => `(tactic| (k_here; (with_reducible show wpAny _ _ (call (Value.builtin "iter") [Value.ref _]) _ _ _); k_dflt (refine' call_iter ?F ?N ?p ?_; (case F => k_asm); (case N => k_asm); (case p => k_mem)); intro I' h' F' N' l1))
local macro_rules | `(tactic| walk_at "binaryOp Pow int int") => `(tactic| (k_here; refine PyProof.Rows.pow_int_small (by first | assumption | omega) (by first | assumption | omega) (by decide) ?_))
local macro_rules | `(tactic| walk_at "binaryOp Mult int int") => `(tactic| (k_here; refine PyProof.Rows.mul_int ?_ (by assumption)))
local macro_rules | `(tactic| walk_at "binaryOp Add ref ref") => `(tactic| (k_here; k_dflt (refine' addLed ?F ?N ?a ?b ?z ?_; (case F => k_asm); (case N => k_asm); (case a => k_mem); (case b => k_mem); (case z => simp only [List.length_append]; omega)); intro D' h' F' N' l1; (try k_lt l1)))
local macro_rules | `(tactic| walk_at "call ref") => `(tactic| refine stop ?_)
local macro_rules | `(tactic| walk_at "pyIter ref") => `(tactic| refine stop ?_)
local macro_rules | `(tactic| walk_at "binaryOp FloorDiv int int") => `(tactic| (k_here; refine PyProof.Rows.floordiv_int (by decide) ?_ (Or.inl (PyProof.noPylong_small (by decide)))))
local macro_rules | `(tactic| walk_at "binaryOp Mod int int") => `(tactic| (k_here; refine PyProof.Rows.mod_int' (by first | decide | omega) ?_))
local macro_rules | `(tactic| walk_at "binaryOp Mult int int") => `(tactic| (k_here; first | refine PyProof.Rows.mul_int ?_ (IntMulOk.of_left (by decide)) | refine PyProof.Rows.mul_int ?_ (IntMulOk.of_right (by decide))))
local macro_rules | `(tactic| walk_at "subscriptTail Name Slice ref ref") => `(tactic| (k_here; (with_reducible show wpAny _ _ (subscriptTail _ (PySem.Expr.Slice _ _ none _) (Value.ref _) (Value.ref _)) _ _ _); k_dflt (refine' kms_slice_lit ?F ?N ?l ?p ?q rfl ?_ ?s ?t ?z; (case F => k_asm); (case N => k_asm); (case l => first | assumption | kmk_list); (case p => kmk_part); (case q => kmk_part); (case s => with_unfolding_all rfl); (case t => kmk_pure); (case z => first | (simp only [PySem.sizeLine_eq, List.size_toArray]; omega) | kmk_size)); intro D' h' F' N' l1))
local macro_rules | `(tactic| walk_at "binaryOp Add ref ref") => `(tactic| refine stop ?_)
local macro_rules | `(tactic| walk_at "exec For Name Subscript cons nil") => `(tactic| refine stop ?_)
theorem turnFr {g g' h : Heap} {L : Addr} {m : Str → Option Value} (T : KtsTurn [] g g') (F : Fr g' L h m) : Fr g L h m :=
  ⟨F.ns, fun b o e => F.keep b o (T.other b o e (List.not_mem_nil)), T.size ▸ F.above⟩
theorem turnNews {g g' h : Heap} {L : Addr} {led : Led} (T : KtsTurn [] g g') (F : News g' L h led) : News g L h led :=
  fun p hp => ⟨(F p hp).1, (F p hp).2.1, by
    cases q : g.get? p.1 with
    | none => rfl
    | some o => exact absurd (T.other _ o q List.not_mem_nil) (by rw [(F p hp).2.2]; exact fun e => nomatch e)⟩
theorem pick5 {vs : List Value} {ns : List Int} (h : IntsAre vs ns) : IntsAre (kms_pick vs.toArray.toList none (some 5)) ((ns.drop 0).take (kms_hi (some 5) vs.length)) := (h.drop 0).take _
theorem pick5_len (vs : List Value) : (kms_pick vs none (some 5)).length ≤ 5 := by
  unfold kms_pick kms_lo kms_hi
  simp only [List.length_take, List.drop_zero]
  rw [if_neg (by decide)]
  have : Int.toNat 5 = 5 := rfl
  omega
theorem pick5x {g h : Heap} {L D : Addr} {led : Led} {vs : List Value} {ns : List Int} (_ : News g L h ((D, W.listOf (kms_pick vs.toArray.toList none (some 5)).toArray 0) :: led)) (hi : IntsAre vs ns) : ∃ ws xs, ws = kms_pick vs.toArray.toList none (some 5) ∧ IntsAre ws xs ∧ ws.length ≤ 5 := ⟨_, _, rfl, pick5 hi, pick5_len _⟩
theorem pick_len (l : List Value) (a b : Option Int) : (kms_pick l a b).length ≤ l.length := by
  unfold kms_pick
  rw [List.length_take, List.length_drop]
  omega
theorem pickHi {vs : List Value} {ns : List Int} (h : IntsAre vs ns) {q : Int} (h0 : 0 ≤ q) (h1 : q < (ns.length : Int)) : IntsAre (kms_pick vs.toArray.toList none (some q)) (ns.take q.toNat) := by
  have e : kms_pick vs.toArray.toList none (some q) = vs.take q.toNat := by
    unfold kms_pick kms_lo kms_hi
    dsimp only
    rw [if_neg (by omega), List.drop_zero, show min q.toNat vs.length - 0 = q.toNat by rw [h.length]; omega]
  rw [e]
  exact h.take _
theorem pickLo {vs : List Value} {ns : List Int} (h : IntsAre vs ns) {q g : Int} (h0 : 0 ≤ q) (hg : 0 ≤ g) (h1 : q.toNat + g.toNat < ns.length) : IntsAre (kms_pick vs.toArray.toList (some (q + g)) none) (ns.drop (q.toNat + g.toNat)) := by
  have e : kms_pick vs.toArray.toList (some (q + g)) none = vs.drop (q.toNat + g.toNat) := by
    unfold kms_pick kms_lo kms_hi
    dsimp only
    rw [if_neg (by omega), show min (q + g).toNat vs.length = q.toNat + g.toNat by rw [h.length]; omega]
    exact List.take_of_length_le (by rw [List.length_drop]; exact Nat.le_refl _)
  rw [e]
  exact h.drop _
theorem putNil {g h : Heap} {L l : Addr} {rest : Led} (N : News g L h ((l, W.listOf #[] 0) :: rest)) : ∃ pt us nu, News g L h ((l, W.listOf (List.toArray us) nu) :: rest) ∧ IntsAre us pt ∧ pt.length ≤ 1 ∧ ∀ x ∈ pt, 0 ≤ x ∧ x < 16777216 := ⟨[], [], 0, N, .nil, by decide, fun _ h => nomatch h⟩
theorem putOne {g h : Heap} {L l : Addr} {y : Int} {t : Tok} {rest : Led} (N : News g L h ((l, W.listOf #[.int (y.fmod 16777216) t] 0) :: rest)) : ∃ pt us nu, News g L h ((l, W.listOf (List.toArray us) nu) :: rest) ∧ IntsAre us pt ∧ pt.length ≤ 1 ∧ ∀ x ∈ pt, 0 ≤ x ∧ x < 16777216 :=
  ⟨[y.fmod 16777216], [.int (y.fmod 16777216) t], 0, N, IntsAre.cons _ _ .nil, Nat.le_refl _, fun x hx => by
    rw [List.mem_singleton.mp hx]
    exact ⟨Int.fmod_nonneg_of_pos _ (by decide), Int.fmod_lt_of_pos _ (by decide)⟩⟩
theorem offMem {g h : Heap} {L I a : Addr} {io o : Obj} {led : Led} (N : News g L h led) (hI : (I, io) ∈ led) (hm : (a, o) ∈ led) (hne : o ≠ io) : (a, o) ∈ led.filter (fun p => decide (p.1 ≠ I)) :=
  List.mem_filter.mpr ⟨hm, decide_eq_true fun e => hne (by
    have h1 := (N _ hm).1
    have h2 := (N _ hI).1
    have e' : a = I := e
    subst e'
    exact Option.some.inj (h1.symm.trans h2))⟩
theorem list_ne_it {vs : Array Value} {n : Nat} {D : Addr} {k : Nat} : W.listOf vs n ≠ itO D k := fun e => by
  have := congrArg Obj.cls e
  simp [W.listOf, itO] at this
theorem tup_ne_it {vs : List Value} {n : Nat} {D : Addr} {k : Nat} : tupO vs n ≠ itO D k := fun e => by
  have := congrArg Obj.cls e
  simp [tupO, itO] at this
theorem offInts {g h : Heap} {L I D : Addr} {k : Nat} {led : Led} {v : Value} {ns : List Int} (N : News g L h led) (hI : (I, itO D k) ∈ led) (H : IntsAt led v ns) : IntsAt (led.filter (fun p => decide (p.1 ≠ I))) v ns := by
  obtain ⟨l, vs, n, e, hm, hi⟩ := H
  exact ⟨l, vs, n, e, offMem N hI hm list_ne_it, hi⟩
theorem offRuns {g h : Heap} {L I D : Addr} {k : Nat} {led : Led} {v : Value} {ns : List Run} (N : News g L h led) (hI : (I, itO D k) ∈ led) (H : RunsAt led v ns) : RunsAt (led.filter (fun p => decide (p.1 ≠ I))) v ns := by
  obtain ⟨l, vs, n, e, hm, hb⟩ := H
  refine ⟨l, vs, n, e, offMem N hI hm list_ne_it, hb.mono fun a b r => ?_⟩
  obtain ⟨a', t1, t2, n', e', hm'⟩ := r
  exact ⟨a', t1, t2, n', e', offMem N hI hm' tup_ne_it⟩
theorem oneAt {g h : Heap} {L l : Addr} {x : Int} {t : Tok} {n : Nat} (_ : News g L h [(l, W.listOf #[.int x t] n)]) : IntsAt [(l, W.listOf #[.int x t] n)] (.ref l) [x] := ⟨l, [.int x t], n, rfl, .head _, IntsAre.cons _ _ .nil⟩
theorem intsUp {led led' : Led} {v : Value} {ns : List Int} (h : IntsAt led v ns) (hs : ∀ p ∈ led, p ∈ led') : IntsAt led' v ns := by
  obtain ⟨l, vs, n, e, hm, hi⟩ := h
  exact ⟨l, vs, n, e, hs _ hm, hi⟩
set_option maxRecDepth 100000 in
set_option maxHeartbeats 8000000 in
theorem lw : PySem.Challenge.rw_ny0010_01.Holds := hd (by
  k_go0
  (all_goals try k_fold)
  k_steps
  unfold Stop
  rename Fr _ _ _ _ => F1
  rename News _ _ _ _ => N1
  obtain ⟨l0, el⟩ := nameHead N1
  subst el
  rename Top _ _ _ _ _ _ => TB
  have hI0 := oneAt N1
  k_dflt (refine' conDUse (sixteen_con _ _ _ _ _ [1745143] (by decide) (by decide)) ?k1 ?k2 ?k3 ?k4 ?k5 ?kK ?kp ?kd ?ku ?_; (case k2 => exact F1); (case k1 => exact below_caller _); (case k3 => assumption); (case k4 => exact N1); (case k5 => exact TB); (case kK => exact rfl); (case kp => exact hI0); (case kd => decide); (case ku => decide))
  rintro r2 led2 h2 tk2 F2 N2 hs2 hp2
  dsimp only
  k_steps
  unfold Stop
  k_dflt (refine' conDUse (laid_con _ _ _ _ _ (pieces16 [1745143]) (pg_wf16 pg0) (by decide)) ?k1 ?k2 ?k3 ?k4 ?k5 ?kK ?kp ?kd ?ku ?_; (case k2 => exact F2); (case k1 => exact below_caller _); (case k3 => assumption); (case k4 => exact N2); (case k5 => exact TB); (case kK => exact rfl); (case kp => exact hp2); (case kd => decide); (case ku => decide))
  rintro r3 led3 h3 tk3 F3 N3 hs3 hp3
  dsimp only
  clear F1 N1 F2 N2
  k_steps
  unfold Stop
  rename Fr _ _ _ _ => F4
  rename News _ _ _ _ => N4
  have hI3 := intsUp hI0 fun p hp => hs3 p (hs2 p hp)
  k_dflt (refine' conDUse (sixty_con _ _ _ _ _ [1745143] (by decide) (by decide)) ?k1 ?k2 ?k3 ?k4 ?k5 ?kK ?kp ?kd ?ku ?_; (case k2 => exact F4); (case k1 => exact below_caller _); (case k3 => assumption); (case k4 => exact N4); (case k5 => exact TB); (case kK => exact rfl); (case kp => exact hI3); (case kd => decide); (case ku => decide))
  rintro r5 led5 h5 tk5 F5 N5 hs5 hp5
  dsimp only
  clear F4 N4
  k_steps
  unfold Stop
  k_dflt (refine' conDUse (laid_con _ _ _ _ _ (pieces60 [1745143]) (pg_wf60 pg0) (by decide)) ?k1 ?k2 ?k3 ?k4 ?k5 ?kK ?kp ?kd ?ku ?_; (case k2 => exact F5); (case k1 => exact below_caller _); (case k3 => assumption); (case k4 => exact N5); (case k5 => exact TB); (case kK => exact rfl); (case kp => exact hp5); (case kd => decide); (case ku => decide))
  rintro r6 led6 h6 tk6 F6 N6 hs6 hp6
  dsimp only
  clear F5 N5
  k_steps
  unfold Stop
  rename Fr _ _ _ _ => F7
  rename News _ _ _ _ => N7
  have hI6 := intsUp hI3 fun p hp => hs6 p (hs5 p hp)
  k_dflt (refine' conSUse (holds_con _ _ _ _ _ _ _ [1745143] (laid (pieces16 [1745143])) (laid (pieces60 [1745143])) (by decide) (by decide) (pg_lens pg0) (pg_h16 pg0) (pg_hlb pg0) (pg_h60 pg0)) ?k1 ?k2 ?k3 ?k4 ?k5 ?XB TB ktsDicts_nil ?kK ?kp ?kd ?ku ?_; (case k2 => exact F7); (case k1 => exact below_caller _); (case k3 => assumption); (case XB => assumption); (case k4 => exact N7); (case k5 => exact TB); (case kK => exact rfl); (case kp => exact ⟨hI6, hp3.mono (fun p hp => hs6 p (hs5 p hp)), hp6⟩); (case kd => decide); (case ku => decide))
  rintro r8 led8 h8 tk8 g8 T8 F8 N8 B8 X8 TT8 D8 hs8 rfl
  have F9 := turnFr T8 F8
  have N9 := turnNews T8 N8
  clear T8 F8 N8 B8 X8 TT8 D8 F7 N7
  dsimp only
  k_steps
  unfold Stop
  refine wpAny_For ?_ (by intro _; rfl)
  rename IntsAre _ _ => hxs
  rename Heap.IsList _ _ _ => hxl
  rename ¬ _ < _ => hx63
  have hxz := hxs.length
  k_steps
  unfold Stop
  rename Fr _ _ _ _ => F10
  rename News _ _ _ _ => N10
  obtain ⟨D, eD⟩ := nameHead N10
  subst eD
  obtain ⟨ws, xs, ews, hz5, hz6⟩ := pick5x N10 hxs
  rw [← ews] at N10
  have up : ∀ p ∈ led6, p ∈ (D, W.listOf ws.toArray 0) :: led8 := fun p hp => .tail _ (hs8 p hp)
  refine forList (fun i m' led => ∃ pg v1 v2 v3, Pg pg ∧ pg.length ≤ i + 1 ∧ IntsAt led v1 pg ∧ RunsAt led v2 (laid (pieces16 pg)) ∧ RunsAt led v3 (laid (pieces60 pg)) ∧
      m' (Str.ofString "page") = some v1 ∧ m' (Str.ofString "sixteen") = some v2 ∧ m' (Str.ofString "sixty") = some v3) (by passes_own) rfl (l := D) (vs := ws) (nn := 0) (.head _) F10 N10 ?_ ?_ ?_
  · exact ⟨[1745143], _, _, _, pg0, Nat.le_refl _, intsUp hI6 up, hp3.mono fun p hp => up p (hs6 p (hs5 p hp)), hp6.mono up, rfl, rfl, rfl⟩
  · rintro i v m' led h tk I hv ⟨pg, v1, v2, v3, P, hpl, ⟨l1, vs1, n1, rfl, hl1, hi1⟩, hr2, hr3, e1, e2, e3⟩ hlm hI F2 N2
    have hiz := hz5.length
    have hil : i < 5 := by have := (List.getElem?_eq_some_iff.mp hv).1; omega
    have hil' := (List.getElem?_eq_some_iff.mp hv).1
    rw [hiz] at hil'
    obtain ⟨t, hx⟩ := hz5.get i _ (List.getElem?_eq_getElem hil')
    rw [hx] at hv
    cases hv
    have hv1 := hi1.length
    have hz1 : vs1.length ≤ 9 := by omega
    have hz0 : 0 < vs1.length := by
      have := P.last
      cases pg with
      | nil => cases this
      | cons _ _ => rw [hv1]; exact Nat.succ_pos _
    generalize xs[i] = x at *
    have F3 := frCong (m' := fun y => if y = Str.ofString "page" then some (.ref l1) else if y = Str.ofString "sixteen" then some v2 else if y = Str.ofString "sixty" then some v3 else m' y) F2 (by intro y; rw [pin1 e3, pin1 e2, pin1 e1])
    have N3 := newsSub N2 (news' := (l1, W.listOf vs1.toArray n1) :: (I, itO D (i + 1)) :: led) (by
      intro q hq
      rcases List.mem_cons.mp hq with rfl | hq
      · exact .tail _ hl1
      · exact hq)
    clear F10 N10 F2 N2 e1 e2 e3 F9 N9
    have hq0 : 0 ≤ ((x.fdiv 3 + x.fdiv 50331648).fmod (pg.length : Int)) := Int.fmod_nonneg_of_pos _ (by omega)
    have hq1 : ((x.fdiv 3 + x.fdiv 50331648).fmod (pg.length : Int)) < (pg.length : Int) := Int.fmod_lt_of_pos _ (by omega)
    k_steps
    · exfalso; omega
    · unfold Stop
      rename Fr _ _ _ _ => F4
      rename News _ _ _ _ => N4
      obtain ⟨lp, elp⟩ := nameHead N4
      subst elp
      obtain ⟨pt, us, nu, N5, hu, hpz, hpr⟩ := putNil N4
      have hgl : (((x.fdiv 3 + x.fdiv 50331648).fmod (pg.length : Int))).toNat + Int.toNat 0 < pg.length := by (have : Int.toNat 0 = 0 := rfl); omega
      clear N4
      have huz : us.length ≤ 1 := by rw [hu.length]; exact hpz
      have P2 : Pg (pg.take (((x.fdiv 3 + x.fdiv 50331648).fmod (pg.length : Int))).toNat ++ pt ++ pg.drop ((((x.fdiv 3 + x.fdiv 50331648).fmod (pg.length : Int))).toNat + Int.toNat 0)) := pg_next P _ _ (by omega) hpr hpz hgl
      k_dflt (refine' conDUse (sixteen_con _ _ _ _ _ pt hpr (by omega)) ?k1 ?k2 ?k3 ?k4 ?k5 ?kK ?kp ?kd ?ku ?_; (case k2 => exact F4); (case k1 => exact below_caller _); (case k3 => assumption); (case k4 => exact N5); (case k5 => exact TB); (case kK => exact rfl); (case kp => exact ⟨_, _, _, rfl, .head _, hu⟩); (case kd => decide); (case ku => decide))
      rintro r11 led11 h11 tk11 F11 N11 hs11 hp11
      dsimp only
      clear F4 N5
      k_steps
      unfold Stop
      have hlp11 := hs11 _ (.head _)
      have hld11 : ∀ p ∈ led, p ∈ led11 := fun p hp => hs11 p (.tail _ (.tail _ (.tail _ hp)))
      have hI11 : (I, itO D (i + 1)) ∈ led11 := hs11 _ (.tail _ (.tail _ (.head _)))
      k_dflt (refine' conDUse (edited_con _ _ _ _ _ _ _ _ (laid (pieces16 pg)) (pieces16 pt) (6 * ((x.fdiv 3 + x.fdiv 50331648).fmod (pg.length : Int))) (6 * 0) (pg_runs16 P).1 (by omega) (by decide) (pg_runs16 P).2 (pg_put16 hpz) (pg_ewf16 P _ 0 hq0 (by decide) pt hpz)) ?k1 ?k2 ?k3 ?k4 ?k5 ?kK ?kp ?kd ?ku ?_; (case k2 => exact F11); (case k1 => exact below_caller _); (case k3 => assumption); (case k4 => exact N11); (case k5 => exact TB); (case kK => exact rfl); (case kp => exact ⟨hr2.mono hld11, hp11⟩); (case kd => decide); (case ku => decide))
      rintro r12 led12 h12 tk12 F12 N12 hs12 hp12
      dsimp only
      clear F11 N11
      rw [pg_edit16 P _ 0 hq0 (by decide) pt] at hp12
      k_steps
      unfold Stop
      rename Fr _ _ _ _ => F13
      rename News _ _ _ _ => N13
      k_dflt (refine' conDUse (sixty_con _ _ _ _ _ pt hpr (by omega)) ?k1 ?k2 ?k3 ?k4 ?k5 ?kK ?kp ?kd ?ku ?_; (case k2 => exact F13); (case k1 => exact below_caller _); (case k3 => assumption); (case k4 => exact N13); (case k5 => exact TB); (case kK => exact rfl); (case kp => exact ⟨_, _, _, rfl, hs12 _ hlp11, hu⟩); (case kd => decide); (case ku => decide))
      rintro r14 led14 h14 tk14 F14 N14 hs14 hp14
      dsimp only
      clear F13 N13
      k_steps
      unfold Stop
      k_dflt (refine' conDUse (edited_con _ _ _ _ _ _ _ _ (laid (pieces60 pg)) (pieces60 pt) (4 * ((x.fdiv 3 + x.fdiv 50331648).fmod (pg.length : Int))) (4 * 0) (pg_runs60 P).1 (by omega) (by decide) (pg_runs60 P).2 (pg_put60 hpz) (pg_ewf60 P _ 0 hq0 (by decide) pt hpz)) ?k1 ?k2 ?k3 ?k4 ?k5 ?kK ?kp ?kd ?ku ?_; (case k2 => exact F14); (case k1 => exact below_caller _); (case k3 => assumption); (case k4 => exact N14); (case k5 => exact TB); (case kK => exact rfl); (case kp => exact ⟨hr3.mono fun p hp => hs14 p (hs12 p (hld11 p hp)), hp14⟩); (case kd => decide); (case ku => decide))
      rintro r15 led15 h15 tk15 F15 N15 hs15 hp15
      dsimp only
      clear F14
      rw [pg_edit60 P _ 0 hq0 (by decide) pt] at hp15
      have up12 : ∀ p ∈ led12, p ∈ led15 := fun p hp => hs15 p (hs14 p hp)
      have N16 := newsSub N15 (news' := (lp, W.listOf us.toArray nu) :: (l1, W.listOf vs1.toArray n1) :: led15) (by
        intro q hq
        rcases List.mem_cons.mp hq with rfl | hq
        · exact up12 _ (hs12 _ hlp11)
        rcases List.mem_cons.mp hq with rfl | hq
        · exact up12 _ (hs12 _ (hld11 _ hl1))
        · exact hq)
      clear N15 N14
      have hk1 := pick_len vs1.toArray.toList none (some ((x.fdiv 3 + x.fdiv 50331648).fmod (pg.length : Int)))
      have hk2 := pick_len vs1.toArray.toList (some (((x.fdiv 3 + x.fdiv 50331648).fmod (pg.length : Int)) + 0)) none
      have hk3 : vs1.toArray.toList.length ≤ 9 := hz1
      k_steps
      unfold Stop
      rename Fr _ _ _ _ => F17
      rename News _ _ _ _ => N17
      k_dflt (refine' addLed (vs := kms_pick vs1.toArray.toList none (some ((x.fdiv 3 + x.fdiv 50331648).fmod (pg.length : Int)))) (ws := us) ?qF ?qN ?qa ?qb ?qz ?_; (case qF => exact F17); (case qN => exact N17); (case qa => exact .head _); (case qb => exact .tail _ (.head _)); (case qz => omega))
      intro D18 h18 F18 N18 lt18
      dsimp only
      have N19 := newsSub N18 (news' := (D18, W.listOf (List.toArray (kms_pick vs1.toArray.toList none (some ((x.fdiv 3 + x.fdiv 50331648).fmod (pg.length : Int))) ++ us)) 0) :: (l1, W.listOf vs1.toArray n1) :: led15) (by
        intro q hq
        rcases List.mem_cons.mp hq with rfl | hq
        · exact .head _
        · exact .tail _ (.tail _ (.tail _ hq)))
      clear F17 N17 N18 lt18
      k_steps
      unfold Stop
      rename Fr _ _ _ _ => F20
      rename News _ _ _ _ => N20
      k_dflt (refine' addLed (vs := kms_pick vs1.toArray.toList none (some ((x.fdiv 3 + x.fdiv 50331648).fmod (pg.length : Int))) ++ us) (ws := kms_pick vs1.toArray.toList (some (((x.fdiv 3 + x.fdiv 50331648).fmod (pg.length : Int)) + 0)) none) ?qF ?qN ?qa ?qb ?qz ?_; (case qF => exact F20); (case qN => exact N20); (case qa => exact .tail _ (.head _)); (case qb => exact .head _); (case qz => (rw [List.length_append]; omega)))
      intro D21 h21 F21 N21 lt21
      dsimp only
      have hi21 := ((pickHi hi1 hq0 hq1).append hu).append (pickLo hi1 hq0 (by decide) hgl)
      have N22 := newsSub N21 (news' := (D21, W.listOf (List.toArray (kms_pick vs1.toArray.toList none (some ((x.fdiv 3 + x.fdiv 50331648).fmod (pg.length : Int))) ++ us ++ kms_pick vs1.toArray.toList (some (((x.fdiv 3 + x.fdiv 50331648).fmod (pg.length : Int)) + 0)) none)) 0) :: led15) (by
        intro q hq
        rcases List.mem_cons.mp hq with rfl | hq
        · exact .head _
        · exact .tail _ (.tail _ (.tail _ (.tail _ hq))))
      clear F20 N20 N21 lt21
      k_steps
      unfold Stop
      rename Fr _ _ _ _ => F23
      rename News _ _ _ _ => N23
      k_dflt (refine' conSUse (holds_con _ _ _ _ _ _ _ _ _ _ P2.rng (pg_pos P2) (pg_lens P2) (pg_h16 P2) (pg_hlb P2) (pg_h60 P2)) ?k1 ?k2 ?k3 ?k4 ?k5 ?XB TB ktsDicts_nil ?kK ?kp ?kd ?ku ?_; (case k2 => exact F23); (case k1 => exact below_caller _); (case k3 => assumption); (case XB => assumption); (case k4 => exact N23); (case k5 => exact TB); (case kK => exact rfl); (case kp => exact ⟨⟨_, _, _, rfl, .head _, hi21⟩, hp12.mono (fun p hp => .tail _ (up12 p hp)), hp15.mono fun p hp => .tail _ hp⟩); (case kd => decide); (case ku => decide))
      rintro r24 led24 h24 tk24 g24 T24 F24 N24 B24 X24 TT24 D24 hs24 rfl
      have F25 := turnFr T24 F24
      have N25 := turnNews T24 N24
      clear T24 F24 N24 B24 X24 TT24 D24 F23 N23
      dsimp only
      k_steps
      rename Fr _ _ _ _ => F26
      rename News _ _ _ _ => N26
      have up15 : ∀ p ∈ led15, p ∈ led24 := fun p hp => hs24 p (.tail _ hp)
      have hI24 : (I, itO D (i + 1)) ∈ led24 := up15 _ (up12 _ (hs12 _ hI11))
      have hD24 : (D, W.listOf ws.toArray 0) ∈ led24 := up15 _ (up12 _ (hs12 _ (hld11 _ hlm)))
      refine forEnd_next F26 (newsSub N26 (news' := (I, itO D (i + 1)) :: led24.filter (fun p => decide (p.1 ≠ I))) ?_) ?_ (offMem N26 hI24 hD24 list_ne_it)
        ⟨_, _, _, _, P2, pg_grow hpl hpz, offInts N26 hI24 ⟨_, _, _, rfl, hs24 _ (.head _), hi21⟩, offRuns N26 hI24 (hp12.mono fun p hp => up15 p (up12 p hp)), offRuns N26 hI24 (hp15.mono up15), rfl, rfl, rfl⟩
      · intro q hq
        rcases List.mem_cons.mp hq with rfl | hq
        · exact hI24
        · exact (List.mem_filter.mp hq).1
      · exact fun p hp => of_decide_eq_true (List.mem_filter.mp hp).2
    · unfold Stop
      rename Fr _ _ _ _ => F4
      rename News _ _ _ _ => N4
      obtain ⟨lp, elp⟩ := nameHead N4
      subst elp
      obtain ⟨pt, us, nu, N5, hu, hpz, hpr⟩ := putNil N4
      have hgl : (((x.fdiv 3 + x.fdiv 50331648).fmod (pg.length : Int))).toNat + Int.toNat 1 < pg.length := by (have : Int.toNat 1 = 1 := rfl); omega
      clear N4
      have huz : us.length ≤ 1 := by rw [hu.length]; exact hpz
      have P2 : Pg (pg.take (((x.fdiv 3 + x.fdiv 50331648).fmod (pg.length : Int))).toNat ++ pt ++ pg.drop ((((x.fdiv 3 + x.fdiv 50331648).fmod (pg.length : Int))).toNat + Int.toNat 1)) := pg_next P _ _ (by omega) hpr hpz hgl
      k_dflt (refine' conDUse (sixteen_con _ _ _ _ _ pt hpr (by omega)) ?k1 ?k2 ?k3 ?k4 ?k5 ?kK ?kp ?kd ?ku ?_; (case k2 => exact F4); (case k1 => exact below_caller _); (case k3 => assumption); (case k4 => exact N5); (case k5 => exact TB); (case kK => exact rfl); (case kp => exact ⟨_, _, _, rfl, .head _, hu⟩); (case kd => decide); (case ku => decide))
      rintro r11 led11 h11 tk11 F11 N11 hs11 hp11
      dsimp only
      clear F4 N5
      k_steps
      unfold Stop
      have hlp11 := hs11 _ (.head _)
      have hld11 : ∀ p ∈ led, p ∈ led11 := fun p hp => hs11 p (.tail _ (.tail _ (.tail _ hp)))
      have hI11 : (I, itO D (i + 1)) ∈ led11 := hs11 _ (.tail _ (.tail _ (.head _)))
      k_dflt (refine' conDUse (edited_con _ _ _ _ _ _ _ _ (laid (pieces16 pg)) (pieces16 pt) (6 * ((x.fdiv 3 + x.fdiv 50331648).fmod (pg.length : Int))) (6 * 1) (pg_runs16 P).1 (by omega) (by decide) (pg_runs16 P).2 (pg_put16 hpz) (pg_ewf16 P _ 1 hq0 (by decide) pt hpz)) ?k1 ?k2 ?k3 ?k4 ?k5 ?kK ?kp ?kd ?ku ?_; (case k2 => exact F11); (case k1 => exact below_caller _); (case k3 => assumption); (case k4 => exact N11); (case k5 => exact TB); (case kK => exact rfl); (case kp => exact ⟨hr2.mono hld11, hp11⟩); (case kd => decide); (case ku => decide))
      rintro r12 led12 h12 tk12 F12 N12 hs12 hp12
      dsimp only
      clear F11 N11
      rw [pg_edit16 P _ 1 hq0 (by decide) pt] at hp12
      k_steps
      unfold Stop
      rename Fr _ _ _ _ => F13
      rename News _ _ _ _ => N13
      k_dflt (refine' conDUse (sixty_con _ _ _ _ _ pt hpr (by omega)) ?k1 ?k2 ?k3 ?k4 ?k5 ?kK ?kp ?kd ?ku ?_; (case k2 => exact F13); (case k1 => exact below_caller _); (case k3 => assumption); (case k4 => exact N13); (case k5 => exact TB); (case kK => exact rfl); (case kp => exact ⟨_, _, _, rfl, hs12 _ hlp11, hu⟩); (case kd => decide); (case ku => decide))
      rintro r14 led14 h14 tk14 F14 N14 hs14 hp14
      dsimp only
      clear F13 N13
      k_steps
      unfold Stop
      k_dflt (refine' conDUse (edited_con _ _ _ _ _ _ _ _ (laid (pieces60 pg)) (pieces60 pt) (4 * ((x.fdiv 3 + x.fdiv 50331648).fmod (pg.length : Int))) (4 * 1) (pg_runs60 P).1 (by omega) (by decide) (pg_runs60 P).2 (pg_put60 hpz) (pg_ewf60 P _ 1 hq0 (by decide) pt hpz)) ?k1 ?k2 ?k3 ?k4 ?k5 ?kK ?kp ?kd ?ku ?_; (case k2 => exact F14); (case k1 => exact below_caller _); (case k3 => assumption); (case k4 => exact N14); (case k5 => exact TB); (case kK => exact rfl); (case kp => exact ⟨hr3.mono fun p hp => hs14 p (hs12 p (hld11 p hp)), hp14⟩); (case kd => decide); (case ku => decide))
      rintro r15 led15 h15 tk15 F15 N15 hs15 hp15
      dsimp only
      clear F14
      rw [pg_edit60 P _ 1 hq0 (by decide) pt] at hp15
      have up12 : ∀ p ∈ led12, p ∈ led15 := fun p hp => hs15 p (hs14 p hp)
      have N16 := newsSub N15 (news' := (lp, W.listOf us.toArray nu) :: (l1, W.listOf vs1.toArray n1) :: led15) (by
        intro q hq
        rcases List.mem_cons.mp hq with rfl | hq
        · exact up12 _ (hs12 _ hlp11)
        rcases List.mem_cons.mp hq with rfl | hq
        · exact up12 _ (hs12 _ (hld11 _ hl1))
        · exact hq)
      clear N15 N14
      have hk1 := pick_len vs1.toArray.toList none (some ((x.fdiv 3 + x.fdiv 50331648).fmod (pg.length : Int)))
      have hk2 := pick_len vs1.toArray.toList (some (((x.fdiv 3 + x.fdiv 50331648).fmod (pg.length : Int)) + 1)) none
      have hk3 : vs1.toArray.toList.length ≤ 9 := hz1
      k_steps
      unfold Stop
      rename Fr _ _ _ _ => F17
      rename News _ _ _ _ => N17
      k_dflt (refine' addLed (vs := kms_pick vs1.toArray.toList none (some ((x.fdiv 3 + x.fdiv 50331648).fmod (pg.length : Int)))) (ws := us) ?qF ?qN ?qa ?qb ?qz ?_; (case qF => exact F17); (case qN => exact N17); (case qa => exact .head _); (case qb => exact .tail _ (.head _)); (case qz => omega))
      intro D18 h18 F18 N18 lt18
      dsimp only
      have N19 := newsSub N18 (news' := (D18, W.listOf (List.toArray (kms_pick vs1.toArray.toList none (some ((x.fdiv 3 + x.fdiv 50331648).fmod (pg.length : Int))) ++ us)) 0) :: (l1, W.listOf vs1.toArray n1) :: led15) (by
        intro q hq
        rcases List.mem_cons.mp hq with rfl | hq
        · exact .head _
        · exact .tail _ (.tail _ (.tail _ hq)))
      clear F17 N17 N18 lt18
      k_steps
      unfold Stop
      rename Fr _ _ _ _ => F20
      rename News _ _ _ _ => N20
      k_dflt (refine' addLed (vs := kms_pick vs1.toArray.toList none (some ((x.fdiv 3 + x.fdiv 50331648).fmod (pg.length : Int))) ++ us) (ws := kms_pick vs1.toArray.toList (some (((x.fdiv 3 + x.fdiv 50331648).fmod (pg.length : Int)) + 1)) none) ?qF ?qN ?qa ?qb ?qz ?_; (case qF => exact F20); (case qN => exact N20); (case qa => exact .tail _ (.head _)); (case qb => exact .head _); (case qz => (rw [List.length_append]; omega)))
      intro D21 h21 F21 N21 lt21
      dsimp only
      have hi21 := ((pickHi hi1 hq0 hq1).append hu).append (pickLo hi1 hq0 (by decide) hgl)
      have N22 := newsSub N21 (news' := (D21, W.listOf (List.toArray (kms_pick vs1.toArray.toList none (some ((x.fdiv 3 + x.fdiv 50331648).fmod (pg.length : Int))) ++ us ++ kms_pick vs1.toArray.toList (some (((x.fdiv 3 + x.fdiv 50331648).fmod (pg.length : Int)) + 1)) none)) 0) :: led15) (by
        intro q hq
        rcases List.mem_cons.mp hq with rfl | hq
        · exact .head _
        · exact .tail _ (.tail _ (.tail _ (.tail _ hq))))
      clear F20 N20 N21 lt21
      k_steps
      unfold Stop
      rename Fr _ _ _ _ => F23
      rename News _ _ _ _ => N23
      k_dflt (refine' conSUse (holds_con _ _ _ _ _ _ _ _ _ _ P2.rng (pg_pos P2) (pg_lens P2) (pg_h16 P2) (pg_hlb P2) (pg_h60 P2)) ?k1 ?k2 ?k3 ?k4 ?k5 ?XB TB ktsDicts_nil ?kK ?kp ?kd ?ku ?_; (case k2 => exact F23); (case k1 => exact below_caller _); (case k3 => assumption); (case XB => assumption); (case k4 => exact N23); (case k5 => exact TB); (case kK => exact rfl); (case kp => exact ⟨⟨_, _, _, rfl, .head _, hi21⟩, hp12.mono (fun p hp => .tail _ (up12 p hp)), hp15.mono fun p hp => .tail _ hp⟩); (case kd => decide); (case ku => decide))
      rintro r24 led24 h24 tk24 g24 T24 F24 N24 B24 X24 TT24 D24 hs24 rfl
      have F25 := turnFr T24 F24
      have N25 := turnNews T24 N24
      clear T24 F24 N24 B24 X24 TT24 D24 F23 N23
      dsimp only
      k_steps
      rename Fr _ _ _ _ => F26
      rename News _ _ _ _ => N26
      have up15 : ∀ p ∈ led15, p ∈ led24 := fun p hp => hs24 p (.tail _ hp)
      have hI24 : (I, itO D (i + 1)) ∈ led24 := up15 _ (up12 _ (hs12 _ hI11))
      have hD24 : (D, W.listOf ws.toArray 0) ∈ led24 := up15 _ (up12 _ (hs12 _ (hld11 _ hlm)))
      refine forEnd_next F26 (newsSub N26 (news' := (I, itO D (i + 1)) :: led24.filter (fun p => decide (p.1 ≠ I))) ?_) ?_ (offMem N26 hI24 hD24 list_ne_it)
        ⟨_, _, _, _, P2, pg_grow hpl hpz, offInts N26 hI24 ⟨_, _, _, rfl, hs24 _ (.head _), hi21⟩, offRuns N26 hI24 (hp12.mono fun p hp => up15 p (up12 p hp)), offRuns N26 hI24 (hp15.mono up15), rfl, rfl, rfl⟩
      · intro q hq
        rcases List.mem_cons.mp hq with rfl | hq
        · exact hI24
        · exact (List.mem_filter.mp hq).1
      · exact fun p hp => of_decide_eq_true (List.mem_filter.mp hp).2
    · unfold Stop
      rename Fr _ _ _ _ => F4
      rename News _ _ _ _ => N4
      obtain ⟨lp, elp⟩ := nameHead N4
      subst elp
      obtain ⟨pt, us, nu, N5, hu, hpz, hpr⟩ := putOne N4
      have hgl : (((x.fdiv 3 + x.fdiv 50331648).fmod (pg.length : Int))).toNat + Int.toNat 0 < pg.length := by (have : Int.toNat 0 = 0 := rfl); omega
      clear N4
      have huz : us.length ≤ 1 := by rw [hu.length]; exact hpz
      have P2 : Pg (pg.take (((x.fdiv 3 + x.fdiv 50331648).fmod (pg.length : Int))).toNat ++ pt ++ pg.drop ((((x.fdiv 3 + x.fdiv 50331648).fmod (pg.length : Int))).toNat + Int.toNat 0)) := pg_next P _ _ (by omega) hpr hpz hgl
      k_dflt (refine' conDUse (sixteen_con _ _ _ _ _ pt hpr (by omega)) ?k1 ?k2 ?k3 ?k4 ?k5 ?kK ?kp ?kd ?ku ?_; (case k2 => exact F4); (case k1 => exact below_caller _); (case k3 => assumption); (case k4 => exact N5); (case k5 => exact TB); (case kK => exact rfl); (case kp => exact ⟨_, _, _, rfl, .head _, hu⟩); (case kd => decide); (case ku => decide))
      rintro r11 led11 h11 tk11 F11 N11 hs11 hp11
      dsimp only
      clear F4 N5
      k_steps
      unfold Stop
      have hlp11 := hs11 _ (.head _)
      have hld11 : ∀ p ∈ led, p ∈ led11 := fun p hp => hs11 p (.tail _ (.tail _ (.tail _ hp)))
      have hI11 : (I, itO D (i + 1)) ∈ led11 := hs11 _ (.tail _ (.tail _ (.head _)))
      k_dflt (refine' conDUse (edited_con _ _ _ _ _ _ _ _ (laid (pieces16 pg)) (pieces16 pt) (6 * ((x.fdiv 3 + x.fdiv 50331648).fmod (pg.length : Int))) (6 * 0) (pg_runs16 P).1 (by omega) (by decide) (pg_runs16 P).2 (pg_put16 hpz) (pg_ewf16 P _ 0 hq0 (by decide) pt hpz)) ?k1 ?k2 ?k3 ?k4 ?k5 ?kK ?kp ?kd ?ku ?_; (case k2 => exact F11); (case k1 => exact below_caller _); (case k3 => assumption); (case k4 => exact N11); (case k5 => exact TB); (case kK => exact rfl); (case kp => exact ⟨hr2.mono hld11, hp11⟩); (case kd => decide); (case ku => decide))
      rintro r12 led12 h12 tk12 F12 N12 hs12 hp12
      dsimp only
      clear F11 N11
      rw [pg_edit16 P _ 0 hq0 (by decide) pt] at hp12
      k_steps
      unfold Stop
      rename Fr _ _ _ _ => F13
      rename News _ _ _ _ => N13
      k_dflt (refine' conDUse (sixty_con _ _ _ _ _ pt hpr (by omega)) ?k1 ?k2 ?k3 ?k4 ?k5 ?kK ?kp ?kd ?ku ?_; (case k2 => exact F13); (case k1 => exact below_caller _); (case k3 => assumption); (case k4 => exact N13); (case k5 => exact TB); (case kK => exact rfl); (case kp => exact ⟨_, _, _, rfl, hs12 _ hlp11, hu⟩); (case kd => decide); (case ku => decide))
      rintro r14 led14 h14 tk14 F14 N14 hs14 hp14
      dsimp only
      clear F13 N13
      k_steps
      unfold Stop
      k_dflt (refine' conDUse (edited_con _ _ _ _ _ _ _ _ (laid (pieces60 pg)) (pieces60 pt) (4 * ((x.fdiv 3 + x.fdiv 50331648).fmod (pg.length : Int))) (4 * 0) (pg_runs60 P).1 (by omega) (by decide) (pg_runs60 P).2 (pg_put60 hpz) (pg_ewf60 P _ 0 hq0 (by decide) pt hpz)) ?k1 ?k2 ?k3 ?k4 ?k5 ?kK ?kp ?kd ?ku ?_; (case k2 => exact F14); (case k1 => exact below_caller _); (case k3 => assumption); (case k4 => exact N14); (case k5 => exact TB); (case kK => exact rfl); (case kp => exact ⟨hr3.mono fun p hp => hs14 p (hs12 p (hld11 p hp)), hp14⟩); (case kd => decide); (case ku => decide))
      rintro r15 led15 h15 tk15 F15 N15 hs15 hp15
      dsimp only
      clear F14
      rw [pg_edit60 P _ 0 hq0 (by decide) pt] at hp15
      have up12 : ∀ p ∈ led12, p ∈ led15 := fun p hp => hs15 p (hs14 p hp)
      have N16 := newsSub N15 (news' := (lp, W.listOf us.toArray nu) :: (l1, W.listOf vs1.toArray n1) :: led15) (by
        intro q hq
        rcases List.mem_cons.mp hq with rfl | hq
        · exact up12 _ (hs12 _ hlp11)
        rcases List.mem_cons.mp hq with rfl | hq
        · exact up12 _ (hs12 _ (hld11 _ hl1))
        · exact hq)
      clear N15 N14
      have hk1 := pick_len vs1.toArray.toList none (some ((x.fdiv 3 + x.fdiv 50331648).fmod (pg.length : Int)))
      have hk2 := pick_len vs1.toArray.toList (some (((x.fdiv 3 + x.fdiv 50331648).fmod (pg.length : Int)) + 0)) none
      have hk3 : vs1.toArray.toList.length ≤ 9 := hz1
      k_steps
      unfold Stop
      rename Fr _ _ _ _ => F17
      rename News _ _ _ _ => N17
      k_dflt (refine' addLed (vs := kms_pick vs1.toArray.toList none (some ((x.fdiv 3 + x.fdiv 50331648).fmod (pg.length : Int)))) (ws := us) ?qF ?qN ?qa ?qb ?qz ?_; (case qF => exact F17); (case qN => exact N17); (case qa => exact .head _); (case qb => exact .tail _ (.head _)); (case qz => omega))
      intro D18 h18 F18 N18 lt18
      dsimp only
      have N19 := newsSub N18 (news' := (D18, W.listOf (List.toArray (kms_pick vs1.toArray.toList none (some ((x.fdiv 3 + x.fdiv 50331648).fmod (pg.length : Int))) ++ us)) 0) :: (l1, W.listOf vs1.toArray n1) :: led15) (by
        intro q hq
        rcases List.mem_cons.mp hq with rfl | hq
        · exact .head _
        · exact .tail _ (.tail _ (.tail _ hq)))
      clear F17 N17 N18 lt18
      k_steps
      unfold Stop
      rename Fr _ _ _ _ => F20
      rename News _ _ _ _ => N20
      k_dflt (refine' addLed (vs := kms_pick vs1.toArray.toList none (some ((x.fdiv 3 + x.fdiv 50331648).fmod (pg.length : Int))) ++ us) (ws := kms_pick vs1.toArray.toList (some (((x.fdiv 3 + x.fdiv 50331648).fmod (pg.length : Int)) + 0)) none) ?qF ?qN ?qa ?qb ?qz ?_; (case qF => exact F20); (case qN => exact N20); (case qa => exact .tail _ (.head _)); (case qb => exact .head _); (case qz => (rw [List.length_append]; omega)))
      intro D21 h21 F21 N21 lt21
      dsimp only
      have hi21 := ((pickHi hi1 hq0 hq1).append hu).append (pickLo hi1 hq0 (by decide) hgl)
      have N22 := newsSub N21 (news' := (D21, W.listOf (List.toArray (kms_pick vs1.toArray.toList none (some ((x.fdiv 3 + x.fdiv 50331648).fmod (pg.length : Int))) ++ us ++ kms_pick vs1.toArray.toList (some (((x.fdiv 3 + x.fdiv 50331648).fmod (pg.length : Int)) + 0)) none)) 0) :: led15) (by
        intro q hq
        rcases List.mem_cons.mp hq with rfl | hq
        · exact .head _
        · exact .tail _ (.tail _ (.tail _ (.tail _ hq))))
      clear F20 N20 N21 lt21
      k_steps
      unfold Stop
      rename Fr _ _ _ _ => F23
      rename News _ _ _ _ => N23
      k_dflt (refine' conSUse (holds_con _ _ _ _ _ _ _ _ _ _ P2.rng (pg_pos P2) (pg_lens P2) (pg_h16 P2) (pg_hlb P2) (pg_h60 P2)) ?k1 ?k2 ?k3 ?k4 ?k5 ?XB TB ktsDicts_nil ?kK ?kp ?kd ?ku ?_; (case k2 => exact F23); (case k1 => exact below_caller _); (case k3 => assumption); (case XB => assumption); (case k4 => exact N23); (case k5 => exact TB); (case kK => exact rfl); (case kp => exact ⟨⟨_, _, _, rfl, .head _, hi21⟩, hp12.mono (fun p hp => .tail _ (up12 p hp)), hp15.mono fun p hp => .tail _ hp⟩); (case kd => decide); (case ku => decide))
      rintro r24 led24 h24 tk24 g24 T24 F24 N24 B24 X24 TT24 D24 hs24 rfl
      have F25 := turnFr T24 F24
      have N25 := turnNews T24 N24
      clear T24 F24 N24 B24 X24 TT24 D24 F23 N23
      dsimp only
      k_steps
      rename Fr _ _ _ _ => F26
      rename News _ _ _ _ => N26
      have up15 : ∀ p ∈ led15, p ∈ led24 := fun p hp => hs24 p (.tail _ hp)
      have hI24 : (I, itO D (i + 1)) ∈ led24 := up15 _ (up12 _ (hs12 _ hI11))
      have hD24 : (D, W.listOf ws.toArray 0) ∈ led24 := up15 _ (up12 _ (hs12 _ (hld11 _ hlm)))
      refine forEnd_next F26 (newsSub N26 (news' := (I, itO D (i + 1)) :: led24.filter (fun p => decide (p.1 ≠ I))) ?_) ?_ (offMem N26 hI24 hD24 list_ne_it)
        ⟨_, _, _, _, P2, pg_grow hpl hpz, offInts N26 hI24 ⟨_, _, _, rfl, hs24 _ (.head _), hi21⟩, offRuns N26 hI24 (hp12.mono fun p hp => up15 p (up12 p hp)), offRuns N26 hI24 (hp15.mono up15), rfl, rfl, rfl⟩
      · intro q hq
        rcases List.mem_cons.mp hq with rfl | hq
        · exact hI24
        · exact (List.mem_filter.mp hq).1
      · exact fun p hp => of_decide_eq_true (List.mem_filter.mp hp).2
    · unfold Stop
      rename Fr _ _ _ _ => F4
      rename News _ _ _ _ => N4
      obtain ⟨lp, elp⟩ := nameHead N4
      subst elp
      obtain ⟨pt, us, nu, N5, hu, hpz, hpr⟩ := putOne N4
      have hgl : (((x.fdiv 3 + x.fdiv 50331648).fmod (pg.length : Int))).toNat + Int.toNat 0 < pg.length := by (have : Int.toNat 0 = 0 := rfl); omega
      clear N4
      have huz : us.length ≤ 1 := by rw [hu.length]; exact hpz
      have P2 : Pg (pg.take (((x.fdiv 3 + x.fdiv 50331648).fmod (pg.length : Int))).toNat ++ pt ++ pg.drop ((((x.fdiv 3 + x.fdiv 50331648).fmod (pg.length : Int))).toNat + Int.toNat 0)) := pg_next P _ _ (by omega) hpr hpz hgl
      k_dflt (refine' conDUse (sixteen_con _ _ _ _ _ pt hpr (by omega)) ?k1 ?k2 ?k3 ?k4 ?k5 ?kK ?kp ?kd ?ku ?_; (case k2 => exact F4); (case k1 => exact below_caller _); (case k3 => assumption); (case k4 => exact N5); (case k5 => exact TB); (case kK => exact rfl); (case kp => exact ⟨_, _, _, rfl, .head _, hu⟩); (case kd => decide); (case ku => decide))
      rintro r11 led11 h11 tk11 F11 N11 hs11 hp11
      dsimp only
      clear F4 N5
      k_steps
      unfold Stop
      have hlp11 := hs11 _ (.head _)
      have hld11 : ∀ p ∈ led, p ∈ led11 := fun p hp => hs11 p (.tail _ (.tail _ (.tail _ hp)))
      have hI11 : (I, itO D (i + 1)) ∈ led11 := hs11 _ (.tail _ (.tail _ (.head _)))
      k_dflt (refine' conDUse (edited_con _ _ _ _ _ _ _ _ (laid (pieces16 pg)) (pieces16 pt) (6 * ((x.fdiv 3 + x.fdiv 50331648).fmod (pg.length : Int))) (6 * 0) (pg_runs16 P).1 (by omega) (by decide) (pg_runs16 P).2 (pg_put16 hpz) (pg_ewf16 P _ 0 hq0 (by decide) pt hpz)) ?k1 ?k2 ?k3 ?k4 ?k5 ?kK ?kp ?kd ?ku ?_; (case k2 => exact F11); (case k1 => exact below_caller _); (case k3 => assumption); (case k4 => exact N11); (case k5 => exact TB); (case kK => exact rfl); (case kp => exact ⟨hr2.mono hld11, hp11⟩); (case kd => decide); (case ku => decide))
      rintro r12 led12 h12 tk12 F12 N12 hs12 hp12
      dsimp only
      clear F11 N11
      rw [pg_edit16 P _ 0 hq0 (by decide) pt] at hp12
      k_steps
      unfold Stop
      rename Fr _ _ _ _ => F13
      rename News _ _ _ _ => N13
      k_dflt (refine' conDUse (sixty_con _ _ _ _ _ pt hpr (by omega)) ?k1 ?k2 ?k3 ?k4 ?k5 ?kK ?kp ?kd ?ku ?_; (case k2 => exact F13); (case k1 => exact below_caller _); (case k3 => assumption); (case k4 => exact N13); (case k5 => exact TB); (case kK => exact rfl); (case kp => exact ⟨_, _, _, rfl, hs12 _ hlp11, hu⟩); (case kd => decide); (case ku => decide))
      rintro r14 led14 h14 tk14 F14 N14 hs14 hp14
      dsimp only
      clear F13 N13
      k_steps
      unfold Stop
      k_dflt (refine' conDUse (edited_con _ _ _ _ _ _ _ _ (laid (pieces60 pg)) (pieces60 pt) (4 * ((x.fdiv 3 + x.fdiv 50331648).fmod (pg.length : Int))) (4 * 0) (pg_runs60 P).1 (by omega) (by decide) (pg_runs60 P).2 (pg_put60 hpz) (pg_ewf60 P _ 0 hq0 (by decide) pt hpz)) ?k1 ?k2 ?k3 ?k4 ?k5 ?kK ?kp ?kd ?ku ?_; (case k2 => exact F14); (case k1 => exact below_caller _); (case k3 => assumption); (case k4 => exact N14); (case k5 => exact TB); (case kK => exact rfl); (case kp => exact ⟨hr3.mono fun p hp => hs14 p (hs12 p (hld11 p hp)), hp14⟩); (case kd => decide); (case ku => decide))
      rintro r15 led15 h15 tk15 F15 N15 hs15 hp15
      dsimp only
      clear F14
      rw [pg_edit60 P _ 0 hq0 (by decide) pt] at hp15
      have up12 : ∀ p ∈ led12, p ∈ led15 := fun p hp => hs15 p (hs14 p hp)
      have N16 := newsSub N15 (news' := (lp, W.listOf us.toArray nu) :: (l1, W.listOf vs1.toArray n1) :: led15) (by
        intro q hq
        rcases List.mem_cons.mp hq with rfl | hq
        · exact up12 _ (hs12 _ hlp11)
        rcases List.mem_cons.mp hq with rfl | hq
        · exact up12 _ (hs12 _ (hld11 _ hl1))
        · exact hq)
      clear N15 N14
      have hk1 := pick_len vs1.toArray.toList none (some ((x.fdiv 3 + x.fdiv 50331648).fmod (pg.length : Int)))
      have hk2 := pick_len vs1.toArray.toList (some (((x.fdiv 3 + x.fdiv 50331648).fmod (pg.length : Int)) + 0)) none
      have hk3 : vs1.toArray.toList.length ≤ 9 := hz1
      k_steps
      unfold Stop
      rename Fr _ _ _ _ => F17
      rename News _ _ _ _ => N17
      k_dflt (refine' addLed (vs := kms_pick vs1.toArray.toList none (some ((x.fdiv 3 + x.fdiv 50331648).fmod (pg.length : Int)))) (ws := us) ?qF ?qN ?qa ?qb ?qz ?_; (case qF => exact F17); (case qN => exact N17); (case qa => exact .head _); (case qb => exact .tail _ (.head _)); (case qz => omega))
      intro D18 h18 F18 N18 lt18
      dsimp only
      have N19 := newsSub N18 (news' := (D18, W.listOf (List.toArray (kms_pick vs1.toArray.toList none (some ((x.fdiv 3 + x.fdiv 50331648).fmod (pg.length : Int))) ++ us)) 0) :: (l1, W.listOf vs1.toArray n1) :: led15) (by
        intro q hq
        rcases List.mem_cons.mp hq with rfl | hq
        · exact .head _
        · exact .tail _ (.tail _ (.tail _ hq)))
      clear F17 N17 N18 lt18
      k_steps
      unfold Stop
      rename Fr _ _ _ _ => F20
      rename News _ _ _ _ => N20
      k_dflt (refine' addLed (vs := kms_pick vs1.toArray.toList none (some ((x.fdiv 3 + x.fdiv 50331648).fmod (pg.length : Int))) ++ us) (ws := kms_pick vs1.toArray.toList (some (((x.fdiv 3 + x.fdiv 50331648).fmod (pg.length : Int)) + 0)) none) ?qF ?qN ?qa ?qb ?qz ?_; (case qF => exact F20); (case qN => exact N20); (case qa => exact .tail _ (.head _)); (case qb => exact .head _); (case qz => (rw [List.length_append]; omega)))
      intro D21 h21 F21 N21 lt21
      dsimp only
      have hi21 := ((pickHi hi1 hq0 hq1).append hu).append (pickLo hi1 hq0 (by decide) hgl)
      have N22 := newsSub N21 (news' := (D21, W.listOf (List.toArray (kms_pick vs1.toArray.toList none (some ((x.fdiv 3 + x.fdiv 50331648).fmod (pg.length : Int))) ++ us ++ kms_pick vs1.toArray.toList (some (((x.fdiv 3 + x.fdiv 50331648).fmod (pg.length : Int)) + 0)) none)) 0) :: led15) (by
        intro q hq
        rcases List.mem_cons.mp hq with rfl | hq
        · exact .head _
        · exact .tail _ (.tail _ (.tail _ (.tail _ hq))))
      clear F20 N20 N21 lt21
      k_steps
      unfold Stop
      rename Fr _ _ _ _ => F23
      rename News _ _ _ _ => N23
      k_dflt (refine' conSUse (holds_con _ _ _ _ _ _ _ _ _ _ P2.rng (pg_pos P2) (pg_lens P2) (pg_h16 P2) (pg_hlb P2) (pg_h60 P2)) ?k1 ?k2 ?k3 ?k4 ?k5 ?XB TB ktsDicts_nil ?kK ?kp ?kd ?ku ?_; (case k2 => exact F23); (case k1 => exact below_caller _); (case k3 => assumption); (case XB => assumption); (case k4 => exact N23); (case k5 => exact TB); (case kK => exact rfl); (case kp => exact ⟨⟨_, _, _, rfl, .head _, hi21⟩, hp12.mono (fun p hp => .tail _ (up12 p hp)), hp15.mono fun p hp => .tail _ hp⟩); (case kd => decide); (case ku => decide))
      rintro r24 led24 h24 tk24 g24 T24 F24 N24 B24 X24 TT24 D24 hs24 rfl
      have F25 := turnFr T24 F24
      have N25 := turnNews T24 N24
      clear T24 F24 N24 B24 X24 TT24 D24 F23 N23
      dsimp only
      k_steps
      rename Fr _ _ _ _ => F26
      rename News _ _ _ _ => N26
      have up15 : ∀ p ∈ led15, p ∈ led24 := fun p hp => hs24 p (.tail _ hp)
      have hI24 : (I, itO D (i + 1)) ∈ led24 := up15 _ (up12 _ (hs12 _ hI11))
      have hD24 : (D, W.listOf ws.toArray 0) ∈ led24 := up15 _ (up12 _ (hs12 _ (hld11 _ hlm)))
      refine forEnd_next F26 (newsSub N26 (news' := (I, itO D (i + 1)) :: led24.filter (fun p => decide (p.1 ≠ I))) ?_) ?_ (offMem N26 hI24 hD24 list_ne_it)
        ⟨_, _, _, _, P2, pg_grow hpl hpz, offInts N26 hI24 ⟨_, _, _, rfl, hs24 _ (.head _), hi21⟩, offRuns N26 hI24 (hp12.mono fun p hp => up15 p (up12 p hp)), offRuns N26 hI24 (hp15.mono up15), rfl, rfl, rfl⟩
      · intro q hq
        rcases List.mem_cons.mp hq with rfl | hq
        · exact hI24
        · exact (List.mem_filter.mp hq).1
      · exact fun p hp => of_decide_eq_true (List.mem_filter.mp hp).2
    · unfold Stop
      rename Fr _ _ _ _ => F4
      rename News _ _ _ _ => N4
      obtain ⟨lp, elp⟩ := nameHead N4
      subst elp
      obtain ⟨pt, us, nu, N5, hu, hpz, hpr⟩ := putOne N4
      have hgl : (((x.fdiv 3 + x.fdiv 50331648).fmod (pg.length : Int))).toNat + Int.toNat 1 < pg.length := by (have : Int.toNat 1 = 1 := rfl); omega
      clear N4
      have huz : us.length ≤ 1 := by rw [hu.length]; exact hpz
      have P2 : Pg (pg.take (((x.fdiv 3 + x.fdiv 50331648).fmod (pg.length : Int))).toNat ++ pt ++ pg.drop ((((x.fdiv 3 + x.fdiv 50331648).fmod (pg.length : Int))).toNat + Int.toNat 1)) := pg_next P _ _ (by omega) hpr hpz hgl
      k_dflt (refine' conDUse (sixteen_con _ _ _ _ _ pt hpr (by omega)) ?k1 ?k2 ?k3 ?k4 ?k5 ?kK ?kp ?kd ?ku ?_; (case k2 => exact F4); (case k1 => exact below_caller _); (case k3 => assumption); (case k4 => exact N5); (case k5 => exact TB); (case kK => exact rfl); (case kp => exact ⟨_, _, _, rfl, .head _, hu⟩); (case kd => decide); (case ku => decide))
      rintro r11 led11 h11 tk11 F11 N11 hs11 hp11
      dsimp only
      clear F4 N5
      k_steps
      unfold Stop
      have hlp11 := hs11 _ (.head _)
      have hld11 : ∀ p ∈ led, p ∈ led11 := fun p hp => hs11 p (.tail _ (.tail _ (.tail _ hp)))
      have hI11 : (I, itO D (i + 1)) ∈ led11 := hs11 _ (.tail _ (.tail _ (.head _)))
      k_dflt (refine' conDUse (edited_con _ _ _ _ _ _ _ _ (laid (pieces16 pg)) (pieces16 pt) (6 * ((x.fdiv 3 + x.fdiv 50331648).fmod (pg.length : Int))) (6 * 1) (pg_runs16 P).1 (by omega) (by decide) (pg_runs16 P).2 (pg_put16 hpz) (pg_ewf16 P _ 1 hq0 (by decide) pt hpz)) ?k1 ?k2 ?k3 ?k4 ?k5 ?kK ?kp ?kd ?ku ?_; (case k2 => exact F11); (case k1 => exact below_caller _); (case k3 => assumption); (case k4 => exact N11); (case k5 => exact TB); (case kK => exact rfl); (case kp => exact ⟨hr2.mono hld11, hp11⟩); (case kd => decide); (case ku => decide))
      rintro r12 led12 h12 tk12 F12 N12 hs12 hp12
      dsimp only
      clear F11 N11
      rw [pg_edit16 P _ 1 hq0 (by decide) pt] at hp12
      k_steps
      unfold Stop
      rename Fr _ _ _ _ => F13
      rename News _ _ _ _ => N13
      k_dflt (refine' conDUse (sixty_con _ _ _ _ _ pt hpr (by omega)) ?k1 ?k2 ?k3 ?k4 ?k5 ?kK ?kp ?kd ?ku ?_; (case k2 => exact F13); (case k1 => exact below_caller _); (case k3 => assumption); (case k4 => exact N13); (case k5 => exact TB); (case kK => exact rfl); (case kp => exact ⟨_, _, _, rfl, hs12 _ hlp11, hu⟩); (case kd => decide); (case ku => decide))
      rintro r14 led14 h14 tk14 F14 N14 hs14 hp14
      dsimp only
      clear F13 N13
      k_steps
      unfold Stop
      k_dflt (refine' conDUse (edited_con _ _ _ _ _ _ _ _ (laid (pieces60 pg)) (pieces60 pt) (4 * ((x.fdiv 3 + x.fdiv 50331648).fmod (pg.length : Int))) (4 * 1) (pg_runs60 P).1 (by omega) (by decide) (pg_runs60 P).2 (pg_put60 hpz) (pg_ewf60 P _ 1 hq0 (by decide) pt hpz)) ?k1 ?k2 ?k3 ?k4 ?k5 ?kK ?kp ?kd ?ku ?_; (case k2 => exact F14); (case k1 => exact below_caller _); (case k3 => assumption); (case k4 => exact N14); (case k5 => exact TB); (case kK => exact rfl); (case kp => exact ⟨hr3.mono fun p hp => hs14 p (hs12 p (hld11 p hp)), hp14⟩); (case kd => decide); (case ku => decide))
      rintro r15 led15 h15 tk15 F15 N15 hs15 hp15
      dsimp only
      clear F14
      rw [pg_edit60 P _ 1 hq0 (by decide) pt] at hp15
      have up12 : ∀ p ∈ led12, p ∈ led15 := fun p hp => hs15 p (hs14 p hp)
      have N16 := newsSub N15 (news' := (lp, W.listOf us.toArray nu) :: (l1, W.listOf vs1.toArray n1) :: led15) (by
        intro q hq
        rcases List.mem_cons.mp hq with rfl | hq
        · exact up12 _ (hs12 _ hlp11)
        rcases List.mem_cons.mp hq with rfl | hq
        · exact up12 _ (hs12 _ (hld11 _ hl1))
        · exact hq)
      clear N15 N14
      have hk1 := pick_len vs1.toArray.toList none (some ((x.fdiv 3 + x.fdiv 50331648).fmod (pg.length : Int)))
      have hk2 := pick_len vs1.toArray.toList (some (((x.fdiv 3 + x.fdiv 50331648).fmod (pg.length : Int)) + 1)) none
      have hk3 : vs1.toArray.toList.length ≤ 9 := hz1
      k_steps
      unfold Stop
      rename Fr _ _ _ _ => F17
      rename News _ _ _ _ => N17
      k_dflt (refine' addLed (vs := kms_pick vs1.toArray.toList none (some ((x.fdiv 3 + x.fdiv 50331648).fmod (pg.length : Int)))) (ws := us) ?qF ?qN ?qa ?qb ?qz ?_; (case qF => exact F17); (case qN => exact N17); (case qa => exact .head _); (case qb => exact .tail _ (.head _)); (case qz => omega))
      intro D18 h18 F18 N18 lt18
      dsimp only
      have N19 := newsSub N18 (news' := (D18, W.listOf (List.toArray (kms_pick vs1.toArray.toList none (some ((x.fdiv 3 + x.fdiv 50331648).fmod (pg.length : Int))) ++ us)) 0) :: (l1, W.listOf vs1.toArray n1) :: led15) (by
        intro q hq
        rcases List.mem_cons.mp hq with rfl | hq
        · exact .head _
        · exact .tail _ (.tail _ (.tail _ hq)))
      clear F17 N17 N18 lt18
      k_steps
      unfold Stop
      rename Fr _ _ _ _ => F20
      rename News _ _ _ _ => N20
      k_dflt (refine' addLed (vs := kms_pick vs1.toArray.toList none (some ((x.fdiv 3 + x.fdiv 50331648).fmod (pg.length : Int))) ++ us) (ws := kms_pick vs1.toArray.toList (some (((x.fdiv 3 + x.fdiv 50331648).fmod (pg.length : Int)) + 1)) none) ?qF ?qN ?qa ?qb ?qz ?_; (case qF => exact F20); (case qN => exact N20); (case qa => exact .tail _ (.head _)); (case qb => exact .head _); (case qz => (rw [List.length_append]; omega)))
      intro D21 h21 F21 N21 lt21
      dsimp only
      have hi21 := ((pickHi hi1 hq0 hq1).append hu).append (pickLo hi1 hq0 (by decide) hgl)
      have N22 := newsSub N21 (news' := (D21, W.listOf (List.toArray (kms_pick vs1.toArray.toList none (some ((x.fdiv 3 + x.fdiv 50331648).fmod (pg.length : Int))) ++ us ++ kms_pick vs1.toArray.toList (some (((x.fdiv 3 + x.fdiv 50331648).fmod (pg.length : Int)) + 1)) none)) 0) :: led15) (by
        intro q hq
        rcases List.mem_cons.mp hq with rfl | hq
        · exact .head _
        · exact .tail _ (.tail _ (.tail _ (.tail _ hq))))
      clear F20 N20 N21 lt21
      k_steps
      unfold Stop
      rename Fr _ _ _ _ => F23
      rename News _ _ _ _ => N23
      k_dflt (refine' conSUse (holds_con _ _ _ _ _ _ _ _ _ _ P2.rng (pg_pos P2) (pg_lens P2) (pg_h16 P2) (pg_hlb P2) (pg_h60 P2)) ?k1 ?k2 ?k3 ?k4 ?k5 ?XB TB ktsDicts_nil ?kK ?kp ?kd ?ku ?_; (case k2 => exact F23); (case k1 => exact below_caller _); (case k3 => assumption); (case XB => assumption); (case k4 => exact N23); (case k5 => exact TB); (case kK => exact rfl); (case kp => exact ⟨⟨_, _, _, rfl, .head _, hi21⟩, hp12.mono (fun p hp => .tail _ (up12 p hp)), hp15.mono fun p hp => .tail _ hp⟩); (case kd => decide); (case ku => decide))
      rintro r24 led24 h24 tk24 g24 T24 F24 N24 B24 X24 TT24 D24 hs24 rfl
      have F25 := turnFr T24 F24
      have N25 := turnNews T24 N24
      clear T24 F24 N24 B24 X24 TT24 D24 F23 N23
      dsimp only
      k_steps
      rename Fr _ _ _ _ => F26
      rename News _ _ _ _ => N26
      have up15 : ∀ p ∈ led15, p ∈ led24 := fun p hp => hs24 p (.tail _ hp)
      have hI24 : (I, itO D (i + 1)) ∈ led24 := up15 _ (up12 _ (hs12 _ hI11))
      have hD24 : (D, W.listOf ws.toArray 0) ∈ led24 := up15 _ (up12 _ (hs12 _ (hld11 _ hlm)))
      refine forEnd_next F26 (newsSub N26 (news' := (I, itO D (i + 1)) :: led24.filter (fun p => decide (p.1 ≠ I))) ?_) ?_ (offMem N26 hI24 hD24 list_ne_it)
        ⟨_, _, _, _, P2, pg_grow hpl hpz, offInts N26 hI24 ⟨_, _, _, rfl, hs24 _ (.head _), hi21⟩, offRuns N26 hI24 (hp12.mono fun p hp => up15 p (up12 p hp)), offRuns N26 hI24 (hp15.mono up15), rfl, rfl, rfl⟩
      · intro q hq
        rcases List.mem_cons.mp hq with rfl | hq
        · exact hI24
        · exact (List.mem_filter.mp hq).1
      · exact fun p hp => of_decide_eq_true (List.mem_filter.mp hp).2
  · rintro m₁ led h tk ⟨pg, v1, v2, v3, P, hpl, hi1, hr2, hr3, e1, e2, e3⟩ F30 N30
    clear F10 N10
    dsimp only
    k_steps)
end Mine
end
theorem PySem.Challenge.cw_ny0010_01_holds : PySem.Challenge.rw_ny0010_01.Holds :=
  Mine.lw
