import PyProof.Rows.All
import Wide.All
import OpenK.AllK
import Wide.FinOn
import Lean
import PySem.Challenge.RW_dp5007_01
open PySem PySem.W PyProof.Rows
set_option Elab.async false
set_option rowWalk.seconds 0
set_option maxRecDepth 100000
set_option maxHeartbeats 40000000
namespace Mine
open_top hd for PySem.Challenge.rw_dp5007_01
end Mine
namespace Mine
/-- a mark that names the law and the written part, so that «k_fill» finds them -/
def Both (_ : OpenLaw) (_ : Params → Frag) : Prop := True

/-- what a call of a def of the text's own answers: r with R r; no object of the caller's is touched -/
def Ans (prog : Program) (w : World) (K : Frag) (f : Addr) (d u : Nat) (vs : List Value) (R : Value → Prop) : Prop :=
  ∀ (p : Program) (loose : List Str) (mean : ExcName → Option Value) (mg mb : Str → Option Value)
    (dp un : Nat) (gd : Option (List Code)) (cn : Str) (cs : Scope) (a : Addr) (ccd : Value) (cl : List (Str × Addr)) (outer : List Env) (A₀ : Around) (base h₀ : Heap) (L : Addr) (m : Str → Option Value) (news : List (Addr × Obj)) (s : Shared) (Q E : Value → Shared → Prop),
    Below A₀ base outer h₀ → Fr h₀ L s.heap m → K.In h₀ → News h₀ L s.heap news → Top p loose mean mg mb h₀ → cs.kind = .function → dp + d < recursionLimit → un + u < cLine →
    (∀ r h' tk', R r → Fr h₀ L h' m → News h₀ L h' news → Q r { s with heap := h', toks := tk' }) →
    wpAny (model prog w) (ktrTop dp un gd cn cs L a ccd cl outer) (call (.ref f) vs) Q E s
section
variable {prog : Program} {w : World} {K : Frag} {f : Addr} {d u : Nat} {vs : List Value} {R : Value → Prop}
theorem Ans.use (C : Ans prog w K f d u vs R) {p : Program} {loose : List Str} {mean : ExcName → Option Value} {mg mb : Str → Option Value}
    {dp un : Nat} {gd : Option (List Code)} {cn : Str} {cs : Scope} {a : Addr} {ccd : Value} {cl : List (Str × Addr)} {outer : List Env} {A₀ : Around} {base h₀ : Heap} {L : Addr} {m : Str → Option Value} {news : List (Addr × Obj)} {s : Shared} {Q E : Value → Shared → Prop}
    (B : Below A₀ base outer h₀) (F : Fr h₀ L s.heap m) (X : K.In h₀) (N : News h₀ L s.heap news) (T : Top p loose mean mg mb h₀) (hk : cs.kind = .function) (hd : dp + d < recursionLimit) (hu : un + u < cLine)
    (hret : ∀ r h' tk', R r → Fr h₀ L h' m → News h₀ L h' news → Q r { s with heap := h', toks := tk' }) :
    wpAny (model prog w) (ktrTop dp un gd cn cs L a ccd cl outer) (call (.ref f) vs) Q E s :=
  C p loose mean mg mb dp un gd cn cs a ccd cl outer A₀ base h₀ L m news s Q E B F X N T hk hd hu hret
end
/-- the walk stands still here -/
def Stop (P : Prop) : Prop := P
theorem Stop.of {P : Prop} (h : Stop P) : P := h
theorem Stop.on {P : Prop} (h : P) : Stop P := h
/-- a call of a def of the text's own raises an object of the class cls -/
def Fails (prog : Program) (w : World) (K : Frag) (f : Addr) (d u : Nat) (vs : List Value) (cls : Value) : Prop :=
  ∀ (p : Program) (loose : List Str) (mean : ExcName → Option Value) (mg mb : Str → Option Value)
    (dp un : Nat) (gd : Option (List Code)) (cn : Str) (cs : Scope) (a : Addr) (ccd : Value) (cl : List (Str × Addr)) (outer : List Env) (A₀ : Around) (base h₀ : Heap) (L : Addr) (m : Str → Option Value) (news : List (Addr × Obj)) (s : Shared) (Q E : Value → Shared → Prop),
    Below A₀ base outer h₀ → Fr h₀ L s.heap m → K.In h₀ → News h₀ L s.heap news → Top p loose mean mg mb h₀ → cs.kind = .function → dp + d < recursionLimit → un + u < cLine →
    (∀ e h' t' tk' msg g', Fr h₀ L g' m → g'.UpToSlots h' → RaisedS base g' (envX cn cs L a ccd cl :: outer) e cls t' msg news h' → E (.ref e) { s with heap := h', toks := tk' }) →
    wpAny (model prog w) (ktrTop dp un gd cn cs L a ccd cl outer) (call (.ref f) vs) Q E s
section
variable {prog : Program} {w : World} {K : Frag} {f : Addr} {d u : Nat} {vs : List Value} {cls : Value}
theorem Fails.use (C : Fails prog w K f d u vs cls) {p : Program} {loose : List Str} {mean : ExcName → Option Value} {mg mb : Str → Option Value}
    {dp un : Nat} {gd : Option (List Code)} {cn : Str} {cs : Scope} {a : Addr} {ccd : Value} {cl : List (Str × Addr)} {outer : List Env} {A₀ : Around} {base h₀ : Heap} {L : Addr} {m : Str → Option Value} {news : List (Addr × Obj)} {s : Shared} {Q E : Value → Shared → Prop}
    (B : Below A₀ base outer h₀) (F : Fr h₀ L s.heap m) (X : K.In h₀) (N : News h₀ L s.heap news) (T : Top p loose mean mg mb h₀) (hk : cs.kind = .function) (hd : dp + d < recursionLimit) (hu : un + u < cLine)
    (hret : ∀ e h' t' tk' msg g', Fr h₀ L g' m → g'.UpToSlots h' → RaisedS base g' (envX cn cs L a ccd cl :: outer) e cls t' msg news h' → E (.ref e) { s with heap := h', toks := tk' }) :
    wpAny (model prog w) (ktrTop dp un gd cn cs L a ccd cl outer) (call (.ref f) vs) Q E s :=
  C p loose mean mg mb dp un gd cn cs a ccd cl outer A₀ base h₀ L m news s Q E B F X N T hk hd hu hret
theorem raised_drop {base G : Heap} {l : List Env} {e t : Addr} {vs : List Value} {news news' : List (Addr × Obj)} {h : Heap} (R : RaisedS base G l e cls t vs news' h) (hs : ∀ p ∈ news, p ∈ news') : RaisedS base G l e cls t vs news h :=
  let ⟨⟨B, b1, b2, b3, b4⟩, r⟩ := R
  ⟨⟨B, b1, b2, fun q hq => b3 q (hs q hq), b4⟩, r⟩
end
/-- where it is at hand, the walk stands still at marked places -/
def StopMark (_ : Nat) : Prop := True
theorem stopMark (n : Nat) : StopMark n := True.intro
end Mine
namespace Mine
open PySem.Builtin
/-- the figure of a half of an octet -/
def hx (n : Nat) : Nat := if n < 10 then 48 + n else 87 + n
def hexStr (l : List UInt8) : Str := ⟨(l.flatMap fun c => [hx (c.toNat / 16), hx (c.toNat % 16)]).toArray⟩
theorem hexFold (l : List UInt8) : ∀ (k : Nat) (acc : Array Nat), (l.zipIdx k).foldl (fun (out : Array Nat) (p : UInt8 × Nat) => (out.push (Bytes.hexDigit (p.1.toNat / 16))).push (Bytes.hexDigit (p.1.toNat % 16))) acc = acc ++ (l.flatMap fun c => [hx (c.toNat / 16), hx (c.toNat % 16)]).toArray := by
  induction l with
  | nil => intro k acc; simp
  | cons c r ih =>
    intro k acc
    rw [List.zipIdx_cons, List.foldl_cons, ih, List.flatMap_cons]
    apply Array.toList_inj.mp
    simp [hx, Bytes.hexDigit]
theorem hex_tree (b : Array UInt8) (t : Tok) : «bytes.hex» ⟨[.bytes b t], []⟩ = retStr ⟨b.toList.zipIdx.foldl (fun (out : Array Nat) (p : UInt8 × Nat) => (out.push (Bytes.hexDigit (p.1.toNat / 16))).push (Bytes.hexDigit (p.1.toNat % 16))) #[]⟩ := by
  rfl
theorem gives_hex (b : Array UInt8) (t : Tok) : Gives («bytes.hex» ⟨[.bytes b t], []⟩) (.str (hexStr b.toList)) := by
  rw [hex_tree, hexFold, Array.empty_append]
  exact Gives.tree (.str _)
theorem hexStr_len (l : List UInt8) : (hexStr l).length = 2 * l.length := by
  show (hexStr l).cps.size = _
  simp only [hexStr, List.size_toArray]
  induction l with
  | nil => rfl
  | cons c r ih => rw [List.flatMap_cons, List.length_append, ih, List.length_cons, List.length_cons, List.length_cons, List.length_nil]; omega
section
variable {prog : Program} {w : World} {A : Around} {E : Value → Shared → Prop} {s : Shared} {b : Array UInt8} {t : Tok}
theorem hex_method {M : Model} {pl : Sem Bool} {Q : Value × List Value → Shared → Prop} (h : Q (.builtin "bytes.hex", [.bytes b t]) s) : wpAny M A (getMethod (.bytes b t) "hex" pl) Q E s := by
  with_reducible exact KBd.method_of (.bytes b t) (typeIs_bytes _ _ _) FB.slot_bytes_hex FB.type_bytes_hex KBd.noRef h
theorem hex_call {Q : Value → Shared → Prop} (hz : b.size ≤ 1000) (h : ∀ t' k, Q (.str (hexStr b.toList) t') { s with toks := k }) : wpAny (model prog w) A (call (.builtin "bytes.hex") [.bytes b t]) Q E s :=
  call_meets FB.slot_bytes_hex (typeIs_bytes _ _ _) FB.entry_bytes_hex (FB.args_bytes_hex_1 _) (gives_hex b t).meets
    ⟨by rw [hexStr_len, sizeLine_eq, Array.length_toList]; omega, h _ _⟩
end
open Builtin._codecs

theorem encodeRoad_ascii (id : String) (self : Value) (x : Str) (errors : Option Str) : encodeRoad id self x (Str.ofString "ascii") errors = (do mkBytes (← encodeNarrow id asciiCodec errors self x)) := by
  kernel_rfl
theorem encode_tree2 (x : Str) (t u : Tok) : «str.encode» ⟨[.str x t, .str (Str.ofString "ascii") u], []⟩ = (do ret (← encodeRoad "str.encode" (.str x t) x (Str.ofString "ascii") none)) := by kernel_rfl
theorem loop2 {σ : Type} {n : Nat} {a b : σ} {f : Nat → σ → Sem (ForInStep σ)} (hn : n ≠ 0) (h1 : ∀ i, f i a = pure (.yield b)) (h2 : ∀ i, f i b = pure (.done b)) : forIn [:n] a f = pure b := by
  rw [Std.Legacy.Range.forIn_eq_forIn_range']
  cases n with
  | zero => exact absurd rfl hn
  | succ n =>
    simp only [Std.Legacy.Range.size, Nat.sub_zero, Nat.add_sub_cancel, Nat.div_one, List.range'_succ, List.forIn_cons, h1, pure_bind]
    cases n with
    | zero => simp
    | succ n => simp only [List.range'_succ, List.forIn_cons, h2, pure_bind]
theorem loop0 {σ : Type} {n : Nat} {a : σ} {f : Nat → σ → Sem (ForInStep σ)} (hn : n = 0) : forIn [:n] a f = pure a := by
  subst hn
  rw [Std.Legacy.Range.forIn_eq_forIn_range']
  simp [Std.Legacy.Range.size]
theorem ascii_good {c : Nat} (h : c < 128) : asciiCodec.bad c = false := by
  show decide (c ≥ 128) = false
  exact decide_eq_false (by omega)
theorem fold_bytes (l : List Nat) : ∀ acc : Array UInt8, l.foldl (fun (acc : Array UInt8) y => acc ++ (asciiCodec.bytesOf y).toArray) acc = acc ++ (l.map (·.toUInt8)).toArray := by
  induction l with
  | nil => intro acc; simp
  | cons c r ih =>
    intro acc
    rw [List.foldl_cons, ih]
    apply Array.toList_inj.mp
    simp [asciiCodec]
theorem narrow_ascii (id : String) (self : Value) (x : Str) (hx : ∀ c ∈ x.cps.toList, c < 128) (hz : x.length ≤ 1000) :
   encodeNarrow id asciiCodec none self x = pure (x.cps.map (·.toUInt8)) := by
  obtain ⟨l⟩ := x
  obtain ⟨l⟩ := l
  simp only [] at hx
  have hall : ∀ c ∈ l, asciiCodec.bad c = false := fun c hc => ascii_good (hx c hc)
  unfold encodeNarrow
  simp only []
  cases l with
  | nil =>
    rw [loop0 (n := (Str.mk (Array.mk [])).length) rfl]
    simp
  | cons c r =>
    rw [loop2 (b := (c :: r |>.length, ((c :: r).map (·.toUInt8)).toArray, {})) (by show (c :: r).length ≠ 0; simp) ?h1 ?h2]
    · simp
    case h1 =>
      intro i
      have hf : Array.findIdx? asciiCodec.bad (Array.mk (c :: r)) = none := by
        rw [Array.findIdx?_eq_none_iff]
        intro y hy
        exact hall y (by simpa using hy)
      rw [if_neg (by rw [sizeLine_eq]; simp)]
      simp [hall c (by simp), hf]
      rw [fold_bytes]
      simp [asciiCodec]
    case h2 =>
      intro i
      rw [if_neg (by rw [sizeLine_eq]; simp; simp [Str.length] at hz; omega)]
      simp
theorem gives_encode {x : Str} {t u : Tok} (hx : ∀ c ∈ x.cps.toList, c < 128) (hz : x.length ≤ 1000) : Gives («str.encode» ⟨[.str x t, .str (Str.ofString "ascii") u], []⟩) (.bytes (x.cps.map (·.toUInt8))) := by
  rw [encode_tree2, encodeRoad_ascii, narrow_ascii _ _ _ hx hz, pure_bind]
  exact Gives.tree (.bytes _)
section
variable {prog : Program} {w : World} {A : Around} {E : Value → Shared → Prop} {s : Shared} {x : Str} {t u : Tok}
theorem encode_call {Q : Value → Shared → Prop} (hx : ∀ c ∈ x.cps.toList, c < 128) (hz : x.length ≤ 1000) (h : ∀ t' k, Q (.bytes (x.cps.map (·.toUInt8)) t') { s with toks := k }) :
    wpAny (model prog w) A (call (.builtin "str.encode") [.str x t, .str (Str.ofString "ascii") u]) Q E s :=
  call_meets F.slot_str_encode (typeIs_str _ _ _) F.entry_str_encode (F.args_str_encode_2 _ _) (gives_encode hx hz).meets
    ⟨by rw [Array.size_map, sizeLine_eq]; exact Nat.le_trans hz (by decide), h _ _⟩
theorem encode_method {M : Model} {pl : Sem Bool} {Q : Value × List Value → Shared → Prop} (h : Q (.builtin "str.encode", [.str x t]) s) : wpAny M A (getMethod (.str x t) "encode" pl) Q E s :=
  getMethod_builtin (typeIs_str _ _ _) F.plainAttrs_str F.slot_str_encode F.type_str_encode (fun _ e => nomatch e) h
end
/-- the letters' numbers of a row -/
def hexN (ks : List Int) : List Nat := ks.flatMap fun k => [hx (k.toNat / 16), hx (k.toNat % 16)]
def hexI (ks : List Int) : List Int := (hexN ks).map fun (n : Nat) => (n : Int)
def hexT (ks : List Int) : Str := ⟨(hexN ks).toArray⟩
theorem hexStr_ints {b : Array UInt8} {ks : List Int} (hk : KBw.bInts b = ks) : hexStr b.toList = hexT ks := by
  subst hk
  show Str.mk _ = Str.mk (List.toArray _)
  unfold hexN KBw.bInts
  rw [List.flatMap_map]
  rfl
theorem hexN_len (ks : List Int) : (hexN ks).length = 2 * ks.length := by
  unfold hexN
  induction ks with
  | nil => rfl
  | cons c r ih => rw [List.flatMap_cons, List.length_append, ih, List.length_cons, List.length_cons, List.length_cons, List.length_nil]; omega
theorem hexT_len (ks : List Int) : (hexT ks).length = 2 * ks.length := hexN_len ks
theorem hexI_len (ks : List Int) : (hexI ks).length = 2 * ks.length := by rw [hexI, List.length_map, hexN_len]
theorem hx_lt {n : Nat} (h : n < 16) : hx n < 128 := by unfold hx; split <;> omega
theorem hexN_lt {ks : List Int} (hr : KBa.In ks) : ∀ c ∈ hexN ks, c < 128 := by
  intro c hc
  obtain ⟨k, hk, hc⟩ := List.mem_flatMap.mp hc
  have := hr k hk
  simp only [List.mem_cons, List.not_mem_nil, or_false] at hc
  rcases hc with rfl | rfl <;> exact hx_lt (by omega)
theorem hexI_in {ks : List Int} (hr : KBa.In ks) : KBa.In (hexI ks) := by
  intro n hn
  obtain ⟨c, hc, rfl⟩ := List.mem_map.mp hn
  have := hexN_lt hr c hc
  omega
theorem enc_hexT (ks : List Int) : (hexT ks).cps.map (·.toUInt8) = byteArr (hexI ks) := by
  unfold hexT byteArr hexI
  simp
theorem ints_in' {b : Array UInt8} {ks : List Int} (hk : KBw.bInts b = ks) : KBa.In ks := by
  subst hk
  exact fun n hn => KBw.ints_in hn
section
variable {prog : Program} {w : World} {A : Around} {E : Value → Shared → Prop} {s : Shared} {b : Array UInt8} {t u : Tok} {ks : List Int}
theorem hex_K {Q : Value → Shared → Prop} (hk : KBw.bInts b = ks) (hz : ks.length ≤ 64) (h : ∀ t' k, Q (.str (hexT ks) t') { s with toks := k }) : wpAny (model prog w) A (call (.builtin "bytes.hex") [.bytes b t]) Q E s :=
  hex_call (by rw [← KBw.ints_length, hk]; omega) (by rw [hexStr_ints hk]; exact h)
theorem encode_K {Q : Value → Shared → Prop} (hr : KBa.In ks) (hz : ks.length ≤ 64) (h : ∀ t' k, Q (.bytes (byteArr (hexI ks)) t') { s with toks := k }) :
    wpAny (model prog w) A (call (.builtin "str.encode") [.str (hexT ks) t, .str (Str.ofString "ascii") u]) Q E s :=
  encode_call (by simpa [hexT] using hexN_lt hr) (by rw [hexT_len]; omega) (by rw [enc_hexT]; exact h)
end
end Mine
namespace Mine
open PyProof.Rows.LCg
section
variable {prog : Program} {w : World} {A : Around} {E : Value → Shared → Prop} {s : Shared} {h₀ : Heap} {L : Addr} {m : Str → Option Value} {env : Env}
theorem striter_st {xt : Str} {t : Tok} {I : Addr} : ∀ i (h h' : Heap) (o : Obj) (nw : List (Addr × Obj)), h.IsStrIter I "str_ascii_iterator" xt t i → h.get? I = some o → h'.get? I = some o → (∀ b o, h₀.get? b = some o → h'.get? b = some o) → News h₀ L h' nw → True → h'.IsStrIter I "str_ascii_iterator" xt t i :=
  fun i h h' o nw st e e' _ _ _ => by
    obtain ⟨o', q, r⟩ := st
    rw [e] at q
    cases q
    exact ⟨o, e', r⟩
/-- a list comprehension over a text of plain signs -/
theorem comp_text {elt iter : Expr} {x : Str} {px : Pos} {scope : Scope} {cl : List (Str × Addr)} {pos : Pos} {Q : Value → Shared → Prop} {xt : Str} (_F₀ : Fr h₀ L s.heap m) (hh : A.handled = none)
    (hclos : closureFor scope env = pure cl) (hcell : ∀ y ∈ scope.names, y.2 ≠ .cell) (hkind : scope.kind = .function)
    (hnames : ∀ y ∈ scope.names, y.2 = .local → scope.names.lookup y.1 = some .local) (hx : scope.names.lookup x = some .local)
    (ha : xt.cps.all (· < 128) = true) (hsz : xt.cps.size ≤ sizeLine)
    (h : wpAny (model prog w) A (eval iter env) (fun xv s₁ => ∃ t news, xv = .str xt t ∧ Fr h₀ L s₁.heap m ∧ News h₀ L s₁.heap news ∧
      ∀ g, CompRest prog w A h₀ L m env elt x scope cl { s₁ with heap := g } (fun _ => True) (SignAt xt) (FinE h₀ L m { s₁ with heap := g } Q) xt.cps.size 0 [] news) E s)
    (hs : ∀ x, foldedSetIterable iter env x = pure x := by intro _; rfl) :
    wpAny (model prog w) A (eval (.ListComp elt [⟨.Name x px, iter, [], 0⟩] scope pos) env) Q E s := by
  rw [eval_ListComp]
  refine wpAny_comprehension_free (use := none) rfl hs hclos hkind hnames (wpAny_mono h (fun xv s₁ h₁ => ?_) fun _ _ e => e)
  obtain ⟨t, news, rfl, F, N, R⟩ := h₁
  refine wpAny_pyIter_ascii ha ?_
  refine block_U (Walks.strAscii hh s₁.heap.objs.size xt t) hsz (fun i h st => by obtain ⟨o, e, _⟩ := st; exact ⟨o, e⟩) striter_st hcell hkind hx ⟨_, Heap.get?_push_size _ rfl, rfl, rfl⟩ (fun b hb => ?_)
    (F.keeps fun _ _ e => Heap.get?_push_of_some _ e) (N.grown fun _ _ e => Heap.get?_push_of_some _ e) (Nat.ne_of_lt F.ns.lt) (next_is_new F) (fun p hp => Nat.ne_of_lt (Heap.lt_size (N p hp).1)) trivial (R _) ?_
  · rw [List.mem_singleton.mp hb]
    show s₁.heap.objs.size < (s₁.heap.push _).objs.size
    rw [Heap.size_push]; exact Nat.lt_succ_self _
  · intro D C h tk m' ys news' F' N' o1 hn hC₀ hD₀ hCL hDL hCD offC fin
    refine ⟨m', hn, fun h'' hs'' => fin D h'' tk (F'.change hs'' hCL hC₀) (fun p hp => ?_) o1⟩
    refine ⟨hs''.extBut _ _ ?_ (N' p hp).1, (N' p hp).2⟩
    rcases List.mem_cons.mp hp with rfl | hp
    · exact Ne.symm hCD
    · exact offC p hp
/-- its turns: each sign tells one int -/
theorem sign_rest {elt : Expr} {x : Str} {scope : Scope} {cl : List (Str × Addr)} {S : List (Addr × Obj) → Prop} {Fin : List Value → List (Addr × Obj) → Prop} {news : List (Addr × Obj)} {xt : Str} (g : Nat → Int)
    (turn : ∀ c t I oI C oC D m₂ ys h tk (E' : Value → Shared → Prop), c ∈ xt.cps.toList → NsObj oC m₂ → m₂ x = some (.str ⟨#[c]⟩ t) → Fr h₀ L h m → News h₀ L h ((I, oI) :: (C, oC) :: (D, lst ys) :: news) → Off3 I C D news → ((@Ne Nat I C) ∧ (@Ne Nat I D) ∧ (@Ne Nat C D)) → KPfMark →
      wpAny (model prog w) A (eval elt (compEnvC scope cl C env)) (CompEnd h₀ L m { s with heap := h, toks := tk } I oI C oC D (lst ys) S (fun y news' => KCfEl news (g c) y news')) E' { s with heap := h, toks := tk })
    (fin : ∀ ys, IntsAre ys (xt.cps.toList.map g) → Fin ys news) : CompRest prog w A h₀ L m env elt x scope cl s S (SignAt xt) Fin xt.cps.size 0 [] news := by
  have key : ∀ (j i : Nat) (ys : List Value), i + j = xt.cps.size → IntsAre ys ((xt.cps.toList.take i).map g) → CompRest prog w A h₀ L m env elt x scope cl s S (SignAt xt) Fin j i ys news := by
    intro j
    induction j with
    | zero =>
      intro i ys hi hy
      rw [List.take_of_length_le (by rw [Array.length_toList]; omega)] at hy
      exact CompRest.zero (fin ys hy)
    | succ j ih =>
      intro i ys hi hy
      refine CompRest.succ ?_
      intro v I oI C oC D m₂ h tk E' hv hC hx F N off ne
      obtain ⟨c, u, hc, hv'⟩ := hv
      rw [hv'] at hx
      have hc' : xt.cps.toList[i]? = some c := by rw [Array.getElem?_toList]; exact hc
      refine wpAny_mono (turn c u I oI C oC D m₂ ys h tk E' (List.mem_of_getElem? hc') hC hx F N off ne True.intro) (fun y s₂ hq => ?_) fun _ _ e => e
      obtain ⟨h', tk', nw, e, F', N', off', hS, hn, t', hy'⟩ := hq
      rw [hn] at N' off' hS
      refine ⟨h', tk', news, e, F', N', off', hS, ?_⟩
      rw [hy']
      refine ih (i + 1) _ (by omega) ?_
      rw [List.take_add_one, hc']
      simpa using IntsAre.append hy (.cons (g c) t' .nil)
  exact key _ 0 [] (by omega) (by simp only [List.take_zero, List.map_nil]; exact .nil)
end
end Mine
namespace Mine
open PySem.Calls
theorem ints_of_get : ∀ (ys : List Value) (ns : List Int), ys.length = ns.length → (∀ (j : Nat) v, ys[j]? = some v → ∃ n t, ns[j]? = some n ∧ v = Value.int n t) → IntsAre ys ns
  | [], [], _, _ => .nil
  | [], _ :: _, h, _ => absurd h (by simp)
  | _ :: _, [], h, _ => absurd h (by simp)
  | y :: ys, n :: ns, h, hg => by
    obtain ⟨n', t, hn, hv⟩ := hg 0 y rfl
    simp only [List.getElem?_cons_zero, Option.some.injEq] at hn
    subst hn
    subst hv
    exact .cons _ _ (ints_of_get ys ns (by simpa using h) fun j v hj => by simpa using hg (j + 1) v (by simpa using hj))
section
variable {prog : Program} {w : World} {A : Around} {E : Value → Shared → Prop} {s : Shared}
theorem bytes_len_sub : splitId "bytes.__len__" = some ("bytes", "__len__") := by decide +kernel
theorem extend_bytes {R : Result → Shared → Prop} (hh : A.handled = none) (b : Array UInt8) (t : Tok) (S : Addr) (res : Value) (c₀ : Nat) (hS : s.heap.get? S = some { cls := .type "list", data := .seq #[] c₀ }) (hn : b.size ≤ sizeLine)
    (hR : ∀ h' tk acc' c', (∀ a o, a ≠ S → s.heap.get? a = some o → h'.get? a = some o) → h'.get? S = some { cls := .type "list", dict := none, data := .seq acc' c', slots := #[] } →
      ItemsOf (fun i v => ∃ c u, b[i]? = some c ∧ v = .int (c.toNat : Int) u) acc' b.size → R (.ok (.ret res)) { s with heap := h', toks := tk }) :
    wpAny (model prog w) A.in1 (Builtin.List.listExtendWith (.ref S) (.bytes b t) res)
      (fun fin s' => match fin with | .done f => R (.ok f) s' | .again c' => c'.quiet = true ∧ codeAny (model prog w) A c' R s') (fun e s' => R (.error e) s') s := by
  have hSI : S ≠ s.heap.objs.size := Nat.ne_of_lt (Heap.lt_size hS)
  have hSf : S ∉ [s.heap.objs.size] := fun hm => hSI (List.mem_singleton.mp hm)
  unfold Builtin.List.listExtendWith
  refine wpAny_bind (wpAny_typeOf (T := "bytes") (v := .bytes b t) rfl ?_)
  have h1 : Builtin.List.listSameRef (.ref S) (.bytes b t) = false := rfl
  have h2 : (Value.type "bytes" == Value.type "list") = false := by decide
  have h3 : (Value.type "bytes" == Value.type "tuple") = false := by decide
  simp only [h1, h2, h3, Bool.or_false, Bool.false_eq_true, if_false]
  refine wpAny_bind (KBw.pyIter_bytes ?_)
  refine wpAny_bind (wpAny_holding ?_)
  unfold Builtin.List.listLengthHint
  refine wpAny_bind (wpAny_specialOf (T := "bytes") (v := .bytes b t) rfl FB.slot_bytes_len.lookup ?_)
  generalize hid : ("bytes.__len__" : String) = id0
  wp_delta
  rw [show splitId id0 = some ("bytes", "__len__") from by subst hid; exact bytes_len_sub]
  subst hid
  refine wpAny_bind (wpAny_of_eq KBy.isInstance_eq ?_)
  show wpAny _ _ (typeOf (Value.bytes b t) >>= _) _ _ _
  refine wpAny_bind (wpAny_typeOf (T := "bytes") (v := .bytes b t) rfl ?_)
  refine wpAny_pure ?_
  rw [if_neg (by decide)]
  refine wpAny_pure ⟨plainId_quiet F.plain_extend_loop _, codeAny_extend_loopS (KBw.walks (A := A.in1) hh s.heap.objs.size b t).toS hn _ hSf _ b.size 0 _ _ _ rfl (Nat.zero_le _) ⟨_, Heap.get?_push_size _ rfl, rfl, rfl⟩ (Heap.get?_push_of_some _ hS) (ItemsOf.nil _) fun s' acc' c' hm hS' hacc => ?_⟩
  rw [Moved.eq_with hm]
  refine hR s'.heap s'.toks acc' c' (fun a ob ha e => hm.heap a ob (fun hmem => ?_) (Heap.get?_push_of_some _ e)) hS' hacc
  rcases List.mem_cons.mp hmem with e' | hmem
  · exact ha e'
  · exact absurd (Heap.lt_size e) (by rw [List.mem_singleton.mp hmem]; exact Nat.lt_irrefl _)
theorem list_init_bytes {R : Result → Shared → Prop} (hh : A.handled = none) (b : Array UInt8) (t : Tok) (S : Addr) (hS : s.heap.get? S = some { cls := .type "list", data := .seq #[] }) (hn : b.size ≤ sizeLine)
    (hR : ∀ h' tk acc' c', (∀ a o, a ≠ S → s.heap.get? a = some o → h'.get? a = some o) → h'.get? S = some { cls := .type "list", dict := none, data := .seq acc' c', slots := #[] } →
      ItemsOf (fun i v => ∃ c u, b[i]? = some c ∧ v = .int (c.toNat : Int) u) acc' b.size → R (.ok (.ret .none)) { s with heap := h', toks := tk }) :
    wpAny (model prog w) A.in1 (Builtin.«list.__init__» ⟨[.ref S, .bytes b t], []⟩)
      (fun fin s' => match fin with | .done f => R (.ok f) s' | .again c' => c'.quiet = true ∧ codeAny (model prog w) A c' R s') (fun e s' => R (.error e) s') s := by
  show wpAny _ _ (do let old ← Builtin.List.listItems (.ref S); Builtin.List.listUpdate (.ref S) (fun _ => #[]); letGo old.toList.reverse; Builtin.List.listExtendWith (.ref S) (.bytes b t) .none) _ _ s
  refine wpAny_bind ?_
  unfold Builtin.List.listItems
  refine wpAny_bind (wpAny_seqItems hS rfl (wpAny_pure ?_))
  show wpAny _ _ (updateSeq S (fun _ => #[]) >>= fun _ => letGo (#[] : Array Value).toList.reverse >>= fun _ => Builtin.List.listExtendWith (.ref S) (.bytes b t) .none) _ _ s
  refine wpAny_bind (wpAny_updateSeq hS rfl ?_)
  have hS₂ := Heap.get?_update_self (Obj.mapSeq (fun _ => (#[] : Array Value))) hS rfl
  refine wpAny_bind (wpAny_letGo ?_)
  refine extend_bytes hh b t S .none _ hS₂ hn fun h' tk acc' c' hk hS' hacc => ?_
  exact hR h' tk acc' c' (fun a o ha e => hk a o ha ((Heap.get?_update_other _ _ (Ne.symm ha)).trans e)) hS' hacc
theorem call_list_bytes {Q : Value → Shared → Prop} (hh : A.handled = none) (b : Array UInt8) (t : Tok) (hn : b.size ≤ sizeLine)
    (hQ : ∀ h' tk acc' c', (∀ a o, s.heap.get? a = some o → h'.get? a = some o) →
      h'.get? s.heap.objs.size = some { cls := .type "list", dict := none, data := .seq acc' c', slots := #[] } → ItemsOf (fun i v => ∃ c u, b[i]? = some c ∧ v = .int (c.toNat : Int) u) acc' b.size → Q (.ref s.heap.objs.size) { s with heap := h', toks := tk }) :
    wpAny (model prog w) A (call (.type "list") [.bytes b t]) Q E s := by
  refine callType_codes (Q₁ := fun obj s₁ => obj = .ref s.heap.objs.size ∧ s₁ = { s with heap := s.heap.push { cls := .type "list", data := .seq #[] } }) F.called_list (F.typeCall_list_1 _) F.entry_list_init
    (code_list_new _ ⟨rfl, rfl⟩) fun obj s₁ h₁ => ?_
  obtain ⟨rfl, rfl⟩ := h₁
  have hS : (s.heap.push { cls := .type "list", data := .seq #[] }).get? s.heap.objs.size = some { cls := .type "list", data := .seq #[] } := Heap.get?_push_size _ rfl
  refine ⟨⟨_, hS, rfl⟩, F.args_list_init_2 _ _, list_init_bytes (A := A.in1) hh b t _ hS hn fun h' tk acc' c' hk hS' hacc => ?_⟩
  exact ⟨rfl, hQ h' tk acc' c' (fun a o e => hk a o (Nat.ne_of_lt (Heap.lt_size e)) (Heap.get?_push_of_some _ e)) hS' hacc⟩
variable {h₀ : Heap} {L : Addr} {m : Str → Option Value} {news : List (Addr × Obj)}
/-- list of a row of octets: its numbers -/
theorem list_bytes_K {Q : Value → Shared → Prop} {b : Array UInt8} {t : Tok} {ks : List Int} (hh : A.handled = none) (F : Fr h₀ L s.heap m) (N : News h₀ L s.heap news) (hk : KBw.bInts b = ks) (hn : ks.length ≤ 1000)
    (h : ∀ D ys c h' tk, Fr h₀ L h' m → News h₀ L h' ((D, W.listOf ys.toArray c) :: news) → (∀ q ∈ news, q.1 < D) → IntsAre ys ks → Q (.ref D) { s with heap := h', toks := tk }) :
    wpAny (model prog w) A (call (.type "list") [.bytes b t]) Q E s := by
  subst hk
  refine call_list_bytes hh b t (by rw [sizeLine_eq, ← KBw.ints_length]; omega) fun h' tk acc' c' hk hD hacc => ?_
  refine h _ acc'.toList c' h' tk (F.keeps hk) (news_pushed F N hk (by simpa using hD) rfl) (fun q hq => Heap.lt_size (N q hq).1) ?_
  refine ints_of_get _ _ (by rw [Array.length_toList, hacc.1, KBw.ints_length]) fun j v hj => ?_
  obtain ⟨c, u, hc, rfl⟩ := hacc.2 j v (by simpa using hj)
  exact ⟨_, u, KBw.ints_get hc, rfl⟩
end
/-- a walk over a list that stands at its start -/
abbrev iterOf (l : Addr) : Obj := { cls := .type "list_iterator", data := .fields #[.ref l, .int 0 0] }
theorem li_no_bytes : typeLookup (.type "list_iterator") "__bytes__" = pure none := by rw [typeLookup_type, builtinLookup_eq_fast]; kernel_rfl
theorem li_no_index : typeLookup (.type "list_iterator") "__index__" = pure none := by rw [typeLookup_type, builtinLookup_eq_fast]; kernel_rfl
theorem li_no_buffer : typeLookup (.type "list_iterator") "__buffer__" = pure none := by rw [typeLookup_type, builtinLookup_eq_fast]; kernel_rfl
theorem li_no_len : typeLookup (.type "list_iterator") "__len__" = pure none := by rw [typeLookup_type, builtinLookup_eq_fast]; kernel_rfl
theorem li_hint : typeLookup (.type "list_iterator") "__length_hint__" = pure (some (.builtin "list_iterator.__length_hint__")) := by rw [typeLookup_type, builtinLookup_eq_fast]; kernel_rfl
theorem li_split : splitId "list_iterator.__length_hint__" = some ("list_iterator", "__length_hint__") := by decide +kernel
theorem li_sub : isSubtype (.type "list_iterator") (.type "list_iterator") = pure true := by rw [isSubtype_type]; kernel_rfl
section
variable {prog : Program} {w : World} {A : Around} {E : Value → Shared → Prop} {s : Shared} {h₀ : Heap} {L : Addr} {m : Str → Option Value} {news : List (Addr × Obj)}
theorem iter_list_K {l : Addr} {items : Array Value} {Q : Value → Shared → Prop} (F : Fr h₀ L s.heap m) (N : News h₀ L s.heap news) (hl : s.heap.IsList l items)
    (h : ∀ I h', Fr h₀ L h' m → News h₀ L h' ((I, iterOf l) :: news) → (∀ q ∈ news, q.1 < I) → Q (.ref I) { s with heap := h' }) :
    wpAny (model prog w) A (call (.builtin "iter") [.ref l]) Q E s := by
  refine call_function_entry (by decide +kernel) (by decide +kernel) kdk_entry_iter (kdk_args_iter _) ?_
  unfold Builtin.«iter»
  refine wpAny_bind (m := someArgs "iter" 1 2 _) (wpAny_of_eq (a := [Value.ref l]) (by first | rfl | kernel_rfl!) ?_)
  show wpAny _ _ (pyIter (.ref l) >>= _) _ _ _
  refine wpAny_bind (wpAny_pyIter_list hl ?_)
  exact wpAny_pure ⟨_, rfl, h _ _ (F.push _) (News.push F N _ rfl) (fun q hq => Heap.lt_size (N q hq).1)⟩
theorem new_iter {I l : Addr} {vs : List Value} {ns : List Int} {Q : Value → Shared → Prop} (hh : A.handled = none) (hI : s.heap.get? I = some (iterOf l)) (hl : s.heap.IsList l vs.toArray) (hi : IntsAre vs ns) (hr : ∀ n ∈ ns, 0 ≤ n ∧ n < 256) (hz : ns.length ≤ sizeLine)
    (hQ : ∀ h' t k, (∀ b o, b ≠ I → s.heap.get? b = some o → h'.get? b = some o) → Q (.bytes (byteArr ns) t) { s with heap := h', toks := k }) :
    codeAny (model prog w) A (.call (.builtin "bytes.__new__") ⟨[.type "bytes", .ref I], []⟩) (wants Q E) s := by
  refine codeAny_of_tree ?_
  show wpAny _ A.in1 (do checkBuiltinCall "bytes.__new__" ⟨[.type "bytes", .ref I], []⟩; again (.builtin "bytes.__new__" ⟨[.type "bytes", .ref I], []⟩)) _ _ s
  refine wpAny_bind (wpAny_of_eq (F.bm_newCall _) (wpAny_pure ⟨plainId_quiet F.bm_plain _, codeAny_builtin F.bm_entry ?_⟩))
  rw [Around.under_plainId F.bm_plain _]
  have hT : s.TypeIs (.ref I) "list_iterator" := ⟨_, hI, rfl⟩
  have hit : s.heap.IsListIter I l 0 := ⟨_, hI, rfl, rfl⟩
  have hlI : l ≠ I := fun e => by
    obtain ⟨o, ho, hc, _⟩ := hl
    rw [e, hI] at ho
    cases ho
    exact absurd (Value.type.inj hc) (by decide)
  unfold Builtin.«bytes.__new__»
  refine wpAny_bind (wpAny_of_eq (a := true) rfl ?_)
  refine bm_if_false rfl ?_
  refine wpAny_bind (wpAny_of_eq F.bm_sub ?_)
  refine bm_if_false rfl ?_
  refine wpAny_bind (wpAny_of_eq (F.bm_bind _) ?_)
  refine wpAny_bind (wpAny_of_eq (a := ()) rfl ?_)
  refine wpAny_bind (wpAny_of_eq (a := ()) rfl ?_)
  refine bm_if_false rfl ?_
  refine wpAny_bind (wpAny_specialOf hT li_no_bytes ?_)
  refine wpAny_bind (wpAny_bind ?_)
  show wpAny _ _ (load I >>= _) _ _ _
  refine wpAny_bind (wpAny_load hI ?_)
  refine wpAny_pure (wpAny_pure ?_)
  refine bm_if_false rfl ?_
  refine wpAny_bind (wpAny_specialOf hT li_no_index ?_)
  refine bm_if_true rfl ?_
  first
    | show wpAny _ _ (Builtin.Bytes.buffer? "bytes.__new__" (.ref I) true >>= _) _ _ _
    | (refine wpAny_bind ?_; show wpAny _ _ (Builtin.Bytes.buffer? "bytes.__new__" (.ref I) true >>= _) _ _ _)
  refine wpAny_bind ?_
  unfold Builtin.Bytes.buffer?
  refine wpAny_bind (wpAny_specialOf hT li_no_buffer ?_)
  refine wpAny_bind (wpAny_specialOf hT li_no_buffer ?_)
  refine wpAny_pure ?_
  refine wpAny_bind (wpAny_tryCatch (wpAny_pyIter_listiter hit ?_))
  refine wpAny_bind (wpAny_holding ?_)
  unfold Builtin.Bytes.lengthHint
  refine wpAny_bind (wpAny_specialOf hT li_no_len ?_)
  dsimp only
  refine bm_if_false rfl ?_
  refine bm_if_false rfl ?_
  refine wpAny_bind (wpAny_specialOf hT li_hint ?_)
  dsimp only
  rw [li_split]
  dsimp only
  refine wpAny_bind (wpAny_isInstance hT li_sub ?_)
  refine bm_if_false rfl ?_
  refine bm_if_true (by decide +kernel) ?_
  refine bm_if_false (by decide) ?_
  refine wpAny_pure ?_
  refine wpAny_bind ?_
  unfold Builtin.Bytes.newBytearray
  refine wpAny_newObj_type ?_ (Nat.zero_le _)
  have hlt : l < s.heap.objs.size := by obtain ⟨_, e, _⟩ := hl; exact Heap.lt_size e
  have hIt : I < s.heap.objs.size := Heap.lt_size hI
  have main := bm_loop (prog := prog) (w := w) (A := A) (R := wants Q E) (l := l) (I := I) (S := s.heap.objs.size) hh hi hr hz (Nat.ne_of_lt hIt) hlI (Nat.ne_of_lt hlt)
    ns.length 0 { s with heap := s.heap.push { cls := .type "bytearray", data := .bytearray #[] } } rfl (Nat.zero_le _) (hl.push _) ⟨_, Heap.get?_push_of_some _ hI, rfl, rfl⟩ (Heap.get?_push_size _ rfl)
    fun h' t k hk => hQ h' t k fun b o hb e => hk b o hb (Nat.ne_of_lt (Heap.lt_size e)) (Heap.get?_push_of_some _ e)
  first
    | exact wpAny_pure ⟨plainId_quiet F.bm_plain_loop _, main⟩
    | exact wpAny_pure (wpAny_pure ⟨plainId_quiet F.bm_plain_loop _, main⟩)
/-- bytes of a walk over a list of ints -/
theorem bytes_iter_K {I l : Addr} {vs : List Value} {ns : List Int} {Q : Value → Shared → Prop} (hh : A.handled = none) (Fh : Fr h₀ L s.heap m) (N : News h₀ L s.heap ((I, iterOf l) :: news)) (hl : s.heap.IsList l vs.toArray) (hi : IntsAre vs ns) (hr : KBa.In ns) (hz : ns.length ≤ 1000)
    (off : ∀ p ∈ news, p.1 ≠ I) (h : ∀ h' t k, Fr h₀ L h' m → News h₀ L h' news → Q (.bytes (byteArr ns) t) { s with heap := h', toks := k }) :
    wpAny (model prog w) A (call (.type "bytes") [.ref I]) Q E s := by
  have hI := N (I, iterOf l) (.head _)
  refine callType_codes (Q₁ := fun obj s₁ => s₁.TypeIs obj "bytes" ∧ Q obj s₁) F.bm_called (F.bm_typeCall _) F.entry_object_init
    (new_iter hh hI.1 hl hi hr (by rw [sizeLine_eq]; omega) fun h' t k hk => ⟨PySem.W.typeIs_bytes _ _ _, h h' t k (LCg.fr_but Fh (fun b o hb e => hk b o (by simpa using hb) e) (Ne.symm hI.2.1) hI.2.2) (LCg.news_but (fun p hp => N p (.tail _ hp)) (fun b o hb e => hk b o (by simpa using hb) e) off)⟩) fun obj s₁ h₁ => ?_
  exact ⟨h₁.1, F.args_object_init_2 obj _, object_init_meets F.bm_called.init.lookup F.bm_called.made (by decide) prog w A.in1 _ s₁ ⟨h₁.1, rfl, h₁.2⟩⟩
end
end Mine
namespace Mine
local macro_rules | `(tactic| walk_at "pad 0") => `(tactic| fail)
theorem fresh_c1 : True := by
  w_top off
  k_with_none
  exact True.intro
/-- the two letters of each number, by a table of sixteen figures -/
def lets (fig : Str) (ks : List Int) : Str := ⟨(ks.flatMap fun k => [(Txt.charAt fig (k.fdiv 16)).getD 0, (Txt.charAt fig (k.fmod 16)).getD 0]).toArray⟩
theorem lets_nil (fig : Str) : lets fig [] = Str.ofString "" := by rfl
theorem lets_snoc (fig : Str) (pre : List Int) (n : Int) : lets fig (pre ++ [n]) = lets fig pre ++ Txt.item fig (n.fdiv 16) ++ Txt.item fig (n.fmod 16) := by
  refine Str.ext' ?_
  simp [lets, Txt.item, Str.cps_append, List.flatMap_append]
theorem lets_len (fig : Str) (ks : List Int) : (lets fig ks).length = 2 * ks.length := by
  show (lets fig ks).cps.size = _
  simp only [lets, List.size_toArray]
  induction ks with
  | nil => rfl
  | cons k r ih => rw [List.flatMap_cons, List.length_append, ih, List.length_cons, List.length_cons, List.length_cons, List.length_nil]; omega
theorem lets_step {fig : Str} {pre : List Int} {n : Int} {out : Str} (h : out = lets fig pre) : (out ++ Txt.item fig (n.fdiv 16)) ++ Txt.item fig (n.fmod 16) = lets fig (pre ++ [n]) := by
  rw [lets_snoc, h]
theorem lets_two {fig : Str} {pre : List Int} {n : Int} {out : Str} (h : out = lets fig pre) : (out ++ Txt.item fig (n.fdiv 16)) ++ Txt.item fig (n.fmod 16) = lets fig (pre ++ [n]) ∧ ((out ++ Txt.item fig (n.fdiv 16)) ++ Txt.item fig (n.fmod 16)).length = 2 * (pre ++ [n]).length := by
  have e := lets_step (n := n) h
  exact ⟨e, by rw [e, lets_len]⟩
local macro_rules | `(tactic| walk_at "subscriptTail") => `(tactic| (k_here; (with_reducible show wpAny _ _ (subscriptTail _ _ (Value.str _ _) (Value.int _ _)) _ _ _); (refine KXi.item (n := 16) (by assumption) (Int.le_trans (by decide) (fmod_lo _ (by decide))) (fmod_hi _ (by decide)) (by decide) ?_); intro _))
theorem c_letters {prog : Program} {w : World} (ks : List Int) (b : Array UInt8) (fig : Str) (t t2 : Tok) (hf : fig.length = 16) (hk : KBw.bInts b = ks) (hl : ks.length ≤ 64) :
   Ans prog w (hd.heap_39 w.params) 113 3 24 [.bytes b t, .str fig t2] (fun r => ∃ t', r = .str (lets fig ks) t') := by
  have hb : Both PySem.Challenge.rw_dp5007_01 hd.heap_39 := by (k_fill; exact trivial)
  unfold Ans
  intro p loose mean mg mb dp un gd cn cs a ccd cl outer A₀ base h₀ L m news s Q E B F X N T hck hd hu hret
  refine wpAny_call ?_
  k_dflt cell_enter
  (k_with "state" => first | exact ⟨rfl, rfl⟩ | exact lets_two (by assumption))
  (k_with "pyIter bytes" => k_state (fun pre out => out = lets fig pre ∧ out.length = 2 * pre.length) "out")
  k_steps
  all_goals exact hret _ _ _ ⟨_, by congr 1⟩ (by k_asm) (by k_asm)
end Mine
namespace Mine
local macro_rules | `(tactic| walk_at "pad 0") => `(tactic| fail)
theorem fresh_c2 : True := by
  w_top off
  k_with_none
  exact True.intro
local macro_rules | `(tactic| walk_at "call ref") => `(tactic| (k_here; (refine wpAny_call ?_); k_dflt (refine' code_def ?k1 ?k2 ?k3 ?k4 ?k5 ?kA ?kF ?kK ?k6 ?k7 ?k8 ?k9 ?kB ?_ ?c2 ?c3 ?c4 ?c5; (case kA => exact rfl); (case kF => exact rfl); (case kK => first | assumption | exact rfl); (case k1 => k_asm); (case k2 => k_asm); (case k3 => k_asm); (case k4 => k_asm); (case k5 => k_asm); (case k6 => k_is); (case k7 => k_is); (case k8 => ktr_room); (case k9 => first | exact BindsTo.of_eq rfl | exact binds_K (by k_in) rfl (by k_is) rfl rfl rfl); (case c5 => decide); (case kB => exact locs rfl); (case c2 => exact rfl); (case c3 => exact rfl); (case c4 => exact rfl); k_whole; intro g' L' h' FG' F' N' B' X' T'; (try dsimp only); (try k_lift B'); (try k_fold))))
local macro_rules | `(tactic| walk_at "call type:type") => `(tactic| (k_here; (with_reducible show wpAny _ _ (call (Value.type "type") [Value.bytes _ _]) _ _ _); (refine call_type_of (typeIs_bytes _ _ _) (by decide +kernel) ?_)))
local macro_rules | `(tactic| walk_at "getMethod bytes") => `(tactic| (k_here; (with_reducible refine hex_method ?_)))
local macro_rules | `(tactic| walk_at "call builtin:bytes.hex") => `(tactic| (k_here; (with_reducible show wpAny _ _ (call (Value.builtin "bytes.hex") [Value.bytes _ _]) _ _ _); (refine hex_K (by assumption) (by omega) ?_); intro _ _))
local macro_rules | `(tactic| walk_at "getMethod str") => `(tactic| (k_here; (with_reducible refine encode_method ?_)))
local macro_rules | `(tactic| walk_at "call builtin:str.encode") => `(tactic| (k_here; (with_reducible show wpAny _ _ (call (Value.builtin "str.encode") [Value.str (hexT _) _, Value.str _ _]) _ _ _); (refine encode_K (ints_in' (by assumption)) (by omega) ?_); intro _ _))
theorem c_hexlify {prog : Program} {w : World} (ks : List Int) (b : Array UInt8) (t : Tok) (hk : KBw.bInts b = ks) (hl : ks.length ≤ 64) :
   Ans prog w (hd.heap_39 w.params) 78 4 32 [.bytes b t] (fun r => ∃ t', r = .bytes (byteArr (hexI ks)) t') := by
  have hb : Both PySem.Challenge.rw_dp5007_01 hd.heap_39 := by (k_fill; exact trivial)
  unfold Ans
  intro p loose mean mg mb dp un gd cn cs a ccd cl outer A₀ base h₀ L m news s Q E B F X N T hck hd hu hret
  refine wpAny_call ?_
  k_dflt cell_enter
  k_steps
  all_goals exact hret _ _ _ ⟨_, rfl⟩ (by k_asm) (by k_asm)
end Mine
namespace Mine
local macro_rules | `(tactic| walk_at "pad 0") => `(tactic| fail)
theorem fresh_c4 : True := by
  w_top off
  k_with_none
  exact True.intro
local macro_rules | `(tactic| walk_at "call type:type") => `(tactic| (k_here; (with_reducible show wpAny _ _ (call (Value.type "type") [Value.bytes _ _]) _ _ _); (refine call_type_of (typeIs_bytes _ _ _) (by decide +kernel) ?_)))
theorem c_ascbuf_bytes {prog : Program} {w : World} (b : Array UInt8) (t : Tok) :
   Ans prog w (hd.heap_39 w.params) 41 2 16 [.bytes b t] (fun r => ∃ t', r = .bytes b t') := by
  have hb : Both PySem.Challenge.rw_dp5007_01 hd.heap_39 := by (k_fill; exact trivial)
  unfold Ans
  intro p loose mean mg mb dp un gd cn cs a ccd cl outer A₀ base h₀ L m news s Q E B F X N T hck hd hu hret
  refine wpAny_call ?_
  k_dflt cell_enter
  k_steps
  all_goals exact hret _ _ _ ⟨_, rfl⟩ (by k_asm) (by k_asm)
local macro_rules | `(tactic| walk_at "getMethod str") => `(tactic| (k_here; (with_reducible refine encode_method ?_)))
local macro_rules | `(tactic| walk_at "call builtin:str.encode") => `(tactic| (k_here; (with_reducible show wpAny _ _ (call (Value.builtin "str.encode") [Value.str _ _, Value.str _ _]) _ _ _); (refine encode_call (by assumption) (by assumption) ?_); intro _ _))
theorem c_ascbuf_str {prog : Program} {w : World} (x : Str) (t : Tok) (hx : ∀ c ∈ x.cps.toList, c < 128) (hz : x.length ≤ 1000) :
   Ans prog w (hd.heap_39 w.params) 41 2 16 [.str x t] (fun r => ∃ t', r = .bytes (x.cps.map (·.toUInt8)) t') := by
  have hb : Both PySem.Challenge.rw_dp5007_01 hd.heap_39 := by (k_fill; exact trivial)
  have ha : Txt.isascii x = true := by
    unfold Txt.isascii
    rw [Array.all_eq_true']
    intro c hc
    exact decide_eq_true (hx c (by simpa using hc))
  unfold Ans
  intro p loose mean mg mb dp un gd cn cs a ccd cl outer A₀ base h₀ L m news s Q E B F X N T hck hd hu hret
  refine wpAny_call ?_
  k_dflt cell_enter
  k_steps
  all_goals exact hret _ _ _ ⟨_, rfl⟩ (by k_asm) (by k_asm)
end Mine
namespace Mine
local macro_rules | `(tactic| walk_at "pad 0") => `(tactic| fail)
theorem fresh_c3 : True := by
  w_top off
  k_with_none
  exact True.intro
local macro_rules | `(tactic| walk_at "call ref") => `(tactic| (k_here; (refine wpAny_call ?_); k_dflt (refine' code_def ?k1 ?k2 ?k3 ?k4 ?k5 ?kA ?kF ?kK ?k6 ?k7 ?k8 ?k9 ?kB ?_ ?c2 ?c3 ?c4 ?c5; (case kA => exact rfl); (case kF => exact rfl); (case kK => first | assumption | exact rfl); (case k1 => k_asm); (case k2 => k_asm); (case k3 => k_asm); (case k4 => k_asm); (case k5 => k_asm); (case k6 => k_is); (case k7 => k_is); (case k8 => ktr_room); (case k9 => first | exact BindsTo.of_eq rfl | exact binds_K (by k_in) rfl (by k_is) rfl rfl rfl); (case c5 => decide); (case kB => exact locs rfl); (case c2 => exact rfl); (case c3 => exact rfl); (case c4 => exact rfl); k_whole; intro g' L' h' FG' F' N' B' X' T'; (try dsimp only); (try k_lift B'); (try k_fold))))
local macro_rules | `(tactic| walk_at "call type:type") => `(tactic| (k_here; (with_reducible show wpAny _ _ (call (Value.type "type") [Value.bytes _ _]) _ _ _); (refine call_type_of (typeIs_bytes _ _ _) (by decide +kernel) ?_)))
/-- the number that a letter tells, 16 for none -/
def hexV (c : Int) : Int := if 48 ≤ c ∧ c ≤ 57 then c - 48 else if 65 ≤ c ∧ c ≤ 70 then c - 55 else if 97 ≤ c ∧ c ≤ 102 then c - 87 else 16
theorem int_ans {x y : Int} {t : Tok} (e : x = y) : ∃ t', Value.int x t = .int y t' := ⟨t, by rw [e]⟩
theorem c_hexval {prog : Program} {w : World} (c : Int) (t : Tok) :
   Ans prog w (hd.heap_39 w.params) 64 2 16 [.int c t] (fun r => ∃ t', r = .int (hexV c) t') := by
  have hb : Both PySem.Challenge.rw_dp5007_01 hd.heap_39 := by (k_fill; exact trivial)
  unfold Ans
  intro p loose mean mg mb dp un gd cn cs a ccd cl outer A₀ base h₀ L m news s Q E B F X N T hck hd hu hret
  refine wpAny_call ?_
  k_dflt cell_enter
  k_steps
  all_goals (refine hret _ _ _ (int_ans ?_) (by k_asm) (by k_asm); unfold hexV; (repeat' split) <;> omega)
/-- the octets that a row of letters tells, two letters an octet -/
def unhexI : List Int → List Int
  | a :: b :: r => (hexV a * 16 + hexV b) :: unhexI r
  | _ => []
local macro_rules | `(tactic| walk_at "call ref") => `(tactic| (k_here; (with_reducible show wpAny _ _ (call (Value.ref 64) [Value.int _ _]) _ _ _); k_dflt (refine' Ans.use (c_hexval _ _) ?k1 ?k2 ?k3 ?k4 ?k5 ?kK ?kd ?ku ?_; (case k1 => k_asm); (case k2 => k_asm); (case k3 => k_asm); (case k4 => k_asm); (case k5 => k_asm); (case kK => first | assumption | exact rfl); (case kd => ktr_room); (case ku => ktr_units); k_whole; intro _ _ _ hr F' N'; (obtain ⟨_, e⟩ := hr); subst e; (try k_sweep); (try dsimp only); (try k_fold))))
theorem inv_start {n : Nat} {ds : List Int} : (0 : Int) = 2 * (([] : List Int).length : Int) ∧ ([] : List Int).length ≤ n ∧ ([] : List Int) = unhexI (ds.take (2 * ([] : List Int).length)) := ⟨rfl, Nat.zero_le _, rfl⟩
theorem hexV_nonneg (c : Int) : 0 ≤ hexV c := by unfold hexV; (repeat' split) <;> omega
theorem getD_mem {ds : List Int} {j : Nat} (h : j < ds.length) : ds.getD j 0 ∈ ds := by
  rw [List.getD_eq_getElem?_getD, List.getElem?_eq_getElem h]
  exact List.getElem_mem h
theorem unhex_take : ∀ (j : Nat) (ds : List Int), 2 * j + 1 < ds.length → unhexI (ds.take (2 * (j + 1))) = unhexI (ds.take (2 * j)) ++ [hexV (ds.getD (2 * j) 0) * 16 + hexV (ds.getD (2 * j + 1) 0)]
  | 0, a :: b :: r, _ => by simp [unhexI]
  | 0, [a], h => absurd h (by simp)
  | _, [], h => absurd h (by simp)
  | j + 1, [a], h => absurd h (by simp)
  | j + 1, a :: b :: r, h => by
    have ih := unhex_take j r (by simp at h; omega)
    rw [show 2 * (j + 1 + 1) = 2 * (j + 1) + 2 from by omega, show 2 * (j + 1) = 2 * j + 2 from by omega] at *
    simp only [List.take_succ_cons, unhexI, List.cons_append]
    rw [show 2 * j + 2 + 1 = 2 * j + 1 + 2 from by omega]
    simp only [List.getD_cons_succ]
    rw [← ih]
theorem inv_step {n : Nat} {ds is : List Int} {i : Int} (h1 : i = 2 * (is.length : Int)) (h2 : is.length ≤ n) (h3 : is = unhexI (ds.take (2 * is.length))) (hi : i < (ds.length : Int)) (hl : ds.length = 2 * n) :
    i + 2 = 2 * ((is ++ [hexV (ds.getD i.toNat 0) * 16 + hexV (ds.getD (i + 1).toNat 0)]).length : Int) ∧ (is ++ [hexV (ds.getD i.toNat 0) * 16 + hexV (ds.getD (i + 1).toNat 0)]).length ≤ n ∧
    is ++ [hexV (ds.getD i.toNat 0) * 16 + hexV (ds.getD (i + 1).toNat 0)] = unhexI (ds.take (2 * (is ++ [hexV (ds.getD i.toNat 0) * 16 + hexV (ds.getD (i + 1).toNat 0)]).length)) := by
  subst h1
  rw [List.length_append, List.length_cons, List.length_nil]
  refine ⟨by omega, by omega, ?_⟩
  rw [show 2 * (is.length + (0 + 1)) = 2 * (is.length + 1) from by omega, unhex_take _ _ (by omega), ← h3, show (2 * (is.length : Int)).toNat = 2 * is.length from by omega, show (2 * (is.length : Int) + 1).toNat = 2 * is.length + 1 from by omega]
theorem unhexI_len : ∀ (n : Nat) (ds : List Int), ds.length = 2 * n → (unhexI ds).length = n
  | 0, [], _ => rfl
  | 0, _ :: _, h => absurd h (by simp)
  | n + 1, [], h => absurd h (by simp)
  | n + 1, [a], h => absurd h (by simp; omega)
  | n + 1, a :: b :: r, h => by
    simp only [unhexI, List.length_cons] at h ⊢
    rw [unhexI_len n r (by omega)]
theorem unhexI_in : ∀ (n : Nat) (ds : List Int), ds.length = 2 * n → (∀ c ∈ ds, hexV c < 16) → KBa.In (unhexI ds)
  | 0, [], _, _ => fun _ h => nomatch h
  | 0, _ :: _, h, _ => absurd h (by simp)
  | n + 1, [], h, _ => absurd h (by simp)
  | n + 1, [a], h, _ => absurd h (by simp; omega)
  | n + 1, a :: b :: r, h, hg => by
    intro x hx
    simp only [unhexI, List.mem_cons] at hx
    rcases hx with rfl | hx
    · have := hexV_nonneg a; have := hexV_nonneg b; have := hg a (by simp); have := hg b (by simp); omega
    · exact unhexI_in n r (by simp at h; omega) (fun c hc => hg c (by simp [hc])) x hx
theorem even_fmod {l n : Nat} (h : l = 2 * n) : ((l : Nat) : Int).fmod 2 = 0 := by
  subst h
  rw [Int.fmod_eq_emod_of_nonneg _ (by decide)]
  omega
theorem inv_end {ds is : List Int} {i : Int} (h1 : i = 2 * (is.length : Int)) (h3 : is = unhexI (ds.take (2 * is.length))) (hi : ¬ i < (ds.length : Int)) : is = unhexI ds := by
  rw [List.take_of_length_le (by omega)] at h3
  exact h3
section
variable {prog : Program} {w : World} {A : Around} {E : Value → Shared → Prop} {s : Shared} {a : Int} {t u : Tok}
theorem shl4 {Q : Value → Shared → Prop} (h0 : 0 ≤ a) (h1 : a < 16) (h : Q (.int (a * 16) s.toks) { s with toks := s.toks + 1 }) : wpAny (model prog w) A (binaryOp .LShift (.int a t) (.int 4 u)) Q E s :=
  lshift_int_small (by decide) (by decide) (by omega) h
end
local macro_rules | `(tactic| walk_at "binaryOp LShift int int") => `(tactic| (k_here; (refine shl4 (hexV_nonneg _) (by omega) ?_)))
local macro_rules | `(tactic| walk_at "exec While Compare") => `(tactic| (k_here; refine Stop.of ?_))
local macro_rules | `(tactic| walk_at "call ref") => `(tactic| (k_here; (with_reducible show wpAny _ _ (call (Value.ref 41) [_]) _ _ _); k_dflt (refine' Ans.use (f := 41) (by assumption) ?k1 ?k2 ?k3 ?k4 ?k5 ?kK ?kd ?ku ?_; (case k1 => k_asm); (case k2 => k_asm); (case k3 => k_asm); (case k4 => k_asm); (case k5 => k_asm); (case kK => first | assumption | exact rfl); (case kd => ktr_room); (case ku => ktr_units); k_whole; intro _ _ _ hr F' N'; (obtain ⟨_, e⟩ := hr); subst e; (try k_sweep); (try dsimp only); (try k_fold))))
theorem c_a2b {prog : Program} {w : World} (ds : List Int) (n : Nat) (b : Array UInt8) (v : Value) (hbuf : Ans prog w (hd.heap_39 w.params) 41 2 16 [v] (fun r => ∃ t', r = .bytes b t')) (hk : KBw.bInts b = ds) (hl : ds.length = 2 * n) (hn : n ≤ 64) (hg : ∀ c ∈ ds, hexV c < 16) :
   Ans prog w (hd.heap_39 w.params) 71 4 32 [v] (fun r => ∃ t', r = .bytes (byteArr (unhexI ds)) t') := by
  have hb : Both PySem.Challenge.rw_dp5007_01 hd.heap_39 := by (k_fill; exact trivial)
  unfold Ans
  intro p loose mean mg mb dp un gd cn cs a ccd cl outer A₀ base h₀ L m news s Q E B F X N T hck hd hu hret
  refine wpAny_call ?_
  k_dflt cell_enter
  k_steps
  rotate_left
  · refine Stop.on ?_
    rename Fr _ _ _ _ => lF'
    rename News _ _ _ _ => lN'
    with_unfolding_all refine' ksw_while (σ := Int × Tok × List Value × List Int × Nat) (fun c => (_, W.listOf c.2.2.1.toArray c.2.2.2.2) :: news) (fun c => [(Str.ofString "i", Value.int c.1 c.2.1)]) (fun c => IntsAre c.2.2.1 c.2.2.2.1) [Str.ofString "top", Str.ofString "bot"] (fun c => c.1 = 2 * (c.2.2.2.1.length : Int) ∧ c.2.2.2.1.length ≤ n ∧ c.2.2.2.1 = unhexI (ds.take (2 * c.2.2.2.1.length))) (fun c => n - c.2.2.2.1.length) (0, _, [], [], 0) lF' ?kn ?kf ?kk ?kp ?turn ?hE
    case kn => with_unfolding_all exact lN'
    case kf => exact IntsAre.nil
    case kk => trace "kk"; kst_all
    case kp => trace "kp"; exact inv_start
    case hE => trace "hE"; exact PassesOwn.leaving
    intro c u h tk hFa hP F' N'
    obtain ⟨i, ti, vs, is, cnt⟩ := c
    obtain ⟨h1, h2, h3⟩ := hP
    dsimp only [kstB] at hFa F' N' h1 h2 h3 ⊢
    (k_with "state" => exact inv_step h1 h2 h3 (by assumption) hl)
    (k_with "measure" => (simp only [List.length_append, List.length_cons, List.length_nil]; omega))
    k_steps
    all_goals first
      | (exfalso; have q1 := hg _ (getD_mem (ds := ds) (j := i.toNat) (by omega)); have q2 := hg _ (getD_mem (ds := ds) (j := (i + 1).toNat) (by omega)); omega)
      | skip
    · have e := inv_end h1 h3 (by assumption)
      clear h1 h2 h3
      subst e
      have hIn := unhexI_in n ds hl hg
      have hz := unhexI_len n ds hl
      k_steps
      all_goals exact hret _ _ _ ⟨_, rfl⟩ (by k_asm) (by exact cb_drop (by assumption) (fun _ h => List.Mem.tail _ h))
  · exact absurd (even_fmod hl) (by assumption)
end Mine
namespace Mine
local macro_rules | `(tactic| walk_at "pad 0") => `(tactic| fail)
theorem fresh_c5 : True := by
  w_top off
  k_with_none
  exact True.intro
local macro_rules | `(tactic| walk_at "call ref") => `(tactic| (k_here; (with_reducible show wpAny _ _ (call (Value.ref 71) [_]) _ _ _); k_dflt (refine' Ans.use (f := 71) (by assumption) ?k1 ?k2 ?k3 ?k4 ?k5 ?kK ?kd ?ku ?_; (case k1 => k_asm); (case k2 => k_asm); (case k3 => k_asm); (case k4 => k_asm); (case k5 => k_asm); (case kK => first | assumption | exact rfl); (case kd => ktr_room); (case ku => ktr_units); k_whole; intro _ _ _ hr F' N'; (obtain ⟨_, e⟩ := hr); subst e; (try k_sweep); (try dsimp only); (try k_fold))))
theorem c_unhex {prog : Program} {w : World} (b : Array UInt8) (v : Value) (ha : Ans prog w (hd.heap_39 w.params) 71 4 32 [v] (fun r => ∃ t', r = .bytes b t')) :
   Ans prog w (hd.heap_39 w.params) 85 6 48 [v] (fun r => ∃ t', r = .bytes b t') := by
  have hb : Both PySem.Challenge.rw_dp5007_01 hd.heap_39 := by (k_fill; exact trivial)
  unfold Ans
  intro p loose mean mg mb dp un gd cn cs a ccd cl outer A₀ base h₀ L m news s Q E B F X N T hck hd hu hret
  refine wpAny_call ?_
  k_dflt cell_enter
  k_steps
  all_goals exact hret _ _ _ ⟨_, rfl⟩ (by k_asm) (by k_asm)
theorem hexV_hx {n : Nat} (h : n < 16) : hexV (hx n : Int) = n := by
  have : n = 0 ∨ n = 1 ∨ n = 2 ∨ n = 3 ∨ n = 4 ∨ n = 5 ∨ n = 6 ∨ n = 7 ∨ n = 8 ∨ n = 9 ∨ n = 10 ∨ n = 11 ∨ n = 12 ∨ n = 13 ∨ n = 14 ∨ n = 15 := by omega
  rcases this with rfl | rfl | rfl | rfl | rfl | rfl | rfl | rfl | rfl | rfl | rfl | rfl | rfl | rfl | rfl | rfl <;> decide
/-- letters by a table of figures that tell their own places -/
def figI (f : Nat → Int) (ks : List Int) : List Int := ks.flatMap fun k => [f (k.toNat / 16), f (k.toNat % 16)]
theorem figI_len (f : Nat → Int) (ks : List Int) : (figI f ks).length = 2 * ks.length := by
  unfold figI
  induction ks with
  | nil => rfl
  | cons c r ih => rw [List.flatMap_cons, List.length_append, ih, List.length_cons, List.length_cons, List.length_cons, List.length_nil]; omega
theorem unhex_figI {f : Nat → Int} (hf : ∀ n, n < 16 → hexV (f n) = n) : ∀ (ks : List Int), KBa.In ks → unhexI (figI f ks) = ks
  | [], _ => rfl
  | k :: r, h => by
    have ih := unhex_figI hf r fun x hx => h x (by simp [hx])
    have hk := h k (by simp)
    show unhexI (f (k.toNat / 16) :: f (k.toNat % 16) :: figI f r) = k :: r
    unfold unhexI
    rw [ih, hf _ (by omega), hf _ (by omega)]
    congr 1
    omega
theorem figI_good {f : Nat → Int} (hf : ∀ n, n < 16 → hexV (f n) = n) {ks : List Int} (h : KBa.In ks) : ∀ c ∈ figI f ks, hexV c < 16 := by
  intro c hc
  obtain ⟨k, hk, hc⟩ := List.mem_flatMap.mp hc
  have := h k hk
  simp only [List.mem_cons, List.not_mem_nil, or_false] at hc
  rcases hc with rfl | rfl
  · rw [hf _ (by omega)]; omega
  · rw [hf _ (by omega)]; omega
theorem hexI_figI (ks : List Int) : hexI ks = figI (fun n => (hx n : Int)) ks := by
  unfold hexI hexN figI
  rw [List.map_flatMap]
  rfl
/-- unhexlify of the letters, as octets -/
theorem c_unhex_bytes {prog : Program} {w : World} (ks : List Int) (t : Tok) (hr : KBa.In ks) (hl : ks.length ≤ 64) :
   Ans prog w (hd.heap_39 w.params) 85 6 48 [.bytes (byteArr (hexI ks)) t] (fun r => ∃ t', r = .bytes (byteArr ks) t') := by
  have hk : KBw.bInts (byteArr (hexI ks)) = hexI ks := KBa.ints_make (hexI_in hr)
  have h := c_unhex _ _ (c_a2b (prog := prog) (w := w) (hexI ks) ks.length _ _ (c_ascbuf_bytes (byteArr (hexI ks)) t) hk (hexI_len ks) hl (by rw [hexI_figI]; exact figI_good (fun n hn => hexV_hx hn) hr))
  rw [hexI_figI, unhex_figI (fun n hn => hexV_hx hn) ks hr, ← hexI_figI] at h
  exact h
/-- unhexlify of letters, as a text -/
theorem c_unhex_text {prog : Program} {w : World} (f : Nat → Nat) (hf : ∀ n, n < 16 → hexV (f n : Int) = n) (hf2 : ∀ n, n < 16 → f n < 128) (ks : List Int) (x : Str) (t : Tok) (hx : x.cps.toList.map (fun (n : Nat) => (n : Int)) = figI (fun n => (f n : Int)) ks) (hr : KBa.In ks) (hl : ks.length ≤ 64) :
   Ans prog w (hd.heap_39 w.params) 85 6 48 [.str x t] (fun r => ∃ t', r = .bytes (byteArr ks) t') := by
  have hlt : ∀ c ∈ x.cps.toList, c < 128 := by
    intro c hc
    have : (c : Int) ∈ figI (fun n => (f n : Int)) ks := by rw [← hx]; exact List.mem_map_of_mem hc
    obtain ⟨k, hk, hc⟩ := List.mem_flatMap.mp this
    have hb := hr k hk
    simp only [List.mem_cons, List.not_mem_nil, or_false] at hc
    have h1 := hf2 (k.toNat / 16) (by omega)
    have h2 := hf2 (k.toNat % 16) (by omega)
    omega
  have hlen : x.length = 2 * ks.length := by
    rw [← figI_len (fun n => (f n : Int)) ks, ← hx, List.length_map, Array.length_toList]
    rfl
  have hbi : KBw.bInts (x.cps.map (·.toUInt8)) = figI (fun n => (f n : Int)) ks := by
    rw [← hx]
    show List.map _ (Array.toList _) = _
    rw [Array.toList_map, List.map_map]
    refine List.map_congr_left fun c hc => ?_
    have := hlt c hc
    show (((UInt8.ofNat c).toNat : Nat) : Int) = c
    rw [UInt8.toNat_ofNat']
    omega
  have h := c_unhex _ _ (c_a2b (prog := prog) (w := w) _ ks.length _ _ (c_ascbuf_str x t hlt (by omega)) hbi (figI_len _ ks) hl (figI_good hf hr))
  rw [unhex_figI hf ks hr] at h
  exact h
end Mine
namespace Mine
open PyProof.Rows.LCg
local macro_rules | `(tactic| walk_at "pad 0") => `(tactic| fail)
local macro_rules | `(tactic| walk_at "pad 1") => `(tactic| fail)
theorem fresh_c6 : True := by
  w_top off
  k_with_none
  exact True.intro
local macro_rules | `(tactic| walk_at "eval ListComp") => `(tactic| (k_here; refine Stop.of ?_))
theorem c_ascii {prog : Program} {w : World} (x : Str) (t : Tok) (hl : x.length ≤ 128) (hg : ∀ c ∈ x.cps.toList, (48 ≤ c ∧ c ≤ 57) ∨ (97 ≤ c ∧ c ≤ 102)) :
   Ans prog w (hd.heap_39 w.params) 125 4 32 [.str x t] (fun r => ∃ t', r = .bytes (byteArr (x.cps.toList.map fun (n : Nat) => (n : Int))) t') := by
  have hb : Both PySem.Challenge.rw_dp5007_01 hd.heap_39 := by (k_fill; exact trivial)
  have ha : x.cps.all (· < 128) = true := by
    rw [Array.all_eq_true']
    intro c hc
    have := hg c (by simpa using hc)
    exact decide_eq_true (by omega)
  have hIn : KBa.In (x.cps.toList.map fun (n : Nat) => (n : Int)) := by
    intro n hn
    obtain ⟨c, hc, rfl⟩ := List.mem_map.mp hn
    have := hg c hc
    omega
  have hLn : (x.cps.toList.map fun (n : Nat) => (n : Int)).length ≤ 128 := by
    rw [List.length_map, Array.length_toList]
    exact hl
  unfold Ans
  intro p loose mean mg mb dp un gd cn cs a ccd cl outer A₀ base h₀ L m news s Q E B F X N T hck hd hu hret
  refine wpAny_call ?_
  k_dflt cell_enter
  k_steps
  refine Stop.on ?_
  rename Fr _ _ _ _ => lF'
  rename News _ _ _ _ => lN'
  k_dflt (refine' comp_text (xt := x) lF' rfl (by with_unfolding_all rfl) (by decide) (by rfl) (by decide) (by rfl) ha (Nat.le_trans hl (by decide)) ?body)
  case body =>
    k_dflt (refine' ld lF' (by exact rfl) ?_)
    refine ⟨_, _, rfl, lF', lN', fun g => ?_⟩
    refine sign_rest (fun c => (c : Int)) ?turn ?fin
    case turn =>
      intro c t' I' oI' C' oC' D' m' ys' h' tk' E' hc' hC' hx' F' N' off' ne' hMark'
      try simp only [LCg.Off3, and_true] at off'
      have h16 := hg c hc'
      have hc : c = 48 ∨ c = 49 ∨ c = 50 ∨ c = 51 ∨ c = 52 ∨ c = 53 ∨ c = 54 ∨ c = 55 ∨ c = 56 ∨ c = 57 ∨ c = 97 ∨ c = 98 ∨ c = 99 ∨ c = 100 ∨ c = 101 ∨ c = 102 := by omega
      clear h16
      rcases hc with rfl | rfl | rfl | rfl | rfl | rfl | rfl | rfl | rfl | rfl | rfl | rfl | rfl | rfl | rfl | rfl
      all_goals k_steps
      all_goals first
        | (refine kcf_el ?_ rfl rfl; decide +kernel)
        | (exfalso; (rename (Builtin.Str.occurrences _ _ _ _ _).isEmpty = true => hq); revert hq; decide +kernel)
    case fin =>
      intro ys hI
      unfold FinE
      intro D h1 tk1 F1 N1 o1
      clear lF' lN'
      try simp only [LCg.Off1, and_true] at o1
      k_steps
      all_goals exact hret _ _ _ ⟨_, rfl⟩ (by k_asm) (by exact cb_drop (by assumption) (fun _ h => List.Mem.tail _ h))
end Mine
namespace Mine
local macro_rules | `(tactic| walk_at "pad 0") => `(tactic| fail)
theorem fresh_c7 : True := by
  w_top off
  k_with_none
  exact True.intro
abbrev figS : Str := Str.ofString "0123456789abcdef"
abbrev figC : Str := Str.ofString "0123456789ABCDEF"
/-- the capital figure of a half of an octet -/
def hxC (n : Nat) : Nat := if n < 10 then 48 + n else 55 + n
theorem figS_at {n : Nat} (h : n < 16) : (Txt.charAt figS (n : Int)).getD 0 = hx n := by
  have : n = 0 ∨ n = 1 ∨ n = 2 ∨ n = 3 ∨ n = 4 ∨ n = 5 ∨ n = 6 ∨ n = 7 ∨ n = 8 ∨ n = 9 ∨ n = 10 ∨ n = 11 ∨ n = 12 ∨ n = 13 ∨ n = 14 ∨ n = 15 := by omega
  rcases this with rfl | rfl | rfl | rfl | rfl | rfl | rfl | rfl | rfl | rfl | rfl | rfl | rfl | rfl | rfl | rfl <;> decide +kernel
theorem figC_at {n : Nat} (h : n < 16) : (Txt.charAt figC (n : Int)).getD 0 = hxC n := by
  have : n = 0 ∨ n = 1 ∨ n = 2 ∨ n = 3 ∨ n = 4 ∨ n = 5 ∨ n = 6 ∨ n = 7 ∨ n = 8 ∨ n = 9 ∨ n = 10 ∨ n = 11 ∨ n = 12 ∨ n = 13 ∨ n = 14 ∨ n = 15 := by omega
  rcases this with rfl | rfl | rfl | rfl | rfl | rfl | rfl | rfl | rfl | rfl | rfl | rfl | rfl | rfl | rfl | rfl <;> decide +kernel
theorem hexV_hxC {n : Nat} (h : n < 16) : hexV (hxC n : Int) = n := by
  have : n = 0 ∨ n = 1 ∨ n = 2 ∨ n = 3 ∨ n = 4 ∨ n = 5 ∨ n = 6 ∨ n = 7 ∨ n = 8 ∨ n = 9 ∨ n = 10 ∨ n = 11 ∨ n = 12 ∨ n = 13 ∨ n = 14 ∨ n = 15 := by omega
  rcases this with rfl | rfl | rfl | rfl | rfl | rfl | rfl | rfl | rfl | rfl | rfl | rfl | rfl | rfl | rfl | rfl <;> decide
theorem hxC_lt {n : Nat} (h : n < 16) : hxC n < 128 := by unfold hxC; split <;> omega
theorem lets_ints {fig : Str} {f : Nat → Nat} (hf : ∀ n : Nat, n < 16 → (Txt.charAt fig (n : Int)).getD 0 = f n) {ks : List Int} (hr : KBa.In ks) :
    (lets fig ks).cps.toList.map (fun (n : Nat) => (n : Int)) = figI (fun n => (f n : Int)) ks := by
  unfold lets figI
  show List.map _ (List.flatMap _ ks) = _
  rw [List.map_flatMap]
  have key : ∀ l : List Int, KBa.In l → List.flatMap (fun b => List.map (fun (n : Nat) => (n : Int)) [(Txt.charAt fig (b.fdiv 16)).getD 0, (Txt.charAt fig (b.fmod 16)).getD 0]) l = List.flatMap (fun k => [(f (k.toNat / 16) : Int), (f (k.toNat % 16) : Int)]) l := by
    intro l
    induction l with
    | nil => intro _; rfl
    | cons k r ih =>
      intro h
      have hk := h k (by simp)
      rw [List.flatMap_cons, List.flatMap_cons, ih fun x hx => h x (by simp [hx])]
      have e1 : k.fdiv 16 = ((k.toNat / 16 : Nat) : Int) := by rw [Int.fdiv_eq_ediv_of_nonneg _ (by decide)]; omega
      have e2 : k.fmod 16 = ((k.toNat % 16 : Nat) : Int) := by rw [Int.fmod_eq_emod_of_nonneg _ (by decide)]; omega
      rw [e1, e2, hf _ (by omega), hf _ (by omega)]
      rfl
  exact key ks hr
theorem lets_small {ks : List Int} (hr : KBa.In ks) : (lets figS ks).cps.toList.map (fun (n : Nat) => (n : Int)) = hexI ks := by
  rw [hexI_figI]
  exact lets_ints (fun n hn => figS_at hn) hr
theorem hx_in {n : Nat} (h : n < 16) : (48 ≤ hx n ∧ hx n ≤ 57) ∨ (97 ≤ hx n ∧ hx n ≤ 102) := by unfold hx; split <;> omega
theorem lets_good {ks : List Int} (hr : KBa.In ks) : ∀ c ∈ (lets figS ks).cps.toList, (48 ≤ c ∧ c ≤ 57) ∨ (97 ≤ c ∧ c ≤ 102) := by
  intro c hc
  have h : (c : Int) ∈ hexI ks := by rw [← lets_small hr]; exact List.mem_map_of_mem hc
  rw [hexI_figI] at h
  obtain ⟨k, hk, h⟩ := List.mem_flatMap.mp h
  have hb := hr k hk
  have h1 := hx_in (n := k.toNat / 16) (by omega)
  have h2 := hx_in (n := k.toNat % 16) (by omega)
  simp only [List.mem_cons, List.not_mem_nil, or_false] at h
  omega
section
variable {prog : Program} {w : World} {A : Around} {E : Value → Shared → Prop} {s : Shared} {b : Array UInt8} {t u : Tok} {Q : Value → Shared → Prop}
theorem eq_same (h : Q (.bool true) s) : wpAny (model prog w) A (compareOp .Eq (.bytes b t) (.bytes b u)) Q E s := eq_bytes (by rw [beq_self_eq_true]; exact h)
theorem ne_same (h : Q (.bool false) s) : wpAny (model prog w) A (compareOp .NotEq (.bytes b t) (.bytes b u)) Q E s := ne_bytes (by rw [bne_self_eq_false]; exact h)
end
local macro_rules | `(tactic| walk_at "call ref") => `(tactic| (k_here; k_extra "my call"))
local macro_rules | `(tactic| walk_at "compareOp NotEq bytes bytes") => `(tactic| (k_here; refine ne_same ?_))
local macro_rules | `(tactic| walk_at "compareOp Eq bytes bytes") => `(tactic| (k_here; refine eq_same ?_))
theorem c_row {prog : Program} {w : World} (ks : List Int) (t : Tok) (hr : KBa.In ks) (hl : ks.length ≤ 64) :
   Ans prog w (hd.heap_39 w.params) 132 8 64 [.bytes (byteArr ks) t] (fun r => r = .bool true) := by
  have hb : Both PySem.Challenge.rw_dp5007_01 hd.heap_39 := by (k_fill; exact trivial)
  have hbk : KBw.bInts (byteArr ks) = ks := KBa.ints_make hr
  have hr2 := hexI_in hr
  have hz2 := hexI_len ks
  have hA1 : ∀ t t2, Ans prog w (hd.heap_39 w.params) 113 3 24 [.bytes (byteArr ks) t, .str figS t2] (fun r => ∃ t', r = .str (lets figS ks) t') := fun t t2 => c_letters ks _ _ t t2 (by decide +kernel) hbk hl
  have hA2 : ∀ t t2, Ans prog w (hd.heap_39 w.params) 113 3 24 [.bytes (byteArr ks) t, .str figC t2] (fun r => ∃ t', r = .str (lets figC ks) t') := fun t t2 => c_letters ks _ _ t t2 (by decide +kernel) hbk hl
  have hA3 : ∀ t, Ans prog w (hd.heap_39 w.params) 78 4 32 [.bytes (byteArr ks) t] (fun r => ∃ t', r = .bytes (byteArr (hexI ks)) t') := fun t => c_hexlify ks _ t hbk hl
  have hA4 : ∀ t, Ans prog w (hd.heap_39 w.params) 125 4 32 [.str (lets figS ks) t] (fun r => ∃ t', r = .bytes (byteArr (hexI ks)) t') := fun t => by
    have h := c_ascii (prog := prog) (w := w) (lets figS ks) t (by rw [lets_len]; omega) (lets_good hr)
    rw [lets_small hr] at h
    exact h
  have hA5 : ∀ t, Ans prog w (hd.heap_39 w.params) 85 6 48 [.bytes (byteArr (hexI ks)) t] (fun r => ∃ t', r = .bytes (byteArr ks) t') := fun t => c_unhex_bytes ks t hr hl
  have hA6 : ∀ t, Ans prog w (hd.heap_39 w.params) 85 6 48 [.str (lets figS ks) t] (fun r => ∃ t', r = .bytes (byteArr ks) t') := fun t => c_unhex_text hx (fun n hn => hexV_hx hn) (fun n hn => hx_lt hn) ks _ t (lets_ints (fun n hn => figS_at hn) hr) hr hl
  have hA7 : ∀ t, Ans prog w (hd.heap_39 w.params) 85 6 48 [.str (lets figC ks) t] (fun r => ∃ t', r = .bytes (byteArr ks) t') := fun t => c_unhex_text hxC (fun n hn => hexV_hxC hn) (fun n hn => hxC_lt hn) ks _ t (lets_ints (fun n hn => figC_at hn) hr) hr hl
  unfold Ans
  intro p loose mean mg mb dp un gd cn cs a ccd cl outer A₀ base h₀ L m news s Q E B F X N T hck hd hu hret
  refine wpAny_call ?_
  k_dflt cell_enter
  (k_with "my call" => (k_dflt (
    (first
      | refine' Ans.use (hA1 _ _) ?k1 ?k2 ?k3 ?k4 ?k5 ?kK ?kd ?ku ?_
      | refine' Ans.use (hA2 _ _) ?k1 ?k2 ?k3 ?k4 ?k5 ?kK ?kd ?ku ?_
      | refine' Ans.use (hA3 _) ?k1 ?k2 ?k3 ?k4 ?k5 ?kK ?kd ?ku ?_
      | refine' Ans.use (hA4 _) ?k1 ?k2 ?k3 ?k4 ?k5 ?kK ?kd ?ku ?_
      | refine' Ans.use (hA5 _) ?k1 ?k2 ?k3 ?k4 ?k5 ?kK ?kd ?ku ?_
      | refine' Ans.use (hA6 _) ?k1 ?k2 ?k3 ?k4 ?k5 ?kK ?kd ?ku ?_
      | refine' Ans.use (hA7 _) ?k1 ?k2 ?k3 ?k4 ?k5 ?kK ?kd ?ku ?_);
    (case k1 => k_asm); (case k2 => k_asm); (case k3 => k_asm); (case k4 => k_asm); (case k5 => k_asm); (case kK => first | assumption | exact rfl); (case kd => ktr_room); (case ku => ktr_units); k_whole; intro _ _ _ hr F' N'; (obtain ⟨_, e⟩ := hr); subst e; (try k_sweep); (try dsimp only); (try k_fold))))
  k_steps
  all_goals first | exact hret _ _ _ rfl (by k_asm) (by k_asm) | (exfalso; omega)
end Mine
namespace Mine
theorem arr_of_ints {b : Array UInt8} {ks : List Int} (hk : KBw.bInts b = ks) : b = byteArr ks := by
  subst hk
  apply Array.toList_inj.mp
  show b.toList = List.map _ (List.map _ b.toList)
  rw [List.map_map]
  refine ((List.map_congr_left (g := _root_.id) fun c _ => ?_).trans (List.map_id _)).symm
  show (((c.toNat : Nat) : Int).toNat).toUInt8 = c
  rw [Int.toNat_natCast]
  exact UInt8.ofNat_toNat
theorem c_row_of {prog : Program} {w : World} {b : Array UInt8} {t : Tok} {ks : List Int} (hk : KBw.bInts b = ks) (hl : ks.length ≤ 64) :
   Ans prog w (hd.heap_39 w.params) 132 8 64 [.bytes b t] (fun r => r = .bool true) := by
  rw [arr_of_ints hk]
  exact c_row ks t (ints_in' hk) hl
theorem take_len {L : List Int} {a b : Nat} (h : a ≤ 64) : ((L.drop b).take a).length ≤ 64 := by
  rw [List.length_take]; omega
end Mine
namespace Mine
open PyProof.Rows.LCg
section
variable {M : Model} {A : Around} {E : Value → Shared → Prop} {s : Shared} {h₀ : Heap} {L : Addr} {m : Str → Option Value} {news : List (Addr × Obj)}
/-- a list of one to 63 ints has been made -/
def ListGot (h₀ : Heap) (L : Addr) (m : Str → Option Value) (news : List (Addr × Obj)) (s : Shared) (v : Value) (s' : Shared) : Prop :=
  ∃ D vs ns c h' tk, v = .ref D ∧ s' = { s with heap := h', toks := tk } ∧ Fr h₀ L h' m ∧ News h₀ L h' ((D, W.listOf (List.toArray vs) c) :: news) ∧ (∀ q ∈ news, q.1 < D) ∧ IntsAre vs ns ∧ 0 < ns.length ∧ ns.length ≤ 63
theorem eval_ints {t : Sem Value} {Q : Value → Shared → Prop} (_F : Fr h₀ L s.heap m) (_N : News h₀ L s.heap news) (h1 : wpAny M A t (ListGot h₀ L m news s) E s)
    (h2 : ∀ D vs ns c h' tk, Fr h₀ L h' m → News h₀ L h' ((D, W.listOf (List.toArray vs) c) :: news) → (∀ q ∈ news, q.1 < D) → IntsAre vs ns → 0 < ns.length → ns.length ≤ 63 → Q (.ref D) { s with heap := h', toks := tk }) : wpAny M A t Q E s :=
  wpAny_mono h1 (fun _ _ ⟨D, vs, ns, c, h', tk, e1, e2, F', N', o, hi, h0, h63⟩ => by rw [e1, e2]; exact h2 D vs ns c h' tk F' N' o hi h0 h63) fun _ _ e => e
end
theorem in_cut {ks : List Int} (hr : KBa.In ks) (a b : Nat) : KBa.In ((ks.drop b).take a) := fun n hn => hr n (List.mem_of_mem_drop (List.mem_of_mem_take hn))
theorem in_drop {ks : List Int} (hr : KBa.In ks) (b : Nat) : KBa.In (ks.drop b) := fun n hn => hr n (List.mem_of_mem_drop hn)
theorem in_mod {ks : List Int} (f : Int → Int) : KBa.In (ks.map fun k => (f k).fmod 256) := fun n hn => by
  obtain ⟨k, _, rfl⟩ := List.mem_map.mp hn
  exact ⟨fmod_lo _ (by decide), fmod_hi _ (by decide)⟩
section
variable {prog : Program} {w : World} {A : Around} {E : Value → Shared → Prop} {s : Shared} {h₀ : Heap} {L : Addr} {m : Str → Option Value} {news : List (Addr × Obj)} {value slice : PySem.Expr}
/-- a cut of a row of octets -/
theorem slice_arr {ks : List Int} {t : Tok} {l u : Value} {lo hi : Option Int} {Q : Value → Shared → Prop} (hF : Fr h₀ L s.heap m) (hN : News h₀ L s.heap news) (hr : KBa.In ks) (hl : IsPart l lo) (hu : IsPart u hi) (hz : ks.length ≤ 16777216) {ms : List Int}
    (e : (ks.drop (lo.elim 0 (clipAt ks.length))).take (hi.elim ks.length (clipAt ks.length) - lo.elim 0 (clipAt ks.length)) = ms)
    (h : ∀ h' t' k, Fr h₀ L h' m → News h₀ L h' news → Q (.bytes (byteArr ms) t') { s with heap := h', toks := k })
    (hs : subscripted slice false (.bytes (byteArr ks) t) (.ref s.heap.objs.size) = operate [.ref s.heap.objs.size, .bytes (byteArr ks) t] (getItem (.bytes (byteArr ks) t) (.ref s.heap.objs.size)) := by with_unfolding_all rfl)
    (ht : ∀ r, letTemporaryGo value (.bytes (byteArr ks) t) r = pure () := by intro _; with_unfolding_all rfl) :
    wpAny (model prog w) A (subscriptTail value slice (.bytes (byteArr ks) t) (.ref s.heap.objs.size)) Q E { s with heap := s.heap.push { cls := .type "slice", data := .fields #[l, u, .none] } } := by
  refine KBc.slice_K hF hN (KBa.ints_make hr) hl hu hz (fun h' t' k F' N' hp => ?_) hs ht
  have q := h h' t' k F' N'
  rw [← e, ← arr_of_ints hp] at q
  exact q
/-- an item of a list at a remainder by its length -/
theorem item_mod {l : Addr} {vs : List Value} {ns : List Int} {k n : Int} {u : Tok} {Q : Value → Shared → Prop} (hl : s.heap.IsList l vs.toArray) (hi : IntsAre vs ns) (hn : n = (ns.length : Int)) (h0 : 0 < ns.length) (h63 : ns.length ≤ 63)
    (h : ∀ t', Q (.int (ns.getD (k.fmod n).toNat 0) t') s)
    (hs : subscripted slice false (.ref l) (.int (k.fmod n) u) = operate [.ref l, .int (k.fmod n) u] (getItem (.ref l) (.int (k.fmod n) u)) := by with_unfolding_all rfl) :
    wpAny (model prog w) A (subscriptTail value slice (.ref l) (.int (k.fmod n) u)) Q E s := by
  have hlo := fmod_lo k (n := n) (by omega)
  have hhi := fmod_hi k (n := n) (by omega)
  have hlt : (k.fmod n).toNat < vs.length := by rw [hi.length]; omega
  obtain ⟨x, t, hx, hn'⟩ := IntsAre.at hi (k.fmod n).toNat _ (List.getElem?_eq_getElem hlt)
  refine tail_any hl.typeIs slot_list_getitem.lookup (wpAny_getItem_list hl hlo (by omega) (x := .int x t) (by rw [← hx]; simp [hlt]) ?_) hs
  have e : ns.getD (k.fmod n).toNat 0 = x := by rw [List.getD_eq_getElem?_getD, hn']; rfl
  rw [← e]
  exact h t
/-- an item of a list in bounds -/
theorem item_in {l : Addr} {vs : List Value} {ns : List Int} {k : Int} {u : Tok} {Q : Value → Shared → Prop} (hl : s.heap.IsList l vs.toArray) (hi : IntsAre vs ns) (h0 : 0 ≤ k) (h1 : k < (ns.length : Int)) (h63 : ns.length ≤ 1000)
    (h : ∀ t', Q (.int (ns.getD k.toNat 0) t') s)
    (hs : subscripted slice false (.ref l) (.int k u) = operate [.ref l, .int k u] (getItem (.ref l) (.int k u)) := by with_unfolding_all rfl) :
    wpAny (model prog w) A (subscriptTail value slice (.ref l) (.int k u)) Q E s := by
  have hlt : k.toNat < vs.length := by rw [hi.length]; omega
  obtain ⟨x, t, hx, hn'⟩ := IntsAre.at hi k.toNat _ (List.getElem?_eq_getElem hlt)
  refine tail_any hl.typeIs slot_list_getitem.lookup (wpAny_getItem_list hl h0 (by omega) (x := .int x t) (by rw [← hx]; simp [hlt]) ?_) hs
  have e : ns.getD k.toNat 0 = x := by rw [List.getD_eq_getElem?_getD, hn']; rfl
  rw [← e]
  exact h t
theorem src_small {env : Env} {elt : PySem.Expr} {x : Str} {scope : Scope} {cl : List (Str × Addr)} {Fin : Shared → List Value → List (Addr × Obj) → Prop} {r : Addr} {e : Int} {t u v : Tok} (h0 : 0 ≤ e) (h1 : e < 41)
    (hh : A.handled = none) (F : Fr h₀ L s.heap m) (N : News h₀ L s.heap news) (hr : IsRange s.heap r 0 e 1 t u v) (g : Int → Int)
    (turn : ∀ gg k t I oI C oC D m₂ ys h tk (E' : Value → Shared → Prop), NsObj oC m₂ → m₂ x = some (.int k t) → Fr h₀ L h m → News h₀ L h ((I, oI) :: (C, oC) :: (D, lst ys) :: news) → Off3 I C D news → ((@Ne Nat I C) ∧ (@Ne Nat I D) ∧ (@Ne Nat C D)) → KPfMark → 0 ≤ k → k < 41 →
      wpAny (model prog w) A (eval elt (compEnvC scope cl C env)) (CompEnd h₀ L m { s with heap := h, toks := tk } I oI C oC D (lst ys) (fun _ => True) (fun y news' => KCfEl news (g k) y news')) E' { { s with heap := gg } with heap := h, toks := tk })
    (fin : ∀ gg ys, IntsAre ys ((rangeKs 0 e.toNat).map g) → Fin { s with heap := gg } ys news) : CompSrc prog w A h₀ L m env elt x scope cl Fin (.ref r) s := by
  refine CompSrc.range (n := e.toNat) hh F N hr (small_one (by decide) (by decide) (by omega) (by omega)) (by rw [rangeSize_nat]; congr 2; omega) (by rw [sizeLine_eq]; omega) fun gg => ?_
  refine kcf_range g (fun k t I oI C oC D m₂ ys h tk E' hlo hhi hC hx F' N' off ne mk => ?_) (fun ys hy => fin gg ys hy)
  exact turn gg k t I oI C oC D m₂ ys h tk E' hC hx F' N' off ne mk hlo (by omega)
theorem ne_int_same {a : Int} {t u : Tok} {Q : Value → Shared → Prop} (h : Q (.bool false) s) : wpAny (model prog w) A (compareOp .NotEq (.int a t) (.int a u)) Q E s := IsLeap.wpAny_ne_int (by rw [bne_self_eq_false]; exact h)
end
theorem c_row_cut {prog : Program} {w : World} {ks : List Int} {a b : Nat} {t : Tok} (hr : KBa.In ks) (h : a ≤ 64) :
   Ans prog w (hd.heap_39 w.params) 132 8 64 [.bytes (byteArr ((ks.drop b).take a)) t] (fun r => r = .bool true) :=
  c_row _ t (in_cut hr a b) (take_len h)
theorem news_drop2 {h₀ h : Heap} {L : Addr} {a b : Addr × Obj} {r : List (Addr × Obj)} (N : News h₀ L h (a :: b :: r)) : News h₀ L h r := fun p hp => N p (.tail _ (.tail _ hp))
theorem below_all {d : Addr} {l : List (Addr × Obj)} (h : AllLt d l) : ∀ q ∈ l, q.1 < d := by
  induction l with
  | nil => intro _ h; cases h
  | cons p r ih =>
    intro q hq
    rcases List.mem_cons.mp hq with rfl | hq
    · exact h.1
    · exact ih h.2 q hq
theorem short_len {f : Int → Int} {e : Int} (h1 : e < 41) : ((rangeKs 0 e.toNat).map f).length ≤ 64 := by
  rw [List.length_map, rangeKs_length]
  omega
section
variable {prog : Program} {w : World} {A : Around} {E : Value → Shared → Prop} {s : Shared} {h₀ : Heap} {L : Addr} {m : Str → Option Value} {news : List (Addr × Obj)}
theorem bytes_nil_K {l : Addr} {c : Nat} {Q : Value → Shared → Prop} (hh : A.handled = none) (F : Fr h₀ L s.heap m) (N : News h₀ L s.heap news) (hm : (l, W.listOf #[] c) ∈ news)
    (h : ∀ h' t' k, Fr h₀ L h' m → News h₀ L h' news → Q (.bytes #[] t') { s with heap := h', toks := k }) : wpAny (model prog w) A (call (.type "bytes") [.ref l]) Q E s :=
  KBa.make_K (vs := []) (ns := []) F N hh (News.isList N hm) IntsAre.nil (fun _ h => nomatch h) (by decide) fun h' t' k F' N' _ => h h' t' k F' N'
theorem news_drop3 {h : Heap} {a b c : Addr × Obj} {r : List (Addr × Obj)} (N : News h₀ L h (a :: b :: c :: r)) : News h₀ L h r := fun p hp => N p (.tail _ (.tail _ (.tail _ hp)))
end
end Mine
namespace Mine
theorem c_b2i {prog : Program} {w : World} (ms : List Int) (t : Tok) (hr : KBa.In ms) (h0 : 0 < ms.length) (hz : ms.length ≤ 1000) :
   Ans prog w (hd.heap_39 w.params) 92 2 16 [.bytes (byteArr ms) t] (fun r => ∃ t', r = .int (ms.getD 0 0) t') := by
  have hb : Both PySem.Challenge.rw_dp5007_01 hd.heap_39 := by (k_fill; exact trivial)
  have hbk : KBw.bInts (byteArr ms) = ms := KBa.ints_make hr
  unfold Ans
  intro p loose mean mg mb dp un gd cn cs a ccd cl outer A₀ base h₀ L m news s Q E B F X N T hck hd hu hret
  refine wpAny_call ?_
  k_dflt cell_enter
  k_steps
  all_goals exact hret _ _ _ ⟨_, rfl⟩ (by k_asm) (by k_asm)
theorem clip_in {n : Nat} {i : Int} (h0 : 0 ≤ i) (h1 : i < (n : Int)) : clipAt n i = i.toNat := by
  obtain ⟨k, rfl⟩ := Int.eq_ofNat_of_zero_le h0
  rw [clipAt_nat]
  omega
theorem c_b2i_cut {prog : Program} {w : World} {ks : List Int} {i : Int} {t : Tok} (hr : KBa.In ks) (h0 : 0 ≤ i) (h1 : i < (ks.length : Int)) (hz : ks.length ≤ 1000) :
   Ans prog w (hd.heap_39 w.params) 92 2 16 [.bytes (byteArr ((ks.drop (clipAt ks.length i)).take (ks.length - clipAt ks.length i))) t] (fun r => ∃ t', r = .int (ks.getD i.toNat 0) t') := by
  have e := clip_in h0 h1
  have h := c_b2i (prog := prog) (w := w) ((ks.drop (clipAt ks.length i)).take (ks.length - clipAt ks.length i)) t (in_cut hr _ _) (by rw [List.length_take, List.length_drop]; omega) (by rw [List.length_take, List.length_drop]; omega)
  have g : ((ks.drop (clipAt ks.length i)).take (ks.length - clipAt ks.length i)).getD 0 0 = ks.getD i.toNat 0 := by
    rw [List.take_of_length_le (by rw [List.length_drop]; omega), e, List.getD_eq_getElem?_getD, List.getElem?_drop, List.getD_eq_getElem?_getD, Nat.add_zero]
  rw [g] at h
  exact h
theorem c_hex_cut {prog : Program} {w : World} {ks : List Int} {a b : Nat} {t : Tok} (hr : KBa.In ks) (h : a = 8) (hb : b = 0) (hl : 8 ≤ ks.length) :
   Ans prog w (hd.heap_39 w.params) 78 4 32 [.bytes (byteArr ((ks.drop b).take a)) t] (fun r => ∃ Le t', r = .bytes (byteArr Le) t' ∧ KBa.In Le ∧ Le.length = 16) := by
  subst h
  subst hb
  have h := c_hexlify (prog := prog) (w := w) _ _ t (KBa.ints_make (in_cut hr 8 0)) (take_len (by decide))
  intro p loose mean mg mb dp un gd cn cs a ccd cl outer A₀ base h₀ L m news s Q E B F X N T hck hd hu hret
  refine Ans.use h B F X N T hck hd hu fun r h' tk' hr' F' N' => ?_
  obtain ⟨t', e⟩ := hr'
  refine hret r h' tk' ⟨_, t', e, hexI_in (in_cut hr 8 0), ?_⟩ F' N'
  rw [hexI_len, List.length_take, List.length_drop]
  omega
theorem c_hex_nil {prog : Program} {w : World} (t : Tok) : Ans prog w (hd.heap_39 w.params) 78 4 32 [.bytes #[] t] (fun r => ∃ t', r = .bytes #[] t') :=
  c_hexlify (prog := prog) (w := w) [] #[] t rfl (by decide)
theorem c_unhex_nil {prog : Program} {w : World} (t : Tok) : Ans prog w (hd.heap_39 w.params) 85 6 48 [.bytes #[] t] (fun r => ∃ t', r = .bytes #[] t') :=
  c_unhex _ _ (c_a2b (prog := prog) (w := w) [] 0 #[] _ (c_ascbuf_bytes #[] t) rfl rfl (by decide) (fun _ h => nomatch h))
end Mine
namespace Mine
local macro_rules | `(tactic| walk_at "pad 0") => `(tactic| fail)
theorem fresh_c10 : True := by
  w_top off
  k_with_none
  exact True.intro
local macro_rules | `(tactic| walk_at "call ref") => `(tactic| (k_here; (with_reducible show wpAny _ _ (call (Value.ref 64) [Value.int _ _]) _ _ _); k_dflt (refine' Ans.use (c_hexval _ _) ?k1 ?k2 ?k3 ?k4 ?k5 ?kK ?kd ?ku ?_; (case k1 => k_asm); (case k2 => k_asm); (case k3 => k_asm); (case k4 => k_asm); (case k5 => k_asm); (case kK => exact rfl); (case kd => ktr_room); (case ku => ktr_units); k_whole; intro _ _ _ hr F' N'; (obtain ⟨_, e⟩ := hr); subst e; (try k_sweep); (try dsimp only); (try k_fold))))
local macro_rules | `(tactic| walk_at "call ref") => `(tactic| (k_here; (with_reducible show wpAny _ _ (call (Value.ref 41) [_]) _ _ _); k_dflt (refine' Ans.use (f := 41) (by assumption) ?k1 ?k2 ?k3 ?k4 ?k5 ?kK ?kd ?ku ?_; (case k1 => k_asm); (case k2 => k_asm); (case k3 => k_asm); (case k4 => k_asm); (case k5 => k_asm); (case kK => exact rfl); (case kd => ktr_room); (case ku => ktr_units); k_whole; intro _ _ _ hr F' N'; (obtain ⟨_, e⟩ := hr); subst e; (try k_sweep); (try dsimp only); (try k_fold))))
local macro_rules | `(tactic| walk_at "exec While Compare") => `(tactic| (k_here; refine Stop.of ?_))
local macro_rules | `(tactic| walk_at "binaryOp LShift int int") => `(tactic| (k_here; (refine shl4 (hexV_nonneg _) (by omega) ?_)))
local macro_rules | `(tactic| walk_at "leaving ref") => `(tactic| (k_here; first
  | (refine' leave_raiseS ?below ?made ?fr ?led ?_; (case made => first | assumption | exact Heap.MadeExc.of (by assumption)); (case fr => assumption); (case below => assumption); (case led => k_asm); k_whole; intro h' t' S' R' U'; (try dsimp only at S' R' U' ⊢))
  | (refine' leave_onS ?below ?fr ?rai ?up ?_; (case rai => assumption); (case fr => assumption); (case below => assumption); (case up => assumption); k_whole; intro h' S' R' U'; (try dsimp only at S' R' U' ⊢))))
theorem odd_fmod {l n : Nat} (h : l = 2 * n + 1) : ¬ ((l : Nat) : Int).fmod 2 = 0 := by
  subst h
  rw [Int.fmod_eq_emod_of_nonneg _ (by decide)]
  omega
/-- letters of an odd number are refused -/
theorem c_a2b_odd {prog : Program} {w : World} (ds : List Int) (n : Nat) (b : Array UInt8) (v : Value) (hbuf : Ans prog w (hd.heap_39 w.params) 41 2 16 [v] (fun r => ∃ t', r = .bytes b t')) (hk : KBw.bInts b = ds) (hl : ds.length = 2 * n + 1) (hn : n ≤ 64) :
   Fails prog w (hd.heap_39 w.params) 71 4 32 [v] (.ref 31) := by
  have hb : Both PySem.Challenge.rw_dp5007_01 hd.heap_39 := by (k_fill; exact trivial)
  unfold Fails
  intro p loose mean mg mb dp un gd cn cs a ccd cl outer A₀ base h₀ L m news s Q E B F X N T hck hd hu hret
  refine wpAny_call ?_
  k_dflt cell_enter
  k_steps
  · (rename Fr h₀ L _ m => FG)
    exact hret _ _ _ _ _ _ (by assumption) (by assumption) (by assumption)
  · exact absurd (by assumption) (odd_fmod hl)
theorem bad_start {n : Nat} {ds : List Int} : (0 : Int) = 2 * (([] : List Int).length : Int) ∧ ([] : List Int).length ≤ n ∧ ∀ c ∈ ds.take (2 * ([] : List Int).length), hexV c < 16 := ⟨rfl, Nat.zero_le _, fun _ h => nomatch h⟩
theorem bad_step {n : Nat} {ds is : List Int} {i v : Int} (h1 : i = 2 * (is.length : Int)) (_h2 : is.length ≤ n) (h3 : ∀ c ∈ ds.take (2 * is.length), hexV c < 16) (hi : i < (ds.length : Int)) (hl : ds.length = 2 * n) (g1 : ¬ 16 ≤ hexV (ds.getD i.toNat 0)) (g2 : ¬ 16 ≤ hexV (ds.getD (i + 1).toNat 0)) :
    i + 2 = 2 * ((is ++ [v]).length : Int) ∧ (is ++ [v]).length ≤ n ∧ ∀ c ∈ ds.take (2 * (is ++ [v]).length), hexV c < 16 := by
  subst h1
  rw [List.length_append, List.length_cons, List.length_nil]
  refine ⟨by omega, by omega, ?_⟩
  intro c hc
  rw [show (2 * (is.length : Int)).toNat = 2 * is.length from by omega] at g1
  rw [show (2 * (is.length : Int) + 1).toNat = 2 * is.length + 1 from by omega] at g2
  obtain ⟨j, hj, rfl⟩ := List.mem_iff_getElem.mp hc
  rw [List.length_take] at hj
  rw [List.getElem_take]
  by_cases q : j < 2 * is.length
  · refine h3 _ (List.mem_iff_getElem.mpr ⟨j, by rw [List.length_take]; omega, ?_⟩)
    rw [List.getElem_take]
  · have hj2 : j = 2 * is.length ∨ j = 2 * is.length + 1 := by omega
    have hd : ∀ k (hk : k < ds.length), ds.getD k 0 = ds[k] := fun k hk => by rw [List.getD_eq_getElem?_getD, List.getElem?_eq_getElem hk]; rfl
    rcases hj2 with rfl | rfl
    · rw [hd _ (by omega)] at g1
      omega
    · rw [hd _ (by omega)] at g2
      omega
theorem bad_end {ds is : List Int} {i : Int} (h1 : i = 2 * (is.length : Int)) (h3 : ∀ c ∈ ds.take (2 * is.length), hexV c < 16) (hi : ¬ i < (ds.length : Int)) (hbad : ∃ c ∈ ds, 16 ≤ hexV c) : False := by
  rw [List.take_of_length_le (by omega)] at h3
  obtain ⟨c, hc, h⟩ := hbad
  have := h3 c hc
  omega
/-- a letter that is no figure is refused -/
theorem c_a2b_bad {prog : Program} {w : World} (ds : List Int) (n : Nat) (b : Array UInt8) (v : Value) (hbuf : Ans prog w (hd.heap_39 w.params) 41 2 16 [v] (fun r => ∃ t', r = .bytes b t')) (hk : KBw.bInts b = ds) (hl : ds.length = 2 * n) (hn : n ≤ 64) (hbad : ∃ c ∈ ds, 16 ≤ hexV c) :
   Fails prog w (hd.heap_39 w.params) 71 4 32 [v] (.ref 31) := by
  have hb : Both PySem.Challenge.rw_dp5007_01 hd.heap_39 := by (k_fill; exact trivial)
  unfold Fails
  intro p loose mean mg mb dp un gd cn cs a ccd cl outer A₀ base h₀ L m news s Q E B F X N T hck hd hu hret
  refine wpAny_call ?_
  k_dflt cell_enter
  k_steps
  rotate_left
  · refine Stop.on ?_
    rename Fr _ _ _ _ => lF'
    rename News _ _ _ _ => lN'
    with_unfolding_all refine' ksw_while (σ := Int × Tok × List Value × List Int × Nat) (fun c => (_, W.listOf c.2.2.1.toArray c.2.2.2.2) :: news) (fun c => [(Str.ofString "i", Value.int c.1 c.2.1)]) (fun c => IntsAre c.2.2.1 c.2.2.2.1) [Str.ofString "top", Str.ofString "bot"] (fun c => c.1 = 2 * (c.2.2.2.1.length : Int) ∧ c.2.2.2.1.length ≤ n ∧ ∀ x ∈ ds.take (2 * c.2.2.2.1.length), hexV x < 16) (fun c => n - c.2.2.2.1.length) (0, _, [], [], 0) lF' ?kn ?kf ?kk ?kp ?turn ?hE
    case kn => with_unfolding_all exact lN'
    case kf => exact IntsAre.nil
    case kk => kst_all
    case kp => exact bad_start
    case hE => exact PassesOwn.leaving
    intro c u h tk hFa hP F' N'
    obtain ⟨i, ti, vs, is, cnt⟩ := c
    obtain ⟨h1, h2, h3⟩ := hP
    dsimp only [kstB] at hFa F' N' h1 h2 h3 ⊢
    (k_with "state" => exact bad_step h1 h2 h3 (by assumption) hl (by assumption) (by assumption))
    (k_with "measure" => (simp only [List.length_append, List.length_cons, List.length_nil]; omega))
    k_steps
    all_goals first
      | exact hret _ _ _ _ _ _ (by assumption) (by assumption) (raised_drop (by assumption) (fun _ h => List.Mem.tail _ h))
      | exact (bad_end h1 h3 (by assumption) hbad).elim
  · exact absurd (even_fmod hl) (by assumption)
local macro_rules | `(tactic| walk_at "call ref") => `(tactic| (k_here; (with_reducible show wpAny _ _ (call (Value.ref 71) [_]) _ _ _); k_dflt (refine' Fails.use (f := 71) (by assumption) ?k1 ?k2 ?k3 ?k4 ?k5 ?kK ?kd ?ku ?_; (case k1 => k_asm); (case k2 => k_asm); (case k3 => k_asm); (case k4 => k_asm); (case k5 => k_asm); (case kK => exact rfl); (case kd => ktr_room); (case ku => ktr_units); k_whole; intro e' h' t' tk' msg' g' FG' U' R')))
theorem c_unhex_fails {prog : Program} {w : World} (v : Value) (ha : Fails prog w (hd.heap_39 w.params) 71 4 32 [v] (.ref 31)) :
   Fails prog w (hd.heap_39 w.params) 85 6 48 [v] (.ref 31) := by
  have hb : Both PySem.Challenge.rw_dp5007_01 hd.heap_39 := by (k_fill; exact trivial)
  unfold Fails
  intro p loose mean mg mb dp un gd cn cs a ccd cl outer A₀ base h₀ L m news s Q E B F X N T hck hd hu hret
  refine wpAny_call ?_
  k_dflt cell_enter
  k_steps
  all_goals exact hret _ _ _ _ _ _ (by assumption) (by assumption) (by assumption)
end Mine
namespace Mine
section
variable {prog : Program} {w : World} {A : Around} {E : Value → Shared → Prop} {s : Shared} {h₀ : Heap} {L : Addr} {m : Str → Option Value} {news : List (Addr × Obj)}
theorem new_wider {h h₁ h' : Heap} {e : Addr} {X : String} (hx : Heap.NewExc h₁ h' e X) (hk : ∀ b o, h.get? b = some o → h₁.get? b = some o) : Heap.NewExc h h' e X where
  keeps := fun b o q => hx.keeps b o (hk b o q)
  new := by
    cases q : h.get? e with
    | none => rfl
    | some o => have := hk e o q; rw [hx.new] at this; cases this
  there := hx.there
/-- the first item lies outside 0 .. 255 -/
theorem loop_out {R : Result → Shared → Prop} {l I S : Addr} {n : Int} {t : Tok} {vs : List Value} (hh : A.handled = none) (hr : n < 0 ∨ 256 ≤ n)
    (hl : s.heap.IsList l (Value.int n t :: vs).toArray) (hit : s.heap.IsListIter I l 0)
    (hR : ∀ h₁ h' tk e, (∀ b o, b ≠ I → s.heap.get? b = some o → h₁.get? b = some o) → Heap.NewExc h₁ h' e "ValueError" → R (.error (.ref e)) { s with heap := h', toks := tk }) :
    codeAny (model prog w) A (.builtin "bytes.__new__.loop" ⟨[.type "bytes", .ref I, .ref S], []⟩) R s := by
  refine codeAny_builtin F.bm_entry_loop ?_
  rw [Around.under_plainId F.bm_plain_loop _]
  show wpAny _ A.in1 (pyNext (.ref I) >>= _) _ _ s
  refine wpAny_bind (wpAny_pyNext_list_item (x := .int n t) hit hl (by simp) fun h' hit' hs => ?_)
  refine wpAny_bind (wpAny_holding (wpAny_of_eq (rfl : asIndex (.int n t) = pure n) ?_))
  refine wpAny_bind (wpAny_letGo ?_)
  refine bm_if_true (by simp only [Bool.or_eq_true, decide_eq_true_eq]; omega) ?_
  have hE : ∀ h'' tk e, Heap.NewExc h' h'' e "ValueError" → R (.error (.ref e)) { s with heap := h'', toks := tk } := fun h'' tk e x => hR h' h'' tk e (fun b o hb q => hs.extBut b o hb q) x
  first
    | exact wpAny_bind (wpAny_rule (by exact_raiseError plainExc_ValueError hh hE))
    | exact wpAny_bind (wpAny_rule (wpAny_bind (by exact_raiseError plainExc_ValueError hh hE)))
    | exact wpAny_bind (wpAny_bind (wpAny_rule (by exact_raiseError plainExc_ValueError hh hE)))
    | exact wpAny_rule (by exact_raiseError plainExc_ValueError hh hE)
theorem new_out {l : Addr} {n : Int} {t : Tok} {vs : List Value} {Q : Value → Shared → Prop} (hh : A.handled = none) (hl : s.heap.IsList l (Value.int n t :: vs).toArray) (hr : n < 0 ∨ 256 ≤ n)
    (hE : ∀ h' tk e, Heap.NewExc s.heap h' e "ValueError" → E (.ref e) { s with heap := h', toks := tk }) :
    codeAny (model prog w) A (.call (.builtin "bytes.__new__") ⟨[.type "bytes", .ref l], []⟩) (wants Q E) s := by
  refine codeAny_of_tree ?_
  show wpAny _ A.in1 (do checkBuiltinCall "bytes.__new__" ⟨[.type "bytes", .ref l], []⟩; again (.builtin "bytes.__new__" ⟨[.type "bytes", .ref l], []⟩)) _ _ s
  refine wpAny_bind (wpAny_of_eq (F.bm_newCall _) (wpAny_pure ⟨plainId_quiet F.bm_plain _, codeAny_builtin F.bm_entry ?_⟩))
  rw [Around.under_plainId F.bm_plain _]
  have hT : s.TypeIs (.ref l) "list" := hl.typeIs
  obtain ⟨ol, hol, hoc, nl, hod⟩ := id hl
  unfold Builtin.«bytes.__new__»
  refine wpAny_bind (wpAny_of_eq (a := true) rfl ?_)
  refine bm_if_false rfl ?_
  refine wpAny_bind (wpAny_of_eq F.bm_sub ?_)
  refine bm_if_false rfl ?_
  refine wpAny_bind (wpAny_of_eq (F.bm_bind _) ?_)
  refine wpAny_bind (wpAny_of_eq (a := ()) rfl ?_)
  refine wpAny_bind (wpAny_of_eq (a := ()) rfl ?_)
  refine bm_if_false rfl ?_
  refine wpAny_bind (wpAny_specialOf hT F.bm_no_bytes ?_)
  refine wpAny_bind (wpAny_bind ?_)
  show wpAny _ _ (load l >>= _) _ _ _
  refine wpAny_bind (wpAny_load hol ?_)
  rw [hod]
  refine wpAny_pure (wpAny_pure ?_)
  refine bm_if_false rfl ?_
  refine wpAny_bind (wpAny_specialOf hT F.bm_no_index ?_)
  refine bm_if_true rfl ?_
  first
    | show wpAny _ _ (Builtin.Bytes.buffer? "bytes.__new__" (.ref l) true >>= _) _ _ _
    | (refine wpAny_bind ?_; show wpAny _ _ (Builtin.Bytes.buffer? "bytes.__new__" (.ref l) true >>= _) _ _ _)
  refine wpAny_bind ?_
  unfold Builtin.Bytes.buffer?
  refine wpAny_bind (wpAny_specialOf hT F.bm_no_buffer ?_)
  refine wpAny_bind (wpAny_specialOf hT F.bm_no_buffer ?_)
  refine wpAny_pure ?_
  refine wpAny_bind (wpAny_tryCatch (wpAny_pyIter_list hl ?_))
  have hl₁ : (s.heap.push { cls := .type "list_iterator", data := .fields #[.ref l, .int 0 0] }).IsList l (Value.int n t :: vs).toArray := hl.push _
  have hT₁ : ({ s with heap := s.heap.push { cls := .type "list_iterator", data := .fields #[.ref l, .int 0 0] } } : Shared).TypeIs (.ref l) "list" := Heap.IsList.typeIs (s := { s with heap := s.heap.push { cls := .type "list_iterator", data := .fields #[.ref l, .int 0 0] } }) hl₁
  refine wpAny_bind (wpAny_holding ?_)
  unfold Builtin.Bytes.lengthHint
  refine wpAny_bind (wpAny_specialOf hT₁ slot_list_len.lookup ?_)
  dsimp only
  rw [F.bm_split]
  dsimp only
  refine wpAny_bind (wpAny_isInstance hT₁ F.bm_sub_list ?_)
  refine bm_if_false rfl ?_
  refine bm_if_true (by decide +kernel) ?_
  refine wpAny_pure ?_
  refine wpAny_bind ?_
  unfold Builtin.Bytes.newBytearray
  refine wpAny_newObj_type ?_ (Nat.zero_le _)
  have hI : ((s.heap.push { cls := .type "list_iterator", data := .fields #[.ref l, .int 0 0] }).push { cls := .type "bytearray", data := .bytearray #[] }).IsListIter s.heap.objs.size l 0 :=
    ⟨_, Heap.get?_push_of_some _ (Heap.get?_push_size _ rfl), rfl, rfl⟩
  have main := loop_out (prog := prog) (w := w) (A := A) (R := wants Q E) (l := l) (I := s.heap.objs.size) (S := (s.heap.push { cls := .type "list_iterator", data := .fields #[.ref l, .int 0 0] }).objs.size) (vs := vs)
    (s := { s with heap := (s.heap.push { cls := .type "list_iterator", data := .fields #[.ref l, .int 0 0] }).push { cls := .type "bytearray", data := .bytearray #[] } }) hh hr (hl₁.push _) hI
    fun h₁ h' tk e hk hx => hE h' tk e (new_wider hx fun b o q => hk b o (Nat.ne_of_lt (Heap.lt_size q)) (Heap.get?_push_of_some _ (Heap.get?_push_of_some _ q)))
  first
    | exact wpAny_pure ⟨plainId_quiet F.bm_plain_loop _, main⟩
    | exact wpAny_pure (wpAny_pure ⟨plainId_quiet F.bm_plain_loop _, main⟩)
/-- bytes() of a list whose first item is no byte -/
theorem bytes_out {l : Addr} {n : Int} {t : Tok} {vs : List Value} {Q : Value → Shared → Prop} (hh : A.handled = none) (hl : s.heap.IsList l (Value.int n t :: vs).toArray) (hr : n < 0 ∨ 256 ≤ n)
    (hE : ∀ h' tk e, Heap.NewExc s.heap h' e "ValueError" → E (.ref e) { s with heap := h', toks := tk }) : wpAny (model prog w) A (call (.type "bytes") [.ref l]) Q E s :=
  callType_codes (Q₁ := fun obj s₁ => False) F.bm_called (F.bm_typeCall _) F.entry_object_init (new_out hh hl hr hE) fun obj s₁ h₁ => h₁.elim
end
end Mine
namespace Mine
theorem c_unhex_odd {prog : Program} {w : World} (b : Array UInt8) (t : Tok) (ds : List Int) (hk : KBw.bInts b = ds) (hl : ds.length = 15) :
   Fails prog w (hd.heap_39 w.params) 85 6 48 [.bytes b t] (.ref 31) := c_unhex_fails _ (c_a2b_odd ds 7 b _ (c_ascbuf_bytes b t) hk hl (by decide))
theorem c_unhex_bad {prog : Program} {w : World} (b : Array UInt8) (t : Tok) (ds : List Int) (hk : KBw.bInts b = ds) (hl : ds.length = 16) (hbad : ∃ c ∈ ds, 16 ≤ hexV c) :
   Fails prog w (hd.heap_39 w.params) 85 6 48 [.bytes b t] (.ref 31) := c_unhex_fails _ (c_a2b_bad ds 8 b _ (c_ascbuf_bytes b t) hk hl (by decide) hbad)
theorem menu_bad {l : List Int} {i : Nat} {d : Int} (h : (d :: l).all (fun k => decide (16 ≤ hexV k)) = true) : 16 ≤ hexV (l.getD i d) := by
  rw [List.all_eq_true] at h
  have h' : ∀ k ∈ d :: l, 16 ≤ hexV k := fun k hk => of_decide_eq_true (h k hk)
  rw [List.getD_eq_getElem?_getD]
  cases q : l[i]? with
  | none => exact h' _ (.head _)
  | some x => exact h' _ (.tail _ (List.mem_of_getElem? q))
end Mine
namespace Mine
section
variable {prog : Program} {w : World} {A : Around} {E : Value → Shared → Prop} {s : Shared}
theorem in_app {as bs : List Int} (ha : KBa.In as) (hb : KBa.In bs) : KBa.In (as ++ bs) := fun n hn => (List.mem_append.mp hn).elim (ha n) (hb n)
/-- two rows of octets, one behind the other -/
theorem add_arr {as bs : List Int} {t u : Tok} {Q : Value → Shared → Prop} (ha : KBa.In as) (hb : KBa.In bs) (hz : as.length + bs.length ≤ 16777216)
    (h : ∀ t' k, KBa.In (as ++ bs) → Q (.bytes (byteArr (as ++ bs)) t') { s with toks := k }) : wpAny (model prog w) A (binaryOp .Add (.bytes (byteArr as) t) (.bytes (byteArr bs) u)) Q E s :=
  KBa.add_K (KBa.ints_make ha) (KBa.ints_make hb) hz fun t' k hp => by
    have q := h t' k (in_app ha hb)
    rw [← arr_of_ints hp] at q
    exact q
end
theorem add_z1 {Le : List Int} (h : Le.length = 16) {a b : Nat} {c : Int} : ((Le.drop b).take a).length + [c].length ≤ 16777216 := by
  rw [List.length_take, List.length_drop, h, List.length_cons, List.length_nil]
  omega
theorem add_z2 {Le : List Int} (h : Le.length = 16) {a b a' b' : Nat} {c : Int} : ((Le.drop b).take a ++ [c]).length + ((Le.drop b').take a').length ≤ 16777216 := by
  rw [List.length_append, List.length_take, List.length_drop, List.length_take, List.length_drop, h, List.length_cons, List.length_nil]
  omega
theorem bad_len {Le : List Int} (h : Le.length = 16) {p c : Int} (h0 : 0 ≤ p) (h1 : p < 16) :
    ((((Le.drop ((none : Option Int).elim 0 (clipAt Le.length))).take ((some p).elim Le.length (clipAt Le.length) - (none : Option Int).elim 0 (clipAt Le.length))) ++ [c]) ++ ((Le.drop ((some (p + 1)).elim 0 (clipAt Le.length))).take ((none : Option Int).elim Le.length (clipAt Le.length) - (some (p + 1)).elim 0 (clipAt Le.length)))).length = 16 := by
  simp only [Option.elim]
  rw [List.length_append, List.length_append, List.length_take, List.length_drop, List.length_take, List.length_drop, h, List.length_cons, List.length_nil]
  have e1 := clipAt_cast 16 p
  have e2 := clipAt_cast 16 (p + 1)
  rw [if_neg (by omega)] at e1 e2
  omega
theorem bad_in {as bs : List Int} {c : Int} (h : 16 ≤ hexV c) : ∃ x ∈ (as ++ [c]) ++ bs, 16 ≤ hexV x := ⟨c, List.mem_append_left _ (List.mem_append_right _ (.head _)), h⟩
end Mine
namespace Mine
theorem memX {name : Str} {scope : Scope} {L a b : Addr} {cd : Value} {cl : List (Str × Addr)} {outer : List Env} (hm : b ∈ (envX name scope L a cd cl :: outer).filterMap (·.frame)) : b = L ∨ b ∈ outer.filterMap (·.frame) := by
  obtain ⟨env, he, hf⟩ := List.mem_filterMap.mp hm
  rcases List.mem_cons.mp he with rfl | he
  · exact .inl (Option.some.inj hf).symm
  · exact .inr (List.mem_filterMap.mpr ⟨env, he, hf⟩)
section
variable {M : Model} {A : Around} {E : Value → Shared → Prop} {s' : Shared} {base g g₂ : Heap} {outer : List Env} {L a e t : Addr} {m : Str → Option Value} {name : Str} {scope : Scope} {cd : Value} {cl : List (Str × Addr)} {Q : Unit → Shared → Prop} {news : List (Addr × Obj)}
theorem offX {B : Heap} (F : Fr g L g₂ m) (hBG : ∀ b o, g₂.get? b = some o → b ∉ (envX name scope L a cd cl :: outer).filterMap (·.frame) → B.get? b = some o) :
    ∀ b o, g.get? b = some o → b ∉ outer.filterMap (·.frame) → B.get? b = some o := fun b o q nm =>
  hBG b o (F.keep b o q) fun hm => (memX hm).elim (fun z => by rw [z, kts_self F] at q; cases q) nm
/-- a lambda's frame is left by a raise from below -/
theorem leave_onX {cls : Value} {vs : List Value} (K : Below A base outer g) (F : Fr g L g₂ m) (R : RaisedS base g₂ (envX name scope L a cd cl :: outer) e cls t vs news s'.heap) (hsm : g₂.UpToSlots s'.heap)
    (hQ : ∀ h', RaisedS base g outer e cls t vs news h' → g.UpToSlots h' → Q () { s' with heap := h' }) :
    wpAny M (A.deeper (envX name scope L a cd cl)) (leaving (envX name scope L a cd cl) (.ref e)) Q E s' := by
  obtain ⟨⟨B, hB, hBG, hl, hfl, hnew⟩, htup⟩ := R
  exact wpAny_leaves_onW (Around.frames_deeper K.stack) rfl hfl fun h' x1 x2 =>
    hQ h' ⟨⟨B, hB, offX F hBG, fun q hq => ⟨(hl q hq).1, kts_none F.keep (hl q hq).2.1, (hl q hq).2.2⟩, x1, hnew⟩, htup.of_slots x2⟩ ((Heap.UpToSlots.of_keeps F.keep).trans (hsm.trans x2))
theorem leave_onXN {cls : Value} (K : Below A base outer g) (F : Fr g L g₂ m) (R : RaisedSN base g₂ (envX name scope L a cd cl :: outer) e cls news s'.heap) (hsm : g₂.UpToSlots s'.heap)
    (hQ : ∀ h', RaisedSN base g outer e cls news h' → g.UpToSlots h' → Q () { s' with heap := h' }) :
    wpAny M (A.deeper (envX name scope L a cd cl)) (leaving (envX name scope L a cd cl) (.ref e)) Q E s' := by
  obtain ⟨B, a0, hB, hBG, hl, hfl⟩ := R
  exact wpAny_leaves_onW (Around.frames_deeper K.stack) rfl hfl fun h' x1 x2 =>
    hQ h' ⟨B, a0, hB, offX F hBG, fun q hq => ⟨(hl q hq).1, kts_none F.keep (hl q hq).2.1, (hl q hq).2.2⟩, x1⟩ ((Heap.UpToSlots.of_keeps F.keep).trans (hsm.trans x2))
end
/-- behind a call that caught: the frame below is as it was, but for its slots -/
theorem back_from {fs : List Addr} {h₀ g g' h : Heap} {L L' : Addr} {m m' : Str → Option Value} {news : List (Addr × Obj)} (FG : Fr h₀ L g m) (T : KtsTurn fs g g') (hfs : ∀ b ∈ fs, b = L) (F : Fr g' L' h m') (N : News g' L' h news) : Fr h₀ L h m ∧ News h₀ L h news := by
  have nL := kts_self FG
  obtain ⟨oL, es, ep, hL, hd, hk, hf⟩ := FG.ns
  obtain ⟨sl, hs⟩ := T.up hL
  refine ⟨⟨⟨_, es, ep, F.keep _ _ hs, hd, hk, hf⟩, ?_, FG.above⟩, ?_⟩
  · intro b o e
    refine F.keep b o (T.other b o (FG.keep b o e) fun q => ?_)
    rw [hfs b q, nL] at e
    cases e
  · intro p hp
    obtain ⟨n1, _, n3⟩ := N p hp
    refine ⟨n1, fun q => ?_, ?_⟩
    · rw [q, hs] at n3
      cases n3
    · cases q : h₀.get? p.1 with
      | none => rfl
      | some o =>
        obtain ⟨_, hs'⟩ := T.up (FG.keep _ _ q)
        rw [hs'] at n3
        cases n3
section
variable {prog : Program} {w : World} {A₀ A : Around} {s : Shared} {base h₀ : Heap} {env : Env} {L : Addr} {m : Str → Option Value} {news : List (Addr × Obj)} {K : Frag} {p : Program} {loose : List Str} {mean : ExcName → Option Value} {mg mb : Str → Option Value}
    {R : Result → Shared → Prop} {name qual : Str} {params : Arguments} {body : List Stmt} {scope : Scope} {dV kV doc pm cdv ct oc : Value} {an od : Option Addr} {osl : Array (Option Value)} {f : Addr} {args : Args} {binds : List (Str × Value)}
/-- a def of the text's own that catches, called from the lowest frame, be it one with cells -/
theorem code_trysX (B : Below A₀ base [] h₀) (F : Fr h₀ L s.heap m) (X₀ : K.In h₀) (N : News h₀ L s.heap news) (T : Top p loose mean mg mb h₀) (hA : A.frames = some [env]) (hf : env.frame = some L) (hke : env.scope.kind = .function)
    (ho : K.lookup f = some ⟨oc, od, .func (fnOf name qual params body scope dV kV doc pm an cdv ct), osl⟩) (hcd : codeIn K cdv qual = true) (hroom : A.depth < recursionLimit)
    (hbind : BindsTo s (fnOf name qual params body scope dV kV doc pm an cdv ct) args binds) (hloc : ∀ y ∈ binds, scope.names.lookup y.1 = some .local)
    (h : ∀ g L' h₁, Fr h₀ L g m → Fr g L' h₁ (fun y => binds.reverse.lookup y) → News g L' h₁ news → Below A base [env] g → K.In g → Top p loose mean mg mb g → KtsDicts ([env].filterMap (·.frame)) g →
      wpAny (model prog w) (A.deeper (envOf qual scope L' f cdv)) (execs body (envOf qual scope L' f cdv))
        (fun fl s' => LeaveS0 ([env].filterMap (·.frame)) h₀ L m g R (match fl with | .ret v => v | _ => .none) s')
        (fun e s' => wpAny (model prog w) (A.deeper (envOf qual scope L' f cdv)) (leaving (envOf qual scope L' f cdv) e) (fun _ s'' => R (.error e) s'') (fun e' s'' => R (.error e') s'') s')
        { s with heap := h₁, toks := s.toks + binds.length })
    (hco : scope.isCoroutine = false) (hgen : scope.isGenerator = false) (hk : scope.kind = .function) (hcell : ∀ x ∈ scope.names, x.2 ≠ .cell) : codeAny (model prog w) A (.call (.ref f) args) R s := by
  have one : ∀ b ∈ [env].filterMap (·.frame), b = L := fun b hb => by
    simp only [List.filterMap_cons, List.filterMap_nil, hf, List.mem_singleton] at hb
    exact hb
  obtain ⟨FG, BG, st, _⟩ := groundX (R := R) B F N hA hf hke
  have XH := X₀.keeps F.keep
  refine codeAny_call_def hroom (XH _ _ ho) rfl (T.nolimit.keeps F.keep) (codeRec_of XH hcd) rfl hbind hcell hloc (fun h₁ ns kp => ?_) hco hgen hk
  have fresh : ∀ q ∈ news, q.1 ≠ s.heap.objs.size := fun q hq => Nat.ne_of_lt (Heap.lt_size (N q hq).1)
  refine wpAny_mono (h _ _ h₁ FG ⟨ns, fun b o e => kp b o (of_hideAll _ e), Nat.le_of_eq (hideAll_size _ _)⟩ (fun q hq => ⟨kp _ _ (N q hq).1, fresh q hq, hideAll_none _ (List.mem_map_of_mem hq)⟩) BG (X₀.keeps st) (T.keeps st) fun b hb => ?_) (fun fl s' hl => ?_) fun _ _ y => y
  · obtain ⟨oL, es, ep, hL, hd, _⟩ := FG.ns
    rw [one b hb]
    exact ⟨oL, es, ep, hL, hd⟩
  · obtain ⟨g', L', m', news', T', F', N', k⟩ := hl
    obtain ⟨F₂, N₂⟩ := back_from FG T' one F' N'
    exact k F₂ N₂
end
end Mine
namespace Mine
theorem none_raised (l : List Int) : ∀ ct : ExcName × WTm, ct ∈ Challenge.rw_dp5007_01.row.raises → WTm.holds Challenge.rw_dp5007_01.row.records ct.snd { args := [ofPy (PyData.list (List.map PyData.int l))] } = false := by
  wrow_none_raised
theorem true_told (l : List Int) : Challenge.rw_dp5007_01.row.claim.post [ofPy (PyData.list (List.map PyData.int l))] (WData.bool true) [ofPy (PyData.list (List.map PyData.int l))] = true := by
  kc_post
end Mine
namespace Mine
local macro_rules | `(tactic| walk_at "pad 0") => `(tactic| fail)
theorem fresh_w3 : True := by
  w_top off
  k_with_none
  exact True.intro
local macro_rules | `(tactic| walk_at "call ref") => `(tactic| (k_here; (with_reducible show wpAny _ _ (call (Value.ref 78) [_]) _ _ _); refine Stop.of ?_))
local macro_rules | `(tactic| walk_at "call ref") => `(tactic| (k_here; (with_reducible show wpAny _ _ (call (Value.ref 85) [_]) _ _ _); refine Stop.of ?_))
local macro_rules | `(tactic| walk_at "call ref") => `(tactic| (k_here; (with_reducible show wpAny _ _ (call (Value.ref 99) [_]) _ _ _); (rename StopMark 9 => sm); clear sm; refine Stop.of ?_))
local macro_rules | `(tactic| walk_at "call ref") => `(tactic| (k_here; k_extra "my call"))
local macro_rules | `(tactic| walk_at "compareOp NotEq bytes bytes") => `(tactic| (k_here; k_dflt (refine ne_same ?_)))
local macro_rules | `(tactic| walk_at "compareOp Eq bytes bytes") => `(tactic| (k_here; refine eq_same ?_))
local macro_rules | `(tactic| walk_at "call type:list") => `(tactic| (k_here; (with_reducible show wpAny _ _ (call (Value.type "list") [Value.bytes _ _]) _ _ _); k_dflt (refine' list_bytes_K ?kh ?F ?N ?kb ?kn ?_; (case kh => rfl); (case F => k_asm); (case N => k_asm); (case kb => first | kba_ints | exact rfl); (case kn => first | (simp only [List.length_map, rangeKs_length]; decide) | decide)); intro D' ys c' h' tk' F' N' l1 hI'; (first | ((rename StopMark 10 => sm10); (k_lt l1)) | clear l1); (try k_sweep)))
local macro_rules | `(tactic| walk_at "call builtin:iter") => `(tactic| (k_here; (with_reducible show wpAny _ _ (call (Value.builtin "iter") [Value.ref _]) _ _ _); k_dflt (refine' iter_list_K ?F ?N ?l ?_; (case F => k_asm); (case N => k_asm); (case l => is_list)); intro I' h' F' N' l1; (try k_lt l1); (try k_sweep)))
local macro_rules | `(tactic| walk_at "call type:bytes") => `(tactic| (k_here; (with_reducible show wpAny _ _ (call (Value.type "bytes") [Value.ref _]) _ _ _); k_dflt (refine' bytes_iter_K ?kh ?F ?N ?l ?i ?r ?z ?o ?_; (case N => k_asm); (case kh => rfl); (case F => k_asm); (case l => is_list); (case i => kba_listInts); (case r => assumption); (case z => (simp only [List.length_map, rangeKs_length]; decide)); (case o => k_all)); intro h' t' k' F' N'; (try k_sweep)))
local macro_rules | `(tactic| walk_at "subscriptTail") => `(tactic| (k_here; (with_reducible show wpAny _ _ (subscriptTail _ (Expr.Slice _ _ none _) (Value.bytes (byteArr _) _) (Value.ref _)) _ _ _); (with_reducible rename Fr _ _ _ _ => F'); (with_reducible rename News _ _ _ _ => N'); (refine slice_arr (s := ⟨_, _, _, _, _⟩) F' N' (by assumption) (by constructor) (by constructor) (by omega) rfl ?_); intro _ _ _ F' N'; (try k_sweep)))
local macro_rules | `(tactic| walk_at "eval IfExp") => `(tactic| (k_here; (rename StopMark 5 => sm); clear sm; refine Stop.of ?_))
local macro_rules | `(tactic| walk_at "exec For Name Call cons nil") => `(tactic| (k_here; (rename StopMark 1 => sm); clear sm; refine Stop.of ?_))
local macro_rules | `(tactic| walk_at "CompSrc") => `(tactic| (k_here; (rename StopMark 2 => sm); clear sm; refine Stop.of ?_))
local macro_rules | `(tactic| walk_at "UnrEnd") => `(tactic| (k_here; with_unfolding_all (refine' UnrEnd.intro ?F ?N _ (fun p hp => hp) ?o ?_; (case N => assumption); (case F => assumption); (case o => k_all))))
local macro_rules | `(tactic| walk_at "subscriptTail Name BinOp ref int") => `(tactic| (k_here; k_extra "xs item"))
local macro_rules | `(tactic| walk_at "compareOp NotEq int int") => `(tactic| (k_here; k_dflt (refine ne_int_same ?_)))
local macro_rules | `(tactic| walk_at "subscriptTail Name Constant ref int") => `(tactic| (k_here; k_extra "xs item"))
local macro_rules | `(tactic| walk_at "call type:bytes") => `(tactic| (k_here; (with_reducible show wpAny _ _ (call (Value.type "bytes") [Value.ref _]) _ _ _); k_dflt (refine' bytes_nil_K ?kh ?F ?N ?m ?_; (case N => k_asm); (case kh => rfl); (case F => k_asm); (case m => first | exact List.Mem.head _ | k_mem | assumption)); intro h' t' k' F' N'; (try k_sweep)))
local macro_rules | `(tactic| walk_at "exec If") => `(tactic| (k_here; (rename StopMark 7 => sm); clear sm; refine Stop.of ?_))
local macro_rules | `(tactic| walk_at "call ref") => `(tactic| (k_here; k_extra "my fail"))
local macro_rules | `(tactic| walk_at "binaryOp Add bytes bytes") => `(tactic| (k_here; k_extra "my add"))
local macro_rules | `(tactic| walk_at "leaving ref") => `(tactic| (k_here; first | (refine' leave_onX ?k1 ?k2 ?k3 ?k4 ?_; (case k3 => assumption); (case k1 => assumption); (case k4 => assumption); (case k2 => assumption); k_whole; intro h' R' U'; (try dsimp only at R' U' ⊢)) | (refine' leave_onXN ?k1 ?k2 ?k3 ?k4 ?_; (case k3 => assumption); (case k1 => assumption); (case k4 => assumption); (case k2 => assumption); k_whole; intro h' R' U'; (try dsimp only at R' U' ⊢))))
local macro_rules | `(tactic| walk_at "call ref") => `(tactic| (k_here; (with_reducible show wpAny _ _ (call (Value.ref 120) [_]) _ _ _); k_dflt (refine wpAny_call ?_; (refine' code_trysX ?k1 ?k2 ?k3 ?k4 ?k5 ?kA ?kF ?kK ?k6 ?k7 ?k8 ?k9 ?kB ?_ ?c2 ?c3 ?c4 ?c5; (case kA => exact rfl); (case kF => exact rfl); (case kK => exact rfl); (case k2 => k_asm); (case k1 => k_asm); (case k3 => k_asm); (case k4 => k_asm); (case k5 => k_asm); (case k6 => k_is); (case k7 => k_is); (case k8 => k_room); (case k9 => exact BindsTo.of_eq rfl); (case kB => exact locs rfl); (case c2 => exact rfl); (case c3 => exact rfl); (case c4 => exact rfl); (case c5 => decide); k_whole; intro g' L' h' FG' F' N' B' X' T' D'; (try dsimp only); (try k_lift B'); (try k_fold)))))
local macro_rules | `(tactic| walk_at "subscriptTail") => `(tactic| (k_here; (with_reducible show wpAny _ _ (subscriptTail (Expr.Tuple _ _ _) _ (Value.ref _) (Value.int _ _)) _ _ _); with_unfolding_all (refine' item_anyT ?k1 ?k2 ?k3 ?k4 ?k5 ?_; (case k1 => exact News.isTup (by k_asm) (by k_mem)); (case k2 => l_ints); (case k3 => exact fmod_lo _ (by decide)); (case k4 => exact fmod_hi _ (by decide)); (case k5 => exact Int.lt_trans (fmod_hi _ (by decide)) (by decide)); k_whole); intro _))
theorem menu_in {l : List Int} {i : Nat} {d : Int} (h : (d :: l).all (fun k => decide ((0 : Int) ≤ k) && decide (k ≤ 255)) = true) : KBa.In [l.getD i d] := fun n hn => by
  rw [List.mem_singleton.mp hn]
  exact ⟨KBe.menu_lo h, KBe.menu_hi h⟩
local macro_rules | `(tactic| walk_at "call type:bytes") => `(tactic| (k_here; (with_reducible show wpAny _ _ (call (Value.type "bytes") [Value.ref _]) _ _ _); k_dflt (refine' KBa.make_K ?F ?N ?hh ?l ?i ?r ?n ?_; (case F => k_asm); (case N => k_asm); (case hh => rfl); (case l => kba_isList); (case i => kba_listInts); (case r => exact menu_in (by decide)); (case n => kba_size)); intro _ _ _ F' N' kbaIn))
theorem out_hi {x : Int} (h : 0 ≤ x) : 256 + x < 0 ∨ 256 ≤ 256 + x := by omega
theorem out_lo {x : Int} (h : 0 ≤ x) : -1 - x < 0 ∨ 256 ≤ -1 - x := by omega
local macro_rules | `(tactic| walk_at "call type:bytes") => `(tactic| (k_here; (with_reducible show wpAny _ _ (call (Value.type "bytes") [Value.ref _]) _ _ _); k_dflt (refine' bytes_out ?kh ?l ?r ?_; (case kh => rfl); (case l => is_list); (case r => first | exact out_hi (by assumption) | exact out_lo (by assumption))); intro h' tk' e' x'))
theorem walk : PySem.Challenge.rw_dp5007_01.Holds := hd (by
  k_go0
  all_goals try k_fold
  have sm := stopMark 5
  k_steps
  refine Stop.on ?_
  rename Fr _ _ _ _ => lF'
  rename News _ _ _ _ => lN'
  refine eval_ints lF' lN' ?xsGot ?xsOn
  case xsGot =>
    k_steps
    · exact ⟨_, _, _, _, _, _, rfl, rfl, by assumption, by assumption, below_all (by simp only [AllLt, and_true]; assumption), by assumption, by omega, by omega⟩
    · exact ⟨_, _, _, _, _, _, rfl, rfl, by assumption, by assumption, below_all (by simp only [AllLt, and_true]; assumption), IntsAre.cons _ _ IntsAre.nil, by decide, by decide⟩
  case xsOn =>
  clear lF' lN'
  intro D vs ns c h' tk F' N' l1 hXI hX0 hX63
  k_lt l1
  have sm := stopMark 1
  k_steps
  refine Stop.on ?_
  rename News _ _ _ _ => kN0
  have kN := news_drop2 kN0
  clear kN0
  rename Fr _ _ _ _ => kF
  rename KBa.In _ => hIn
  (rename (_ ≤ _) ∧ (_ ≤ _) => z; clear z)
  (rename (_ < _) ∧ _ => z; clear z)
  (rename (_ < _) ∧ _ => z; clear z)
  (rename IntsAre _ _ => hz; clear hz)
  rename IntsAre _ _ => hEI
  (rename Obj.data _ = Data.cell (some (Value.int (ns.sum.fmod 99991) _)) => hsC)
  generalize hL : List.map (fun k' => (ns.sum.fmod 99991 + (2 * (ns.sum.fmod 99991).fmod 128 + 1) * k').fmod 256) (rangeKs 0 ((256 : Int) - 0).toNat) = Lo at kF kN hIn hEI
  have hLl : Lo.length = 256 := by rw [← hL]; simp only [List.length_map, rangeKs_length]; rfl
  clear hL
  have hS0 := fmod_lo ns.sum (n := 99991) (by decide)
  have hS1 := fmod_hi ns.sum (n := 99991) (by decide)
  generalize hS : ns.sum.fmod 99991 = S at hsC hS0 hS1
  have sm := stopMark 2
  (k_with "my call" => (k_dflt (
      (first
        | refine' Ans.use (c_row_cut hIn ?len) ?k1 ?k2 ?k3 ?k4 ?k5 ?kK ?kd ?ku ?_);
      (case len => (first | (rw [hLl]; decide) | decide | omega));
      (case k1 => k_asm); (case k2 => k_asm); (case k3 => k_asm); (case k4 => k_asm); (case k5 => k_asm); (case kK => exact rfl); (case kd => exact Nat.le_of_ble_eq_true rfl); (case ku => exact Nat.le_of_ble_eq_true rfl); k_whole; intro _ _ _ hr F' N'; subst hr; (try k_sweep); (try dsimp only); (try k_fold))))
  k_steps
  refine Stop.on ?_
  refine src_small (fmod_lo _ (by decide)) (fmod_hi _ (by decide)) rfl (by k_asm) (by k_asm) (by assumption) (fun k => (ns.getD (k.fmod (ns.length : Int)).toNat 0 * 3 + k).fmod 256) ?xsTurn ?xsFin
  case xsTurn =>
    intro gg k t I oI C oC DD m₂ ys h tk E' hC hx F N off ne mk hlo hhi
    simp only [LCg.Off3, and_true] at off
    (k_with "xs item" => (refine item_mod (by is_list) hXI (by first | rfl | (rw [IntsAre.length hXI])) hX0 hX63 ?_; intro _))
    k_steps
  case xsFin =>
    intro gg ys hys
    have hMi := in_mod (ks := rangeKs 0 (S.fmod 41).toNat) (fun k => ns.getD (k.fmod (ns.length : Int)).toNat 0 * 3 + k)
    have hMl := short_len (f := fun k => (ns.getD (k.fmod (ns.length : Int)).toNat 0 * 3 + k).fmod 256) (fmod_hi S (n := 41) (by decide))
    generalize hM : List.map (fun k => (ns.getD (k.fmod (ns.length : Int)).toNat 0 * 3 + k).fmod 256) (rangeKs 0 (S.fmod 41).toNat) = Ms at hys hMi hMl
    unfold LCg.FinE
    intro D2 h2 tk2 F2 N2 o2
    (try simp only [LCg.Off1, and_true] at o2)
    clear hM
    have hI0 := fmod_lo S (n := 256) (by decide)
    have hI1 := fmod_hi S (n := 256) (by decide)
    (k_with "xs item" => (first
      | (refine item_in (k := S.fmod 256) (by is_list) hEI hI0 (by rw [hLl]; exact hI1) (by rw [hLl]; decide) ?_; intro _)
      | (refine item_in (by is_list) hEI (by decide) (by rw [hLl]; decide) (by rw [hLl]; decide) ?_; intro _)))
    (k_with "my call" => (k_dflt (
      (first
        | refine' Ans.use (c_row Ms _ hMi hMl) ?k1 ?k2 ?k3 ?k4 ?k5 ?kK ?kd ?ku ?_
        | refine' Ans.use (c_b2i_cut (i := S.fmod 256) hIn hI0 (by rw [hLl]; exact hI1) (by rw [hLl]; decide)) ?k1 ?k2 ?k3 ?k4 ?k5 ?kK ?kd ?ku ?_
        | (have sm := stopMark 7; refine' Ans.use (c_b2i Lo _ hIn (by rw [hLl]; decide) (by rw [hLl]; decide)) ?k1 ?k2 ?k3 ?k4 ?k5 ?kK ?kd ?ku ?_));
      (case k1 => k_asm); (case k2 => k_asm); (case k3 => k_asm); (case k4 => k_asm); (case k5 => k_asm); (case kK => exact rfl); (case kd => exact Nat.le_of_ble_eq_true rfl); (case ku => exact Nat.le_of_ble_eq_true rfl); k_whole; intro _ _ _ hr F' N'; (first | subst hr | (obtain ⟨_, e⟩ := hr; subst e)); (try k_sweep); (try dsimp only); (try k_fold))))
    k_steps
    refine Stop.on ?_
    rename Fr _ _ _ _ => kF3
    rename News _ _ _ _ => kN3
    have kN4 := news_drop3 kN3
    have sm10 := stopMark 10
    clear kN3
    clear hys hMi hMl hEI hXI o2 hI0 hI1
    (repeat (rename (_ ≠ _) ∧ _ => z; clear z))
    (repeat (rename (_ < _) ∧ _ => z; clear z))

    (k_with "my call" => (k_dflt (
      (first
        | refine' Ans.use (c_hex_nil _) ?k1 ?k2 ?k3 ?k4 ?k5 ?kK ?kd ?ku ?_
        | refine' Ans.use (c_unhex_nil _) ?k1 ?k2 ?k3 ?k4 ?k5 ?kK ?kd ?ku ?_
        | refine' Ans.use (c_hex_cut hIn (by rw [hLl]; decide) rfl (by rw [hLl]; decide)) ?k1 ?k2 ?k3 ?k4 ?k5 ?kK ?kd ?ku ?_);
      (case k1 => k_asm); (case k2 => k_asm); (case k3 => k_asm); (case k4 => k_asm); (case k5 => k_asm); (case kK => exact rfl); (case kd => exact Nat.le_of_ble_eq_true rfl); (case ku => exact Nat.le_of_ble_eq_true rfl); k_whole; intro _ _ _ hr F' N'; (first | (obtain ⟨_, e⟩ := hr; subst e) | (obtain ⟨Le, _, e, hLe, hLeLen⟩ := hr; subst e)); (try k_sweep); (try dsimp only); (try k_fold))))
    (k_with "my add" => (k_dflt (first | (refine' add_arr (in_cut hLe _ _) (by assumption) (add_z1 hLeLen) ?_) | (refine' add_arr (by assumption) (in_cut hLe _ _) (add_z2 hLeLen) ?_)); intro _ _ hIA))
    (k_with "my fail" => (k_dflt (
      (first
        | refine' Fails.use (c_unhex_bad _ _ _ (KBa.ints_make (by assumption)) (bad_len hLeLen (fmod_lo S (by decide)) (fmod_hi S (n := 16) (by decide))) (bad_in (menu_bad (by decide)))) ?k1 ?k2 ?k3 ?k4 ?k5 ?kK ?kd ?ku ?_
        | refine' Fails.use (c_unhex_odd _ _ _ (KBa.ints_make (in_cut hLe _ _)) (by rw [List.length_take, List.length_drop, hLeLen]; decide)) ?k1 ?k2 ?k3 ?k4 ?k5 ?kK ?kd ?ku ?_);
      (case k1 => k_asm); (case k2 => k_asm); (case k3 => k_asm); (case k4 => k_asm); (case k5 => k_asm); (case kK => exact rfl); (case kd => first | exact Nat.le_of_ble_eq_true rfl | ktr_room); (case ku => first | exact Nat.le_of_ble_eq_true rfl | ktr_units); k_whole; intro e' h' t' tk' msg' g' FG' U' R')))
    repeat' (first | (k_unfold; (try dsimp only)) | (walk1) | (dsimp only; walk1) | (leave1; try dsimp only) | fail "no step")
    exact goodW_bool (by with_reducible assumption) (by with_reducible assumption) (raisesW_false (none_raised _)) (true_told _))
end Mine
theorem PySem.Challenge.cw_dp5007_01_holds : PySem.Challenge.rw_dp5007_01.Holds := by
  exact Mine.walk
