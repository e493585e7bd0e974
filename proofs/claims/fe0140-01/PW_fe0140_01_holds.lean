import PyProof.Rows.All
import Wide.All
import OpenK.AllK
import Wide.FinOn
import PySem.Challenge.RW_fe0140_01
open PySem PySem.W PyProof.Rows PySem.Calls
set_option Elab.async false
set_option rowWalk.seconds 0
namespace Mine
set_option maxRecDepth 100000 in
set_option maxHeartbeats 8000000 in
open_top hd for PySem.Challenge.rw_fe0140_01
section
theorem calmB0 : True := by w_top off; trivial
/-- what a call gives: from any frame, whatever the ledger; the answer is one that R admits -/
abbrev Gives (prog : Program) (w : World) (K : Frag) (f : Value) (vs : List Value) (kw : List (PySem.Str × Value)) (nd nu : Nat) (R : Value → Prop) : Prop :=
  ∀ (dp un : Nat) (gd : Option (List Code)) (cn : PySem.Str) (cs : Scope) (a : Addr) (ccd : Value) (cl : List (PySem.Str × Addr)) (outer : List Env) (A₀ : Around) (base h₀ : Heap) (L : Addr) (m : PySem.Str → Option Value) (news : List (Addr × Obj)) (s : Shared)
    (p : Program) (loose : List PySem.Str) (mean : ExcName → Option Value) (mg mb : PySem.Str → Option Value) (Q E : Value → Shared → Prop),
    Below A₀ base outer h₀ → Fr h₀ L s.heap m → K.In h₀ → News h₀ L s.heap news → Top p loose mean mg mb h₀ → cs.kind = .function → dp + nd < recursionLimit → un + nu < cLine →
    (∀ v h' tk', R v → Fr h₀ L h' m → News h₀ L h' news → Q v { s with heap := h', toks := tk' }) →
    wpAny (model prog w) (ktrTop dp un gd cn cs L a ccd cl outer) (call f vs kw) Q E s

theorem news_tail {h₀ h : Heap} {L : Addr} {q : Addr × Obj} {news : List (Addr × Obj)} (N : News h₀ L h (q :: news)) : News h₀ L h news := fun p hp => N p (List.Mem.tail _ hp)
end
section
theorem calmFmt : True := by w_top off; trivial
section
open Builtin Builtin.Str
def hexd (d : Nat) : Nat := if d < 10 then 48 + d else 55 + d
def pct (n : Nat) : PySem.Str := ⟨#[37, hexd (n / 16), hexd (n % 16)]⟩
def pct2 (n : Nat) : PySem.Str := ⟨#[hexd (n / 16), hexd (n % 16)]⟩

set_option maxRecDepth 100000 in
theorem field_man {prog : Program} {w : World} {A : Around} {E : Value → Shared → Prop} {s : Shared} {id : String} {a : Array Value} {byName : PySem.Str → Sem Value} {v : Value} {Q : Value × Numbering → Shared → Prop}
    (ha : a[0]? = some v) (h : Q (v, .manual) s) : wpAny (model prog w) A (fieldObject id (some a) byName [48] .unset) Q E s := by
  unfold fieldObject
  refine wpAny_bind (wpAny_of_eq (a := some 0) rfl ?_)
  refine wpAny_bind (wpAny_of_eq (a := (some 0, .manual)) rfl ?_)
  simp only [ha, pure_bind]
  rw [KPc.range_list]
  exact wpAny_bind (wpAny_pure (wpAny_pure h))

def f02X : Float.FormatSpec := ⟨48, 61, none, false, false, some 2, none, none, some 88⟩
theorem pct2_cps : ∀ n : Fin 256, intField' f02X false [] ((Nat.toDigits 16 n.val).map fun c => (c.toUpper).toNat) [] 4 = pct2 n.val := by
  decide +kernel
set_option maxRecDepth 100000 in
theorem parse02X : Float.parseFormatSpec (PySem.Str.mk #[48, 50, 88]).cps.toList "int" 62 = .ok f02X := by rfl

set_option maxRecDepth 100000 in
set_option maxHeartbeats 4000000 in
theorem int_fmt (n : Nat) (hn : n < 256) (t u : Tok) :
    Meets («int.__format__» ⟨[.int (n : Int) t, .str ⟨#[48, 50, 88]⟩ u], []⟩) (fun _ R s => ∀ t' k, R (.ok (.ret (.str (pct2 n) t'))) { s with toks := k }) := by
  apply KPc.meets_of
  intro _ _ _ _ _ _ hh
  unfold Builtin.«int.__format__»
  refine wpAny_bind (wpAny_of_eq (a := (_, _)) rfl ?_)
  refine wpAny_bind (wpAny_of_eq (a := _) rfl ?_)
  kxf_if
  refine wpAny_bind (wpAny_typeNameOf (T := "str") (typeIs_str _ _ _) (by decide) fun _ => ?_)
  refine wpAny_bind (wpAny_of_eq (a := some _) rfl ?_)
  kxf_if
  kxf_if
  refine wpAny_bind (wpAny_typeNameOfCut_int ?_)
  obtain ⟨f, hf⟩ : ∃ f, f = f02X := ⟨_, rfl⟩
  rw [parse02X, ← hf]
  have hpr : f.precision = none := by rw [hf]; rfl
  have hz : f.noNeg0 = false := by rw [hf]; rfl
  have hal : f.alt = false := by rw [hf]; rfl
  have hw : f.width.getD 0 = 2 := by rw [hf]; rfl
  have hty : f.type.getD (if (PySem.Str.mk #[48, 50, 88]).cps.back? == some 0 then 0 else 100) = 88 := by rw [hf]; rfl
  simp only [hty]
  rw [if_pos (by decide)]
  show wpAny _ _ (if _ then _ else _) _ _ _
  rw [if_neg (by simp [hpr])]
  show wpAny _ _ (if _ then _ else _) _ _ _
  rw [if_neg (by simp [hz])]
  show wpAny _ _ (if _ then _ else _) _ _ _
  rw [if_neg (by decide)]
  show wpAny _ _ (if _ then _ else _) _ _ _
  rw [if_neg (by decide)]
  show wpAny _ _ (if _ then _ else _) _ _ _
  rw [if_neg (by simp [hw])]
  refine KXf.ret_text (T := pct2 n) ?e ?l hh
  case e =>
    rw [decide_eq_false (show ¬ ((n : Int) < 0) by omega)]
    clear hh hty hpr hz hal hw
    subst hf
    revert n
    decide +kernel
  case l => 
    clear hh hty hpr hz hal hw
    subst hf
    rw [decide_eq_false (show ¬ ((n : Int) < 0) by omega)]
    revert n
    decide +kernel

set_option maxRecDepth 100000 in
set_option maxHeartbeats 4000000 in
theorem fmt_int {prog : Program} {w : World} {A : Around} {E : Value → Shared → Prop} {s : Shared} (n : Nat) (hn : n < 256) (u : Tok) {Q : Value → Shared → Prop}
    (h : ∀ t' k, Q (.str (pct2 n) t') { s with toks := k }) : wpAny (model prog w) A (PySem.Builtin.Str.formatOf (.int (n : Int) u) ⟨#[48, 50, 88]⟩) Q E s := by
  unfold PySem.Builtin.Str.formatOf
  refine wpAny_ite (KPc.ite_no Bool.false_ne_true ?_)
  refine wpAny_bind (wpAny_mkStr ?_ (by decide))
  refine wpAny_bind (m := callSpecial? (.int n u) (PySem.Str.ofString "__format__") [.str ⟨#[48, 50, 88]⟩ s.toks]) (wpAny_callSpecial?_slot (name := PySem.Str.ofString "__format__") (typeIs_int _ n u) PySem.F.slot_int_format
    (call_meets PySem.F.slot_int_format (typeIs_int _ n u) PySem.F.entry_int_format (PySem.F.args_int_format_2 _ _) (int_fmt n hn _ _) fun t' k => ?_))
  refine wpAny_bind (wpAny_of_eq (a := some (pct2 n)) rfl ?_)
  refine wpAny_ite (KPc.ite_no Bool.false_ne_true ?_)
  exact wpAny_pure (h _ _)

theorem pct_cat (n : Nat) : (PySem.Str.empty ++ PySem.Str.ofString "%") ++ pct2 n = pct n := by
  refine PySem.Str.ext' ?_
  rw [PySem.Str.cps_append, PySem.Str.cps_append]
  rw [show (PySem.Str.ofString "%").cps = #[37] by decide +kernel]
  rfl

set_option maxRecDepth 100000 in
set_option maxHeartbeats 4000000 in
theorem fmt_meets (n : Nat) (hn : n < 256) (t u : Tok) :
    Meets («str.format» ⟨[.str (PySem.Str.ofString "%{0:02X}") t, .int (n : Int) u], []⟩) (fun _ R s => ∀ t' k, R (.ok (.ret (.str (pct n) t'))) { s with toks := k }) := by
  apply KPc.meets_of
  intro _ _ _ _ _ _ _
  unfold Builtin.«str.format»
  refine wpAny_bind (wpAny_of_eq (a := (_, _, _)) rfl ?_)
  refine wpAny_bind ?_
  unfold Builtin.Str.buildString
  refine wpAny_bind ?_
  rw [KPc.range_list]
  refine KFm.start ?_
  intro _ _
  refine KPc.turn ?_; kpc_if
  kpc_check
  refine wpAny_bind (field_man (by rfl) ?_)
  refine wpAny_bind (wpAny_holding (wpAny_of_eq (a := _) rfl ?_))
  kpc_if
  refine wpAny_bind (wpAny_pure ?_)
  refine wpAny_bind (wpAny_holding (fmt_int n hn _ ?_))
  intro _ _
  refine wpAny_bind (wpAny_of_eq (a := some _) rfl ?_)
  refine wpAny_pure ?_
  refine KFm.after_field (K := 2) (y := pct2 n) (by kpc_g) (by kpc_text) (by kpc_obj) (Nat.le_refl 2) (by kpc_obj) (pct_cat n) (by kfm_rest) ?_
  intro _ _
  refine KPc.turn ?_; kpc_if
  kfm_close
end
end
section
theorem calmQ1 : True := by w_top off; trivial
theorem fmt_call {prog : Program} {w : World} {A : Around} {E : Value → Shared → Prop} {s : Shared} {v : Int} {t u : Tok} {Q : Value → Shared → Prop} (h0 : 0 ≤ v) (h1 : v < 256)
    (h : ∀ t' k, Q (.str (pct v.toNat) t') { s with toks := k }) : wpAny (model prog w) A (call (.builtin "str.format") [.str (PySem.Str.ofString "%{0:02X}") t, .int v u]) Q E s := by
  obtain ⟨n, rfl⟩ := Int.eq_ofNat_of_zero_le h0
  exact call_meets PySem.F.slot_str_format_m (typeIs_str s _ t) PySem.F.entry_str_format_m (KFm.args_2 _ _) (fmt_meets n (by omega) t u) h

/-- the written text of one number, by the signs that are let in -/
def quoteS (S : PySem.Str) (n : Nat) : PySem.Str := if (Builtin.Str.occurrences S ⟨#[n]⟩ 0 S.length 1).isEmpty = true then pct n else ⟨#[n]⟩

/-- the object q holds S as its safe_chars -/
def SafeOf (w : World) (q : Addr) (S : PySem.Str) : Prop :=
  ∀ (prog : Program) (A : Around) (E : Value → Shared → Prop) (s : Shared) (h₀ : Heap) (L : Addr) (m : PySem.Str → Option Value) (Q : Value → Shared → Prop) (ex : Bool),
    Fr h₀ L s.heap m → (Mine.hd.heap_39 w.params).In h₀ → (∀ t k, Q (.str S t) { s with toks := k }) → wpAny (model prog w) A (getAttr (.ref q) (PySem.Str.ofString "safe_chars") ex) Q E s
theorem SafeOf.use {w : World} {q : Addr} {S : PySem.Str} (H : SafeOf w q S) {prog : Program} {A : Around} {E : Value → Shared → Prop} {s : Shared} {h₀ : Heap} {L : Addr} {m : PySem.Str → Option Value} {Q : Value → Shared → Prop} {ex : Bool}
    (F : Fr h₀ L s.heap m) (X : (Mine.hd.heap_39 w.params).In h₀) (h : ∀ t k, Q (.str S t) { s with toks := k }) : wpAny (model prog w) A (getAttr (.ref q) (PySem.Str.ofString "safe_chars") ex) Q E s := H _ _ _ _ _ _ _ _ _ F X h

set_option maxRecDepth 100000 in
theorem safe_96 {w : World} : SafeOf w 96 (PySem.Str.ofString "~-._0123456789ABCDEFGHIJKLMNOPQRSTUVWXYZabcdefghijklmnopqrstuvwxyz!$&'()*+,;=%:@") := by
  unfold SafeOf
  intro prog A E s h₀ L m Q ex F X h
  k_dflt (refine' get_own ?k1 ?k2 ?k3 ?k4 ?k5 ?k6 ?k7 ?k8 ?k9 ?_; (case k1 => k_asm); (case k2 => k_asm); (case k3 => k_inst); (case k4 => k_is); (case k5 => k_is); (case k6 => k_is); (case k7 => k_is); (case k8 => k_get); (case k9 => k_handed); k_whole)
  exact h _ _

local macro_rules | `(tactic| walk_at "call builtin:str.format") => `(tactic| (k_here; (with_reducible show wpAny _ _ (call (Value.builtin "str.format") [Value.str _ _, Value.int _ _]) _ _ _); refine' fmt_call ?k1 ?k2 ?_; (case k1 => omega); (case k2 => omega); intro _ _))
local macro_rules | `(tactic| walk_at "getAttr ref") => `(tactic| (k_here; (with_reducible show wpAny _ _ (getAttr (Value.ref _) (PySem.Str.ofString "safe_chars") _) _ _ _); refine' SafeOf.use (by with_reducible assumption) ?k1 ?k2 ?_; (case k1 => k_asm); (case k2 => k_asm); intro _ _))
set_option maxRecDepth 100000 in
set_option maxHeartbeats 8000000 in
theorem quote_int {prog : Program} {w : World} {q : Addr} {S : PySem.Str} (HS : SafeOf w q S) {n : Nat} {t : Tok} (h1 : n < 256) :
    Gives prog w (Mine.hd.heap_39 w.params) (.ref 81) [.ref q, .int (n : Int) t] [] 2 20 (fun r => ∃ t', r = .str (quoteS S n) t') := by
  unfold Gives
  intro dp un gd cn cs a ccd cl outer A₀ base h₀ L m news s p loose mean mg mb Q E B F X N T hk hd hu hret
  refine wpAny_call ?_
  k_dflt cell_enter
  k_steps
  all_goals (refine hret _ _ _ ⟨_, congrArg (fun x => Value.str x _) ?_⟩ (by assumption) (by assumption))
  all_goals (unfold quoteS; simp_all)

set_option maxRecDepth 100000 in
set_option maxHeartbeats 8000000 in
theorem quote_str {prog : Program} {w : World} {q : Addr} {S : PySem.Str} (HS : SafeOf w q S) {n : Nat} {t : Tok} (h1 : n < 256) :
    Gives prog w (Mine.hd.heap_39 w.params) (.ref 81) [.ref q, .str ⟨#[n]⟩ t] [] 2 20 (fun r => ∃ t', r = .str (quoteS S n) t') := by
  unfold Gives
  intro dp un gd cn cs a ccd cl outer A₀ base h₀ L m news s p loose mean mg mb Q E B F X N T hk hd hu hret
  refine wpAny_call ?_
  k_dflt cell_enter
  k_steps
  all_goals (refine hret _ _ _ ⟨_, congrArg (fun x => Value.str x _) ?_⟩ (by assumption) (by assumption))
  all_goals (unfold quoteS; simp_all)
end
section
theorem calmEnc : True := by w_top off; trivial
section
open Builtin Builtin.Str Builtin._codecs

/-- the bytes of a text, sign by sign -/
def bytesOf (l : List Nat) : List UInt8 := l.flatMap PySem.Str.utf8Of
def u8 (x : PySem.Str) : Array UInt8 := x.cps.foldl (fun acc y => acc ++ (PySem.Str.utf8Of y).toArray) #[]
theorem fold_bytes (l : List Nat) : ∀ acc : Array UInt8, l.foldl (fun acc y => acc ++ (PySem.Str.utf8Of y).toArray) acc = acc ++ (bytesOf l).toArray := by
  induction l with
  | nil => intro acc; simp [bytesOf]
  | cons c r ih =>
    intro acc
    rw [List.foldl_cons, ih]
    simp [bytesOf]
theorem u8_eq (x : PySem.Str) : u8 x = (bytesOf x.cps.toList).toArray := by
  unfold u8
  rw [← Array.foldl_toList, fold_bytes]
  simp
theorem utf8_len (c : Nat) : (PySem.Str.utf8Of c).length ≤ 4 := by
  unfold PySem.Str.utf8Of
  (repeat' split) <;> simp
theorem bytesOf_len (l : List Nat) : (bytesOf l).length ≤ 4 * l.length := by
  induction l with
  | nil => simp [bytesOf]
  | cons c r ih =>
    have := utf8_len c
    have e : (bytesOf (c :: r)).length = (PySem.Str.utf8Of c).length + (bytesOf r).length := by simp [bytesOf]
    rw [e, List.length_cons]
    omega
def Clean (x : PySem.Str) : Prop := ∀ c ∈ x.cps.toList, PySem.Str.isSurrogate c = false

theorem clean_idx {x : PySem.Str} (h : Clean x) : (x.cps.findIdx? PySem.Str.isSurrogate) = none := by
  rw [Array.findIdx?_eq_none_iff]
  intro c hc
  exact h c (Array.mem_toList_iff.mpr hc)

theorem two_turns {β : Type} {n : Nat} {b0 b1 : β} {f : Nat → β → Sem (ForInStep β)} (h0 : f 0 b0 = pure (.yield b1)) (h1 : ∀ i, f i b1 = pure (.done b1)) :
    forIn (List.range' 0 (n + 1) 1) b0 f = pure b1 := by
  rw [List.range'_succ, List.forIn_cons, h0]
  simp only [pure_bind]
  cases n with
  | zero => rfl
  | succ n =>
    rw [List.range'_succ, List.forIn_cons, h1]
    rfl

set_option maxRecDepth 100000 in
set_option maxHeartbeats 4000000 in
theorem narrow_eq {id : String} {self : Value} {x : PySem.Str} (h : Clean x) (hl : x.length ≤ 1000) : encodeNarrow id utf8Codec none self x = pure (u8 x) := by
  unfold encodeNarrow
  dsimp only
  rw [KPc.range_list]
  generalize hn : x.length = n
  cases n with
  | zero =>
    have e : x.cps = #[] := Array.size_eq_zero_iff.mp hn
    have e2 : u8 x = #[] := by unfold u8; rw [e]; rfl
    rw [e2]
    rfl
  | succ n =>
    have hb : ∀ c, TextCodec.bad utf8Codec c = PySem.Str.isSurrogate c := fun _ => rfl
    have hz : x.cps.size = n + 1 := hn
    have h0 : x.cps[0]? = some (x.cps[0]'(by omega)) := by simp [hz]
    rw [two_turns (b1 := (x.cps.size, u8 x, ({} : Faults))) ?h0 ?h1]
    · rfl
    case h0 =>
      rw [if_neg (by rw [PySem.sizeLine_eq]; simp)]
      simp only [h0]
      have hc : PySem.Str.isSurrogate (x.cps[0]'(by omega)) = false := h _ (by simp)
      rw [if_pos (by rw [hb, hc]; rfl)]
      have ef : (TextCodec.bad utf8Codec) = PySem.Str.isSurrogate := rfl
      simp only [Array.extract_size, ef, clean_idx h, Option.getD_none, Nat.zero_add]
      rfl
    case h1 =>
      intro i
      have hu : (u8 x).size ≤ sizeLine := by
        rw [u8_eq, List.size_toArray, PySem.sizeLine_eq]
        have := bytesOf_len x.cps.toList
        have e : x.cps.toList.length = n + 1 := by simp [hz]
        omega
      simp only [if_neg (Nat.not_lt.mpr hu)]
      have e : x.cps[x.cps.size]? = none := by simp
      simp only [e]

set_option maxRecDepth 100000 in
theorem road8 {id : String} {self : Value} {x : PySem.Str} : encodeRoad id self x (PySem.Str.ofString "utf8") none = (encodeNarrow id utf8Codec none self x >>= mkBytes) := by kernel_rfl
set_option maxRecDepth 100000 in
theorem road_8 {id : String} {self : Value} {x : PySem.Str} : encodeRoad id self x (PySem.Str.ofString "utf-8") none = (encodeNarrow id utf8Codec none self x >>= mkBytes) := by kernel_rfl

set_option maxRecDepth 100000 in
set_option maxHeartbeats 4000000 in
theorem encode_meets {x : PySem.Str} (h : Clean x) (hl : x.length ≤ 1000) (n : PySem.Str) (hn : n = PySem.Str.ofString "utf8" ∨ n = PySem.Str.ofString "utf-8") (t u : Tok) :
    Meets («str.encode» ⟨[.str x t, .str n u], []⟩) (fun _ R s => ∀ t' k, R (.ok (.ret (.bytes (bytesOf x.cps.toList).toArray t'))) { s with toks := k }) := by
  refine .of_wp fun prog w A R s hS => ?_
  unfold Builtin.«str.encode»
  refine wpAny_bind (wpAny_of_eq (a := (_, _, _)) rfl ?_)
  refine wpAny_bind (wpAny_of_eq (a := [some (.str n u), none]) rfl ?_)
  refine wpAny_bind (wpAny_of_eq (a := some n) ?e1 ?_)
  case e1 => rcases hn with rfl | rfl <;> kernel_rfl
  refine wpAny_bind (wpAny_of_eq (a := none) rfl ?_)
  have key : encodeRoad "str.encode" (.str x t) x n none = mkBytes (bytesOf x.cps.toList).toArray := by
    rcases hn with rfl | rfl
    · rw [road8, narrow_eq h hl, u8_eq]; rfl
    · rw [road_8, narrow_eq h hl, u8_eq]; rfl
  show wpAny _ _ (encodeRoad "str.encode" (.str x t) x n none >>= fun v => ret v) _ _ _
  rw [key]
  refine wpAny_bind (wpAny_mkBytes (wpAny_pure ⟨_, rfl, hS _ _⟩) ?_)
  rw [List.size_toArray, PySem.sizeLine_eq]
  have := bytesOf_len x.cps.toList
  have e : x.cps.toList.length = x.length := by simp [PySem.Str.length]
  omega
section
variable {prog : Program} {w : World} {A : Around} {E : Value → Shared → Prop} {s : Shared} {x n : PySem.Str} {t u : Tok}
theorem encode_call {Q : Value → Shared → Prop} (h : Clean x) (hl : x.length ≤ 1000) (hn : n = PySem.Str.ofString "utf8" ∨ n = PySem.Str.ofString "utf-8")
    (hq : ∀ t' k, Q (.bytes (bytesOf x.cps.toList).toArray t') { s with toks := k }) : wpAny (model prog w) A (call (.builtin "str.encode") [.str x t, .str n u]) Q E s :=
  call_meets PySem.F.slot_str_encode (typeIs_str s x t) PySem.F.entry_str_encode (PySem.F.args_str_encode_2 _ _) (encode_meets h hl n hn t u) hq
theorem encode_method {M : Model} {pl : Sem Bool} {Q : Value × List Value → Shared → Prop} (h : Q (.builtin "str.encode", [.str x t]) s) : wpAny M A (getMethod (.str x t) "encode" pl) Q E s := by
  with_reducible exact GM.of (.str x t) (typeIs_str _ _ _) PySem.F.slot_str_encode PySem.F.type_str_encode GM.noRef h
end
end
end
section
theorem calmCompB : True := by w_top off; trivial
theorem strs_snoc {y : PySem.Str} {t : Tok} : ∀ {vs : List Value} {ys : List PySem.Str}, StrsAre vs ys → StrsAre (vs ++ [.str y t]) (ys ++ [y])
  | _, _, .nil => .cons y t .nil
  | _, _, .cons z u r => .cons z u (strs_snoc r)

section
variable {prog : Program} {w : World} {A : Around} {h₀ : Heap} {L : Addr} {m : PySem.Str → Option Value} {env : Env} {elt iter : Expr} {x : PySem.Str} {scope : Scope} {cl : List (PySem.Str × Addr)} {s : Shared} {E : Value → Shared → Prop}
  {P : Nat → Value → Prop} {Fin : List Value → List (Addr × Obj) → Prop} {news : List (Addr × Obj)}

/-- one turn of a comprehension that makes a text and leaves the ledger -/
def Turn (prog : Program) (w : World) (A : Around) (h₀ : Heap) (L : Addr) (m : PySem.Str → Option Value) (env : Env) (elt : Expr) (x : PySem.Str) (scope : Scope) (cl : List (PySem.Str × Addr)) (s : Shared) (news : List (Addr × Obj)) (v : Value) (y : PySem.Str) : Prop :=
  ∀ I oI C oC D m₂ ys h tk (E' : Value → Shared → Prop), LCg.NsObj oC m₂ → m₂ x = some v → Fr h₀ L h m → News h₀ L h ((I, oI) :: (C, oC) :: (D, LCg.lst ys) :: news) → LCg.Off3 I C D news → ((@Ne Nat I C) ∧ (@Ne Nat I D) ∧ (@Ne Nat C D)) →
    wpAny (model prog w) A (eval elt (compEnvC scope cl C env)) (LCg.CompEnd h₀ L m { s with heap := h, toks := tk } I oI C oC D (LCg.lst ys) (fun _ => True) (fun r news' => news' = news ∧ ∃ t, r = .str y t)) E' { s with heap := h, toks := tk }

theorem rest_of {α : Type} {n : Nat} (items : List α) (isV : α → Value → Prop) (g : α → PySem.Str) (hn : items.length = n) (hP : ∀ i v, i < n → P i v → ∃ a, items[i]? = some a ∧ isV a v)
    (turn : ∀ a v, a ∈ items → isV a v → Turn prog w A h₀ L m env elt x scope cl s news v (g a))
    (fin : ∀ ys, StrsAre ys (items.map g) → Fin ys news) : LCg.CompRest prog w A h₀ L m env elt x scope cl s (fun _ => True) P Fin n 0 [] news := by
  have key : ∀ (j i : Nat) (ys : List Value), i + j = n → StrsAre ys ((items.take i).map g) → LCg.CompRest prog w A h₀ L m env elt x scope cl s (fun _ => True) P Fin j i ys news := by
    intro j
    induction j with
    | zero =>
      intro i ys hi hy
      have e : i = items.length := by omega
      subst e
      rw [List.take_length] at hy
      exact LCg.CompRest.zero (fin ys hy)
    | succ j ih =>
      intro i ys hi hy
      refine LCg.CompRest.succ ?_
      intro v I oI C oC D m₂ h tk E' hv hC hx F N off ne
      obtain ⟨a, ha, hav⟩ := hP i v (by omega) hv
      refine wpAny_mono (turn a v (List.mem_of_getElem? ha) hav I oI C oC D m₂ ys h tk E' hC hx F N off ne) (fun y s₂ hq => ?_) fun _ _ e => e
      obtain ⟨h', tk', nw, e, F', N', off', hS, hn, t', hy'⟩ := hq
      rw [hn] at N' off'
      refine ⟨h', tk', news, e, F', N', off', hS, ?_⟩
      rw [hy']
      refine ih (i + 1) _ (by omega) ?_
      rw [List.take_add_one, ha]
      simpa using strs_snoc hy
  exact key n 0 [] (by omega) (by simp only [List.take_zero, List.map_nil]; exact .nil)

theorem bytes_room {x : PySem.Str} (hx : x.length ≤ 1000) : (bytesOf x.cps.toList).length ≤ sizeLine := by
  rw [PySem.sizeLine_eq]
  have := bytesOf_len x.cps.toList
  have e : x.cps.toList.length = x.length := by simp [PySem.Str.length]
  omega
/-- the source of a comprehension is bytes -/
def SrcB (prog : Program) (w : World) (A : Around) (h₀ : Heap) (L : Addr) (m : PySem.Str → Option Value) (env : Env) (elt : Expr) (x : PySem.Str) (scope : Scope) (cl : List (PySem.Str × Addr)) (Q : Value → Shared → Prop) (xv : Value) (s₁ : Shared) : Prop :=
  ∃ (b : List UInt8) (tb : Tok) (news : List (Addr × Obj)) (g : UInt8 → PySem.Str), xv = .bytes b.toArray tb ∧ A.handled = none ∧ Fr h₀ L s₁.heap m ∧ News h₀ L s₁.heap news ∧ b.length ≤ sizeLine ∧
    (∀ s₂ : Shared, (∃ h, s₂ = { s₁ with heap := h }) → (∀ a v, a ∈ b → (∃ u, v = .int (a.toNat : Int) u) → Turn prog w A h₀ L m env elt x scope cl s₂ news v (g a)) ∧ (∀ ys, StrsAre ys (b.map g) → LCg.FinE h₀ L m s₂ Q ys news))

theorem ListComp_B {px pos : Pos} {Q : Value → Shared → Prop} (_F₀ : Fr h₀ L s.heap m)
    (hclos : closureFor scope env = pure cl) (hcell : ∀ y ∈ scope.names, y.2 ≠ .cell) (hkind : scope.kind = .function)
    (hnames : ∀ y ∈ scope.names, y.2 = .local → scope.names.lookup y.1 = some .local) (hx : scope.names.lookup x = some .local)
    (h : wpAny (model prog w) A (eval iter env) (SrcB prog w A h₀ L m env elt x scope cl Q) E s)
    (hs : ∀ x, foldedSetIterable iter env x = pure x := by intro _; rfl) :
    wpAny (model prog w) A (eval (.ListComp elt [⟨.Name x px, iter, [], 0⟩] scope pos) env) Q E s := by
  rw [eval_ListComp]
  refine wpAny_comprehension_free (use := none) rfl hs hclos hkind hnames (wpAny_mono h (fun xv s₁ h₁ => ?_) fun _ _ e => e)
  obtain ⟨b, tb, news, g, rfl, hh, F, N, hsz, R⟩ := h₁
  refine KBw.pyIter_bytes ?_
  have up : ∀ a o, s₁.heap.get? a = some o → (s₁.heap.push { cls := .type "bytes_iterator", data := .fields #[.bytes b.toArray tb, .int 0 0] }).get? a = some o := fun a o e => Heap.get?_push_of_some _ e
  obtain ⟨turn, fin⟩ := R { s₁ with heap := s₁.heap.push { cls := .type "bytes_iterator", data := .fields #[.bytes b.toArray tb, .int 0 0] } } ⟨_, rfl⟩
  have hb : b.toArray.size = b.length := by simp
  have W := KBw.walks (prog := prog) (w := w) hh s₁.heap.objs.size b.toArray tb
  rw [hb] at W
  refine LCg.block_U (S := fun _ => True) (Fin := LCg.FinE h₀ L m _ Q) W hsz (fun i h st => by obtain ⟨o, e, _⟩ := st; exact ⟨o, e⟩)
    (fun i h h' o nw st e e' _ _ _ => by obtain ⟨o', q, r⟩ := st; rw [e] at q; cases q; exact ⟨o, e', r⟩) hcell hkind hx ⟨_, Heap.get?_push_size _ rfl, rfl, rfl⟩ (fun b' hb' => ?_)
    (F.keeps up) (N.grown up) (Nat.ne_of_lt F.ns.lt) (next_is_new F) (fun p hp => Nat.ne_of_lt (Heap.lt_size (N p hp).1)) trivial
    (rest_of b (fun a v => ∃ u, v = .int (a.toNat : Int) u) g rfl (fun i v hi hP => ?_) turn fin) ?_
  · rw [List.mem_singleton.mp hb']
    show s₁.heap.objs.size < (s₁.heap.push _).objs.size
    rw [Heap.size_push]; exact Nat.lt_succ_self _
  · obtain ⟨c, u, hc, rfl⟩ := hP
    exact ⟨c, by simpa using hc, u, rfl⟩
  · intro D C h tk m' ys news' F' N' o1 hn hC₀ hD₀ hCL hDL hCD offC fin'
    refine ⟨m', hn, fun h'' hs'' => fin' D h'' tk (F'.change hs'' hCL hC₀) (fun p hp => ?_) o1⟩
    refine ⟨hs''.extBut _ _ ?_ (N' p hp).1, (N' p hp).2⟩
    rcases List.mem_cons.mp hp with rfl | hp
    · exact Ne.symm hCD
    · exact offC p hp
theorem SrcB.intro {b : List UInt8} {tb : Tok} {q : Addr} {S : PySem.Str} {Q : Value → Shared → Prop} (_HS : SafeOf w q S) (hh : A.handled = none) (F : Fr h₀ L s.heap m) (N : News h₀ L s.heap news) (hsz : b.length ≤ sizeLine)
    (turn : ∀ (a : UInt8) (u : Tok) (g : Heap), a ∈ b → Turn prog w A h₀ L m env elt x scope cl { s with heap := g } news (.int (a.toNat : Int) u) (quoteS S a.toNat))
    (fin : ∀ ys g, StrsAre ys (b.map fun a => quoteS S a.toNat) → LCg.FinE h₀ L m { s with heap := g } Q ys news) : SrcB prog w A h₀ L m env elt x scope cl Q (.bytes b.toArray tb) s :=
  ⟨b, tb, news, fun a => quoteS S a.toNat, rfl, hh, F, N, hsz, fun s₂ ⟨g, e⟩ => by
    subst e
    exact ⟨fun a v ha ⟨u, hv⟩ => by subst hv; exact turn a u g ha, fun ys hy => fin ys g hy⟩⟩

/-- the source of a comprehension is a text -/
def SrcS (prog : Program) (w : World) (A : Around) (h₀ : Heap) (L : Addr) (m : PySem.Str → Option Value) (env : Env) (elt : Expr) (x : PySem.Str) (scope : Scope) (cl : List (PySem.Str × Addr)) (Q : Value → Shared → Prop) (xv : Value) (s₁ : Shared) : Prop :=
  ∃ (b : PySem.Str) (tb : Tok) (news : List (Addr × Obj)) (g : Nat → PySem.Str), xv = .str b tb ∧ A.handled = none ∧ Fr h₀ L s₁.heap m ∧ News h₀ L s₁.heap news ∧ b.length ≤ sizeLine ∧
    (∀ s₂ : Shared, (∃ h, s₂ = { s₁ with heap := h }) → (∀ a v, a ∈ b.cps.toList → (∃ u, v = .str ⟨#[a]⟩ u) → Turn prog w A h₀ L m env elt x scope cl s₂ news v (g a)) ∧ (∀ ys, StrsAre ys (b.cps.toList.map g) → LCg.FinE h₀ L m s₂ Q ys news))

theorem str_walks {B : PySem.Str} {tb : Tok} {Q : Value → Shared → Prop}
    (hQ : ∀ (o : Obj) (St : Nat → Heap → Prop), (∀ A' : Around, A'.handled = none → Walks prog w A' s.heap.objs.size [s.heap.objs.size] [s.heap.objs.size] B.cps.size (SignAt B) St) → St 0 (s.heap.push o) →
      (∀ i h, St i h → ∃ o, h.get? s.heap.objs.size = some o) → (∀ i h h' o, St i h → h.get? s.heap.objs.size = some o → h'.get? s.heap.objs.size = some o → St i h') →
      Q (.ref s.heap.objs.size) { s with heap := s.heap.push o }) : wpAny (model prog w) A (pyIter (.str B tb)) Q E s := by
  cases ha : B.cps.all (· < 128)
  · exact wpAny_pyIter_wide ha (hQ _ _ (fun A' hA => Walks.strWide hA _ B tb) ⟨_, Heap.get?_push_size _ rfl, rfl, rfl⟩ (fun i h st => by obtain ⟨o, e, _⟩ := st; exact ⟨o, e⟩)
      (fun i h h' o st e e' => by obtain ⟨o', q, r⟩ := st; rw [e] at q; cases q; exact ⟨o, e', r⟩))
  · exact wpAny_pyIter_ascii ha (hQ _ _ (fun A' hA => Walks.strAscii hA _ B tb) ⟨_, Heap.get?_push_size _ rfl, rfl, rfl⟩ (fun i h st => by obtain ⟨o, e, _⟩ := st; exact ⟨o, e⟩)
      (fun i h h' o st e e' => by obtain ⟨o', q, r⟩ := st; rw [e] at q; cases q; exact ⟨o, e', r⟩))

theorem ListComp_S {px pos : Pos} {Q : Value → Shared → Prop} (_F₀ : Fr h₀ L s.heap m)
    (hclos : closureFor scope env = pure cl) (hcell : ∀ y ∈ scope.names, y.2 ≠ .cell) (hkind : scope.kind = .function)
    (hnames : ∀ y ∈ scope.names, y.2 = .local → scope.names.lookup y.1 = some .local) (hx : scope.names.lookup x = some .local)
    (h : wpAny (model prog w) A (eval iter env) (SrcS prog w A h₀ L m env elt x scope cl Q) E s)
    (hs : ∀ x, foldedSetIterable iter env x = pure x := by intro _; rfl) :
    wpAny (model prog w) A (eval (.ListComp elt [⟨.Name x px, iter, [], 0⟩] scope pos) env) Q E s := by
  rw [eval_ListComp]
  refine wpAny_comprehension_free (use := none) rfl hs hclos hkind hnames (wpAny_mono h (fun xv s₁ h₁ => ?_) fun _ _ e => e)
  obtain ⟨b, tb, news, g, rfl, hh, F, N, hsz, R⟩ := h₁
  refine str_walks fun o St hW hst hIo hSt => ?_
  have up : ∀ a o', s₁.heap.get? a = some o' → (s₁.heap.push o).get? a = some o' := fun a o e => Heap.get?_push_of_some _ e
  obtain ⟨turn, fin⟩ := R { s₁ with heap := s₁.heap.push o } ⟨_, rfl⟩
  refine LCg.block_U (S := fun _ => True) (Fin := LCg.FinE h₀ L m _ Q) (hW A hh) hsz hIo (fun i h h' o nw st e e' _ _ _ => hSt i h h' o st e e') hcell hkind hx hst (fun b' hb' => ?_)
    (F.keeps up) (N.grown up) (Nat.ne_of_lt F.ns.lt) (next_is_new F) (fun p hp => Nat.ne_of_lt (Heap.lt_size (N p hp).1)) trivial
    (rest_of b.cps.toList (fun a v => ∃ u, v = .str ⟨#[a]⟩ u) g (by simp) (fun i v hi hP => ?_) turn fin) ?_
  · rw [List.mem_singleton.mp hb']
    show s₁.heap.objs.size < (s₁.heap.push _).objs.size
    rw [Heap.size_push]; exact Nat.lt_succ_self _
  · obtain ⟨c, u, hc, rfl⟩ := hP
    exact ⟨c, by simpa using hc, u, rfl⟩
  · intro D C h tk m' ys news' F' N' o1 hn hC₀ hD₀ hCL hDL hCD offC fin'
    refine ⟨m', hn, fun h'' hs'' => fin' D h'' tk (F'.change hs'' hCL hC₀) (fun p hp => ?_) o1⟩
    refine ⟨hs''.extBut _ _ ?_ (N' p hp).1, (N' p hp).2⟩
    rcases List.mem_cons.mp hp with rfl | hp
    · exact Ne.symm hCD
    · exact offC p hp
theorem SrcS.intro {b : PySem.Str} {tb : Tok} {Q : Value → Shared → Prop} (g : Nat → PySem.Str) (hh : A.handled = none) (F : Fr h₀ L s.heap m) (N : News h₀ L s.heap news) (hsz : b.length ≤ sizeLine)
    (turn : ∀ (a : Nat) (u : Tok) (hp : Heap), a ∈ b.cps.toList → Turn prog w A h₀ L m env elt x scope cl { s with heap := hp } news (.str ⟨#[a]⟩ u) (g a))
    (fin : ∀ ys hp, StrsAre ys (b.cps.toList.map g) → LCg.FinE h₀ L m { s with heap := hp } Q ys news) : SrcS prog w A h₀ L m env elt x scope cl Q (.str b tb) s :=
  ⟨b, tb, news, g, rfl, hh, F, N, hsz, fun s₂ ⟨hp, e⟩ => by
    subst e
    exact ⟨fun a v ha ⟨u, hv⟩ => by subst hv; exact turn a u hp ha, fun ys hy => fin ys hp hy⟩⟩
end

/-- texts glued -/
def cat (ys : List PySem.Str) : PySem.Str := ⟨(ys.flatMap fun y => y.cps.toList).toArray⟩
theorem cat_nil : cat [] = PySem.Str.empty := rfl
theorem cat_cons (y : PySem.Str) (ys : List PySem.Str) : cat (y :: ys) = y ++ cat ys := by
  refine PySem.Str.ext' ?_
  rw [PySem.Str.cps_append]
  refine Array.toList_inj.mp ?_
  simp [cat]
theorem sjoin_cat : ∀ ys : List PySem.Str, PySem.Str.join (PySem.Str.ofString "") ys = cat ys
  | [] => rfl
  | [y] => by
    show y = cat [y]
    refine PySem.Str.ext' (Array.toList_inj.mp ?_)
    simp [cat]
  | y :: z :: r => by
    have ih := sjoin_cat (z :: r)
    show y ++ PySem.Str.ofString "" ++ PySem.Str.join (PySem.Str.ofString "") (z :: r) = cat (y :: z :: r)
    rw [ih, KFm.cat_t, cat_cons y]
theorem join_cat (ys : List PySem.Str) : Txt.join (PySem.Str.ofString "") ys = cat ys :=
  (PySem.StrLaws.glued_eq_join _ _).trans (sjoin_cat ys)
theorem sum_len {ys : List PySem.Str} {k : Nat} (h : ∀ y ∈ ys, y.length ≤ k) : (ys.map (·.length)).sum ≤ ys.length * k := by
  induction ys with
  | nil => simp
  | cons y r ih =>
    have h1 := h y (by simp)
    have h2 := ih fun z hz => h z (by simp [hz])
    simp only [List.map_cons, List.sum_cons, List.length_cons, Nat.add_mul, Nat.one_mul]
    omega
theorem join_call {prog : Program} {w : World} {A : Around} {E : Value → Shared → Prop} {s : Shared} {t : Tok} {Q : Value → Shared → Prop} {D : Addr} {items : Array Value} {ys : List PySem.Str} (hl : s.heap.IsList D items) (hi : StrsAre items.toList ys)
    (hw : ∀ y ∈ ys, y.length ≤ 16) (hn : ys.length ≤ 8000) (h : ∀ t' k, Q (.str (cat ys) t') { s with toks := k }) : wpAny (model prog w) A (call (.builtin "str.join") [.str (PySem.Str.ofString "") t, .ref D]) Q E s := by
  refine join_listW hl hi (by decide) ?_ fun t' k => ?_
  · have := sum_len hw
    omega
  · rw [join_cat]; exact h t' k
theorem quote_len (S : PySem.Str) (n : Nat) : (quoteS S n).length ≤ 3 := by
  unfold quoteS
  split
  · exact Nat.le_refl 3
  · exact (by decide : 1 ≤ 3)
theorem quote_map_len {α : Type} (l : List α) (f : α → Nat) (S : PySem.Str) : ∀ y ∈ l.map (fun a => quoteS S (f a)), y.length ≤ 16 := by
  intro y hy
  obtain ⟨a, _, rfl⟩ := List.mem_map.mp hy
  exact Nat.le_trans (quote_len _ _) (by decide)
/-- what the whole encoder writes -/
def encMax (S x : PySem.Str) : PySem.Str := cat ((bytesOf x.cps.toList).map fun a => quoteS S a.toNat)
theorem enc_count {α : Type} {x : PySem.Str} {f : UInt8 → α} (hx : x.length ≤ 1000) : ((bytesOf x.cps.toList).map f).length ≤ 8000 := by
  rw [List.length_map]
  have := bytesOf_len x.cps.toList
  have e : x.cps.toList.length = x.length := by simp [PySem.Str.length]
  omega
end
section
theorem calmCompC : True := by w_top off; trivial
/-- every sign of D is below 256 -/
def DelimOk (D : PySem.Str) : Prop := ∀ c : Nat, (Builtin.Str.occurrences D ⟨#[c]⟩ 0 D.length 1).isEmpty = false → c < 256
theorem delimOk_of {D : PySem.Str} (h : ∀ c ∈ D.cps.toList, c < 256) : DelimOk D := by
  intro c hc
  have := PySem.StrLaws.found_one D c
  rw [hc] at this
  exact h c (of_decide_eq_true this.symm)
/-- the least writing of one sign -/
def delimS (S D : PySem.Str) (c : Nat) : PySem.Str := if (Builtin.Str.occurrences D ⟨#[c]⟩ 0 D.length 1).isEmpty = true then ⟨#[c]⟩ else quoteS S c
theorem delim_in {S D : PySem.Str} {c : Nat} (h : (Builtin.Str.occurrences D ⟨#[c]⟩ 0 D.length 1).isEmpty = false) : quoteS S c = delimS S D c := by unfold delimS; rw [h]; rfl
theorem delim_out {S D : PySem.Str} {c : Nat} (h : (Builtin.Str.occurrences D ⟨#[c]⟩ 0 D.length 1).isEmpty = true) : (⟨#[c]⟩ : PySem.Str) = delimS S D c := by unfold delimS; rw [h]; rfl
theorem delim_map_len (l : List Nat) (S D : PySem.Str) : ∀ y ∈ l.map (delimS S D), y.length ≤ 16 := by
  intro y hy
  obtain ⟨a, _, rfl⟩ := List.mem_map.mp hy
  unfold delimS
  split
  · exact (by decide : 1 ≤ 16)
  · exact Nat.le_trans (quote_len _ _) (by decide)
def encMin (S D x : PySem.Str) : PySem.Str := cat (x.cps.toList.map (delimS S D))
theorem min_count {x : PySem.Str} {f : Nat → PySem.Str} (hx : x.length ≤ 1000) : (x.cps.toList.map f).length ≤ 8000 := by
  rw [List.length_map]
  have e : x.cps.toList.length = x.length := by simp [PySem.Str.length]
  omega
theorem text_room {x : PySem.Str} (hx : x.length ≤ 1000) : x.length ≤ sizeLine := by
  rw [PySem.sizeLine_eq]
  omega
theorem SrcS.introD {prog : Program} {w : World} {A : Around} {h₀ : Heap} {L : Addr} {m : PySem.Str → Option Value} {env : Env} {elt : Expr} {x : PySem.Str} {scope : Scope} {cl : List (PySem.Str × Addr)} {s : Shared} {news : List (Addr × Obj)}
    {b : PySem.Str} {tb : Tok} {q : Addr} {S D : PySem.Str} {Q : Value → Shared → Prop} (_HS : SafeOf w q S) (_HD : DelimOk D) (hh : A.handled = none) (F : Fr h₀ L s.heap m) (N : News h₀ L s.heap news) (hsz : b.length ≤ sizeLine)
    (turn : ∀ (a : Nat) (u : Tok) (hp : Heap), a ∈ b.cps.toList → Turn prog w A h₀ L m env elt x scope cl { s with heap := hp } news (.str ⟨#[a]⟩ u) (delimS S D a))
    (fin : ∀ ys hp, StrsAre ys (b.cps.toList.map (delimS S D)) → LCg.FinE h₀ L m { s with heap := hp } Q ys news) : SrcS prog w A h₀ L m env elt x scope cl Q (.str b tb) s :=
  SrcS.intro (delimS S D) hh F N hsz turn fin
end
section
theorem calmCompF : True := by w_top off; trivial
section
variable {prog : Program} {w : World} {A : Around} {h₀ : Heap} {L : Addr} {m : PySem.Str → Option Value} {env : Env} {ct elt iter : Expr} {x : PySem.Str} {scope : Scope} {cl : List (PySem.Str × Addr)} {s : Shared} {E : Value → Shared → Prop}
  {P : Nat → Value → Prop} {Fin : List Value → List (Addr × Obj) → Prop} {news : List (Addr × Obj)}
/-- one turn of a comprehension that lets a sign in or leaves it -/
def TurnF (prog : Program) (w : World) (A : Around) (h₀ : Heap) (L : Addr) (m : PySem.Str → Option Value) (env : Env) (ct elt : Expr) (x : PySem.Str) (scope : Scope) (cl : List (PySem.Str × Addr)) (s : Shared) (news : List (Addr × Obj)) (v : Value) (a : Nat) (p : Nat → Bool) : Prop :=
  ∀ I oI C oC D m₂ ys h tk (E' : Value → Shared → Prop), LCg.NsObj oC m₂ → m₂ x = some v → Fr h₀ L h m → News h₀ L h ((I, oI) :: (C, oC) :: (D, LCg.lst ys) :: news) → LCg.Off3 I C D news → ((@Ne Nat I C) ∧ (@Ne Nat I D) ∧ (@Ne Nat C D)) →
    wpAny (model prog w) A (isTrue ct (compEnvC scope cl C env) (eval ct (compEnvC scope cl C env))) (fun b s' => if b = true then wpAny (model prog w) A (eval elt (compEnvC scope cl C env)) (LCg.CompEnd h₀ L m { s with heap := h, toks := tk } I oI C oC D (LCg.lst ys) (fun _ => True) (fun r news' => news' = news ∧ p a = true ∧ ∃ t, r = .str ⟨#[a]⟩ t)) E' s'
      else LCg.CompEnd h₀ L m { s with heap := h, toks := tk } I oI C oC D (LCg.lst ys) (fun _ => True) (fun _ news' => news' = news ∧ p a = false) Value.none s') E' { s with heap := h, toks := tk }
theorem restF_of {n : Nat} (items : List Nat) (p : Nat → Bool) (hn : items.length = n) (hP : ∀ i v, i < n → P i v → ∃ a u, items[i]? = some a ∧ v = .str ⟨#[a]⟩ u)
    (turn : ∀ a u, a ∈ items → TurnF prog w A h₀ L m env ct elt x scope cl s news (.str ⟨#[a]⟩ u) a p)
    (fin : ∀ ys, StrsAre ys ((items.filter p).map fun c => (⟨#[c]⟩ : PySem.Str)) → Fin ys news) : LCt.CompRestT prog w A h₀ L m env ct elt x scope cl s (fun _ => True) P Fin n 0 [] news := by
  have key : ∀ (j i : Nat) (ys : List Value), i + j = n → StrsAre ys (((items.take i).filter p).map fun c => (⟨#[c]⟩ : PySem.Str)) → LCt.CompRestT prog w A h₀ L m env ct elt x scope cl s (fun _ => True) P Fin j i ys news := by
    intro j
    induction j with
    | zero =>
      intro i ys hi hy
      have e : i = items.length := by omega
      subst e
      rw [List.take_length] at hy
      exact LCt.CompRestT.zero (fin ys hy)
    | succ j ih =>
      intro i ys hi hy
      refine LCt.CompRestT.succ ?_
      intro v I oI C oC D m₂ h tk E' hv hC hx F N off ne
      obtain ⟨a, u, ha, rfl⟩ := hP i v (by omega) hv
      refine wpAny_mono (turn a u (List.mem_of_getElem? ha) I oI C oC D m₂ ys h tk E' hC hx F N off ne) (fun b s₂ hq => ?_) fun _ _ e => e
      cases b with
      | true =>
        simp only [if_true] at hq ⊢
        refine wpAny_mono hq (fun y s₃ hr => ?_) fun _ _ e => e
        obtain ⟨h', tk', nw, e, F', N', off', hS, hn, hpa, t', hy'⟩ := hr
        rw [hn] at N' off'
        refine ⟨h', tk', news, e, F', N', off', hS, ?_⟩
        rw [hy']
        refine ih (i + 1) _ (by omega) ?_
        rw [List.take_add_one, ha, List.filter_append]
        simp only [Option.toList_some, List.filter_cons, hpa, if_true, List.filter_nil, List.map_append, List.map_cons, List.map_nil]
        exact strs_snoc hy
      | false =>
        simp only [Bool.false_eq_true, if_false] at hq ⊢
        obtain ⟨h', tk', nw, e, F', N', off', hS, hn, hpa⟩ := hq
        rw [hn] at N' off'
        refine ⟨h', tk', news, e, F', N', off', hS, ih (i + 1) _ (by omega) ?_⟩
        rw [List.take_add_one, ha, List.filter_append]
        simp only [Option.toList_some, List.filter_cons, hpa, Bool.false_eq_true, if_false, List.filter_nil, List.append_nil]
        exact hy
  exact key n 0 [] (by omega) (by simp only [List.take_zero, List.filter_nil, List.map_nil]; exact .nil)
/-- the source of a comprehension with a test is a text -/
def SrcF (prog : Program) (w : World) (A : Around) (h₀ : Heap) (L : Addr) (m : PySem.Str → Option Value) (env : Env) (ct elt : Expr) (x : PySem.Str) (scope : Scope) (cl : List (PySem.Str × Addr)) (Q : Value → Shared → Prop) (xv : Value) (s₁ : Shared) : Prop :=
  ∃ (b : PySem.Str) (tb : Tok) (news : List (Addr × Obj)) (p : Nat → Bool), xv = .str b tb ∧ A.handled = none ∧ Fr h₀ L s₁.heap m ∧ News h₀ L s₁.heap news ∧ b.length ≤ sizeLine ∧
    (∀ s₂ : Shared, (∃ h, s₂ = { s₁ with heap := h }) → (∀ a u, a ∈ b.cps.toList → TurnF prog w A h₀ L m env ct elt x scope cl s₂ news (.str ⟨#[a]⟩ u) a p) ∧ (∀ ys, StrsAre ys ((b.cps.toList.filter p).map fun c => (⟨#[c]⟩ : PySem.Str)) → LCg.FinE h₀ L m s₂ Q ys news))
theorem ListComp_F {px pos : Pos} {Q : Value → Shared → Prop} (_F₀ : Fr h₀ L s.heap m)
    (hclos : closureFor scope env = pure cl) (hcell : ∀ y ∈ scope.names, y.2 ≠ .cell) (hkind : scope.kind = .function)
    (hnames : ∀ y ∈ scope.names, y.2 = .local → scope.names.lookup y.1 = some .local) (hx : scope.names.lookup x = some .local)
    (h : wpAny (model prog w) A (eval iter env) (SrcF prog w A h₀ L m env ct elt x scope cl Q) E s)
    (hs : ∀ x, foldedSetIterable iter env x = pure x := by intro _; rfl) :
    wpAny (model prog w) A (eval (.ListComp elt [⟨.Name x px, iter, [ct], 0⟩] scope pos) env) Q E s := by
  rw [eval_ListComp]
  refine wpAny_comprehension_free (use := none) rfl hs hclos hkind hnames (wpAny_mono h (fun xv s₁ h₁ => ?_) fun _ _ e => e)
  obtain ⟨b, tb, news, g, rfl, hh, F, N, hsz, R⟩ := h₁
  refine str_walks fun o St hW hst hIo hSt => ?_
  have up : ∀ a o', s₁.heap.get? a = some o' → (s₁.heap.push o).get? a = some o' := fun a o e => Heap.get?_push_of_some _ e
  obtain ⟨turn, fin⟩ := R { s₁ with heap := s₁.heap.push o } ⟨_, rfl⟩
  refine LCt.block_T (S := fun _ => True) (Fin := LCg.FinE h₀ L m _ Q) (hW A hh) hsz hIo (fun i h h' o nw st e e' _ _ _ => hSt i h h' o st e e') hcell hkind hx hst (fun b' hb' => ?_)
    (F.keeps up) (N.grown up) (Nat.ne_of_lt F.ns.lt) (next_is_new F) (fun p hp => Nat.ne_of_lt (Heap.lt_size (N p hp).1)) trivial
    (restF_of b.cps.toList g (by simp) (fun i v hi hP => ?_) turn fin) ?_
  · rw [List.mem_singleton.mp hb']
    show s₁.heap.objs.size < (s₁.heap.push _).objs.size
    rw [Heap.size_push]; exact Nat.lt_succ_self _
  · obtain ⟨c, u, hc, rfl⟩ := hP
    exact ⟨c, u, by simpa using hc, rfl⟩
  · intro D C h tk m' ys news' F' N' o1 hn hC₀ hD₀ hCL hDL hCD offC fin'
    refine ⟨m', hn, fun h'' hs'' => fin' D h'' tk (F'.change hs'' hCL hC₀) (fun p hp => ?_) o1⟩
    refine ⟨hs''.extBut _ _ ?_ (N' p hp).1, (N' p hp).2⟩
    rcases List.mem_cons.mp hp with rfl | hp
    · exact Ne.symm hCD
    · exact offC p hp
theorem SrcF.intro {b : PySem.Str} {tb : Tok} {Q : Value → Shared → Prop} (p : Nat → Bool) (hh : A.handled = none) (F : Fr h₀ L s.heap m) (N : News h₀ L s.heap news) (hsz : b.length ≤ sizeLine)
    (turn : ∀ (a : Nat) (u : Tok) (hp : Heap), a ∈ b.cps.toList → TurnF prog w A h₀ L m env ct elt x scope cl { s with heap := hp } news (.str ⟨#[a]⟩ u) a p)
    (fin : ∀ ys hp, StrsAre ys ((b.cps.toList.filter p).map fun c => (⟨#[c]⟩ : PySem.Str)) → LCg.FinE h₀ L m { s with heap := hp } Q ys news) : SrcF prog w A h₀ L m env ct elt x scope cl Q (.str b tb) s :=
  ⟨b, tb, news, p, rfl, hh, F, N, hsz, fun s₂ ⟨hp, e⟩ => by
    subst e
    exact ⟨fun a u ha => turn a u hp ha, fun ys hy => fin ys hp hy⟩⟩
end
end
section
theorem calmEncs : True := by w_top off; trivial
local macro_rules | `(tactic| k_room) => `(tactic| ktr_room)
local macro_rules | `(tactic| k_units) => `(tactic| ktr_units)
local macro_rules | `(tactic| walk_at "MINE enter") => `(tactic| k_dflt (refine' code_def ?k1 ?k2 ?k3 ?k4 ?k5 ?kA ?kF ?kK ?k6 ?k7 ?k8 ?k9 ?kB ?_ ?c2 ?c3 ?c4 ?c5; (case kA => exact rfl); (case kF => exact rfl); (case kK => assumption); (case k1 => k_asm); (case k2 => k_asm); (case k3 => k_asm); (case k4 => k_asm); (case k5 => k_asm); (case k6 => k_is); (case k7 => k_is); (case k8 => ktr_room); (case k9 => first | exact BindsTo.of_eq rfl | exact binds_K (by k_in) rfl (by k_is) rfl rfl rfl); (case c5 => decide); (case kB => exact locs rfl); (case c2 => exact rfl); (case c3 => exact rfl); (case c4 => exact rfl); k_whole; intro g' L' h' FG' F' N' B' X' T'; (try dsimp only); (try k_lift B'); (try k_fold)))
local macro_rules | `(tactic| walk_at "getMethod str") => `(tactic| (k_here; with_reducible refine encode_method ?_))
local macro_rules | `(tactic| walk_at "call builtin:str.encode") => `(tactic| (k_here; (with_reducible show wpAny _ _ (call (Value.builtin "str.encode") [Value.str _ _, Value.str _ _]) _ _ _); refine' encode_call ?k1 ?k2 ?k3 ?_; (case k1 => assumption); (case k2 => omega); (case k3 => first | exact Or.inl rfl | exact Or.inr rfl); intro _ _))
local macro_rules | `(tactic| walk_at "eval ListComp") => `(tactic| (k_here; (with_reducible show wpAny _ _ (eval (Expr.ListComp _ [⟨_, Expr.Name (PySem.Str.ofString "bytestr") _, _, _⟩] _ _) _) _ _ _); k_dflt (refine' ListComp_B ?k0 ?k1 ?k2 ?k3 ?k4 ?k5 ?_ ?k6; (case k0 => k_asm); (case k1 => with_unfolding_all rfl); (case k2 => decide); (case k3 => rfl); (case k4 => decide); (case k5 => rfl); (case k6 => intro _; rfl))))
local macro_rules | `(tactic| walk_at "SrcB") => `(tactic| k_dflt (refine' SrcB.intro ?k1 ?k2 ?k3 ?k4 ?k5 ?kt ?kf; (case k1 => with_reducible assumption); (case k2 => rfl); (case k3 => k_asm); (case k4 => k_asm); (case k5 => exact bytes_room (by assumption)); (case' kt => (intro b9 u9 g9 hb9; unfold Turn; intro I' oI' C' oC' D' m' ys' h' tk' E' hC' hx' F' N' off' ne'; (have hlt9 := b9.toNat_lt))); (case' kf => (intro ys9 g9 hy9))))
local macro_rules | `(tactic| walk_at "CompEnd") => `(tactic| k_dflt (exact ⟨_, _, _, rfl, by assumption, by assumption, by assumption, trivial, rfl, _, rfl⟩))
local macro_rules | `(tactic| walk_at "MINE back") => `(tactic| ((case kB => k_asm); (case kF => k_asm); (case kX => k_asm); (case kN => k_asm); (case kT => k_asm); (case kK => first | exact rfl | assumption); (case kd => ktr_room); (case ku => ktr_units)))
local macro_rules | `(tactic| walk_at "call ref") => `(tactic| (k_here; (with_reducible show wpAny _ _ (call (Value.ref _) [Value.ref _, Value.int _ _]) _ _ _); k_dflt (refine' quote_int ?kS ?kl _ _ _ _ _ _ _ _ _ _ _ _ _ _ _ _ _ _ _ _ _ _ _ ?kB ?kF ?kX ?kN ?kT ?kK ?kd ?ku ?kr; (case kS => with_reducible assumption); (case kl => omega); walk_at "MINE back"; (case' kr => (intro v9 h9 tk9 hv9 F9 N9; obtain ⟨t9, hw9⟩ := hv9; subst hw9)))))
local macro_rules | `(tactic| walk_at "call builtin:str.join") => `(tactic| (k_here; (with_reducible show wpAny _ _ (call (Value.builtin "str.join") [Value.str _ _, Value.ref _]) _ _ _); k_dflt (refine' join_call ?k1 ?k2 ?k3 ?k4 ?_; (case k1 => exact News.isList (by k_asm) (by k_mem)); (case k2 => assumption); (case k3 => exact quote_map_len _ _ _); (case k4 => exact enc_count (by assumption))); intro _ _))
local macro_rules | `(tactic| walk_at "eval ListComp") => `(tactic| (k_here; (with_reducible show wpAny _ _ (eval (Expr.ListComp (Expr.IfExp _ _ _ _) [⟨_, Expr.Name (PySem.Str.ofString "text") _, _, _⟩] _ _) _) _ _ _); k_dflt (refine' ListComp_S ?k0 ?k1 ?k2 ?k3 ?k4 ?k5 ?_ ?k6; (case k0 => k_asm); (case k1 => with_unfolding_all rfl); (case k2 => decide); (case k3 => rfl); (case k4 => decide); (case k5 => rfl); (case k6 => intro _; rfl))))
local macro_rules | `(tactic| walk_at "SrcS") => `(tactic| k_dflt (refine' SrcS.introD ?k1 ?k1b ?k2 ?k3 ?k4 ?k5 ?kt ?kf; (case k1 => with_reducible assumption); (case k1b => with_reducible assumption); (case k2 => rfl); (case k3 => k_asm); (case k4 => k_asm); (case k5 => exact text_room (by assumption)); (case' kt => (intro b9 u9 g9 hb9; unfold Turn; intro I' oI' C' oC' D' m' ys' h' tk' E' hC' hx' F' N' off' ne')); (case' kf => (intro ys9 g9 hy9))))
local macro_rules | `(tactic| walk_at "CompEnd") => `(tactic| k_dflt (refine' ⟨_, _, _, rfl, by assumption, by assumption, by assumption, trivial, rfl, _, congrArg (fun z => Value.str z _) ?_⟩; first | exact rfl | exact delim_in (by assumption) | exact delim_out (by assumption)))
local macro_rules | `(tactic| walk_at "call ref") => `(tactic| (k_here; (with_reducible show wpAny _ _ (call (Value.ref _) [Value.ref _, Value.str _ _]) _ _ _); k_dflt (refine' quote_str ?kS ?kl _ _ _ _ _ _ _ _ _ _ _ _ _ _ _ _ _ _ _ _ _ _ _ ?kB ?kF ?kX ?kN ?kT ?kK ?kd ?ku ?kr; (case kS => with_reducible assumption); (case kl => (refine (show DelimOk _ from by with_reducible assumption) _ ?_; assumption)); walk_at "MINE back"; (case' kr => (intro v9 h9 tk9 hv9 F9 N9; obtain ⟨t9, hw9⟩ := hv9; subst hw9)))))
local macro_rules | `(tactic| walk_at "call builtin:str.join") => `(tactic| (k_here; (with_reducible show wpAny _ _ (call (Value.builtin "str.join") [Value.str _ _, Value.ref _]) _ _ _); k_dflt (refine' join_call ?k1 ?k2 ?k3 ?k4 ?_; (case k1 => exact News.isList (by k_asm) (by k_mem)); (case k2 => assumption); (case k3 => exact delim_map_len _ _ _); (case k4 => exact min_count (by assumption))); intro _ _))
abbrev sU : PySem.Str := PySem.Str.ofString "~-._0123456789ABCDEFGHIJKLMNOPQRSTUVWXYZabcdefghijklmnopqrstuvwxyz!$&'()*+,;=%"
abbrev dU : PySem.Str := PySem.Str.ofString ":/?#[]@"
theorem dokU : DelimOk dU := delimOk_of (by decide +kernel)
set_option maxRecDepth 100000 in
theorem safeU {w : World} : SafeOf w 90 sU := by
  unfold SafeOf
  intro prog A E s h₀ L m Q ex F X h
  k_dflt (refine' get_own ?k1 ?k2 ?k3 ?k4 ?k5 ?k6 ?k7 ?k8 ?k9 ?_; (case k1 => k_asm); (case k2 => k_asm); (case k3 => k_inst); (case k4 => k_is); (case k5 => k_is); (case k6 => k_is); (case k7 => k_is); (case k8 => k_get); (case k9 => k_handed); k_whole)
  exact h _ _
abbrev sP : PySem.Str := PySem.Str.ofString "~-._0123456789ABCDEFGHIJKLMNOPQRSTUVWXYZabcdefghijklmnopqrstuvwxyz!$&'()*+,;=%:@"
abbrev dP : PySem.Str := PySem.Str.ofString "/?#[]"
theorem dokP : DelimOk dP := delimOk_of (by decide +kernel)
set_option maxRecDepth 100000 in
theorem safeP {w : World} : SafeOf w 96 sP := by
  unfold SafeOf
  intro prog A E s h₀ L m Q ex F X h
  k_dflt (refine' get_own ?k1 ?k2 ?k3 ?k4 ?k5 ?k6 ?k7 ?k8 ?k9 ?_; (case k1 => k_asm); (case k2 => k_asm); (case k3 => k_inst); (case k4 => k_is); (case k5 => k_is); (case k6 => k_is); (case k7 => k_is); (case k8 => k_get); (case k9 => k_handed); k_whole)
  exact h _ _
abbrev sL : PySem.Str := PySem.Str.ofString "~-._0123456789ABCDEFGHIJKLMNOPQRSTUVWXYZabcdefghijklmnopqrstuvwxyz!$&'()*+,;=%@"
abbrev dL : PySem.Str := PySem.Str.ofString ":/?#[]"
theorem dokL : DelimOk dL := delimOk_of (by decide +kernel)
set_option maxRecDepth 100000 in
theorem safeL {w : World} : SafeOf w 99 sL := by
  unfold SafeOf
  intro prog A E s h₀ L m Q ex F X h
  k_dflt (refine' get_own ?k1 ?k2 ?k3 ?k4 ?k5 ?k6 ?k7 ?k8 ?k9 ?_; (case k1 => k_asm); (case k2 => k_asm); (case k3 => k_inst); (case k4 => k_is); (case k5 => k_is); (case k6 => k_is); (case k7 => k_is); (case k8 => k_get); (case k9 => k_handed); k_whole)
  exact h _ _
abbrev sK : PySem.Str := PySem.Str.ofString "~-._0123456789ABCDEFGHIJKLMNOPQRSTUVWXYZabcdefghijklmnopqrstuvwxyz!$'()*+,;%:@/?"
abbrev dK : PySem.Str := PySem.Str.ofString "#[]&="
theorem dokK : DelimOk dK := delimOk_of (by decide +kernel)
set_option maxRecDepth 100000 in
theorem safeK {w : World} : SafeOf w 105 sK := by
  unfold SafeOf
  intro prog A E s h₀ L m Q ex F X h
  k_dflt (refine' get_own ?k1 ?k2 ?k3 ?k4 ?k5 ?k6 ?k7 ?k8 ?k9 ?_; (case k1 => k_asm); (case k2 => k_asm); (case k3 => k_inst); (case k4 => k_is); (case k5 => k_is); (case k6 => k_is); (case k7 => k_is); (case k8 => k_get); (case k9 => k_handed); k_whole)
  exact h _ _
abbrev sV : PySem.Str := PySem.Str.ofString "~-._0123456789ABCDEFGHIJKLMNOPQRSTUVWXYZabcdefghijklmnopqrstuvwxyz!$'()*+,;=%:@/?"
abbrev dV : PySem.Str := PySem.Str.ofString "#[]&"
theorem dokV : DelimOk dV := delimOk_of (by decide +kernel)
set_option maxRecDepth 100000 in
theorem safeV {w : World} : SafeOf w 111 sV := by
  unfold SafeOf
  intro prog A E s h₀ L m Q ex F X h
  k_dflt (refine' get_own ?k1 ?k2 ?k3 ?k4 ?k5 ?k6 ?k7 ?k8 ?k9 ?_; (case k1 => k_asm); (case k2 => k_asm); (case k3 => k_inst); (case k4 => k_is); (case k5 => k_is); (case k6 => k_is); (case k7 => k_is); (case k8 => k_get); (case k9 => k_handed); k_whole)
  exact h _ _
abbrev sF : PySem.Str := PySem.Str.ofString "~-._0123456789ABCDEFGHIJKLMNOPQRSTUVWXYZabcdefghijklmnopqrstuvwxyz!$&'()*+,;=%:@/?"
abbrev dF : PySem.Str := PySem.Str.ofString "#[]"
theorem dokF : DelimOk dF := delimOk_of (by decide +kernel)
set_option maxRecDepth 100000 in
theorem safeF {w : World} : SafeOf w 117 sF := by
  unfold SafeOf
  intro prog A E s h₀ L m Q ex F X h
  k_dflt (refine' get_own ?k1 ?k2 ?k3 ?k4 ?k5 ?k6 ?k7 ?k8 ?k9 ?_; (case k1 => k_asm); (case k2 => k_asm); (case k3 => k_inst); (case k4 => k_is); (case k5 => k_is); (case k6 => k_is); (case k7 => k_is); (case k8 => k_get); (case k9 => k_handed); k_whole)
  exact h _ _
abbrev sR : PySem.Str := PySem.Str.ofString "~-._0123456789ABCDEFGHIJKLMNOPQRSTUVWXYZabcdefghijklmnopqrstuvwxyz"
set_option maxRecDepth 100000 in
theorem safeR {w : World} : SafeOf w 123 sR := by
  unfold SafeOf
  intro prog A E s h₀ L m Q ex F X h
  k_dflt (refine' get_own ?k1 ?k2 ?k3 ?k4 ?k5 ?k6 ?k7 ?k8 ?k9 ?_; (case k1 => k_asm); (case k2 => k_asm); (case k3 => k_inst); (case k4 => k_is); (case k5 => k_is); (case k6 => k_is); (case k7 => k_is); (case k8 => k_get); (case k9 => k_handed); k_whole)
  exact h _ _
set_option maxRecDepth 100000 in
set_option maxHeartbeats 8000000 in
theorem maxU {prog : Program} {w : World} {x : PySem.Str} {t : Tok} (hx : x.length ≤ 1000) (hc : Clean x) :
    Gives prog w (Mine.hd.heap_39 w.params) (.ref 166) [.str x t] [] 4 30 (fun r => ∃ t', r = .str (encMax sU x) t') := by
  unfold Gives
  intro dp un gd cn cs a ccd cl outer A₀ base h₀ L m news s p loose mean mg mb Q E B F X N T hk hd hu hret
  have HS := @safeU w
  refine wpAny_call ?_
  walk_at "MINE enter"
  k_steps
  exact hret _ _ _ ⟨_, rfl⟩ (by assumption) (news_tail (by assumption))
set_option maxRecDepth 100000 in
set_option maxHeartbeats 8000000 in
theorem minU {prog : Program} {w : World} {x : PySem.Str} {t : Tok} (hx : x.length ≤ 1000) :
    Gives prog w (Mine.hd.heap_39 w.params) (.ref 166) [.str x t, .bool false] [] 4 30 (fun r => ∃ t', r = .str (encMin sU dU x) t') := by
  unfold Gives
  intro dp un gd cn cs a ccd cl outer A₀ base h₀ L m news s p loose mean mg mb Q E B F X N T hk hd hu hret
  have HS := @safeU w
  have HD := dokU
  refine wpAny_call ?_
  walk_at "MINE enter"
  k_steps
  exact hret _ _ _ ⟨_, rfl⟩ (by assumption) (news_tail (by assumption))
set_option maxRecDepth 100000 in
set_option maxHeartbeats 8000000 in
theorem maxP {prog : Program} {w : World} {x : PySem.Str} {t : Tok} (hx : x.length ≤ 1000) (hc : Clean x) :
    Gives prog w (Mine.hd.heap_39 w.params) (.ref 136) [.str x t] [] 4 30 (fun r => ∃ t', r = .str (encMax sP x) t') := by
  unfold Gives
  intro dp un gd cn cs a ccd cl outer A₀ base h₀ L m news s p loose mean mg mb Q E B F X N T hk hd hu hret
  have HS := @safeP w
  refine wpAny_call ?_
  walk_at "MINE enter"
  k_steps
  exact hret _ _ _ ⟨_, rfl⟩ (by assumption) (news_tail (by assumption))
set_option maxRecDepth 100000 in
set_option maxHeartbeats 8000000 in
theorem minP {prog : Program} {w : World} {x : PySem.Str} {t : Tok} (hx : x.length ≤ 1000) :
    Gives prog w (Mine.hd.heap_39 w.params) (.ref 136) [.str x t, .bool false] [] 4 30 (fun r => ∃ t', r = .str (encMin sP dP x) t') := by
  unfold Gives
  intro dp un gd cn cs a ccd cl outer A₀ base h₀ L m news s p loose mean mg mb Q E B F X N T hk hd hu hret
  have HS := @safeP w
  have HD := dokP
  refine wpAny_call ?_
  walk_at "MINE enter"
  k_steps
  exact hret _ _ _ ⟨_, rfl⟩ (by assumption) (news_tail (by assumption))
set_option maxRecDepth 100000 in
set_option maxHeartbeats 8000000 in
theorem maxL {prog : Program} {w : World} {x : PySem.Str} {t : Tok} (hx : x.length ≤ 1000) (hc : Clean x) :
    Gives prog w (Mine.hd.heap_39 w.params) (.ref 142) [.str x t] [] 4 30 (fun r => ∃ t', r = .str (encMax sL x) t') := by
  unfold Gives
  intro dp un gd cn cs a ccd cl outer A₀ base h₀ L m news s p loose mean mg mb Q E B F X N T hk hd hu hret
  have HS := @safeL w
  refine wpAny_call ?_
  walk_at "MINE enter"
  k_steps
  exact hret _ _ _ ⟨_, rfl⟩ (by assumption) (news_tail (by assumption))
set_option maxRecDepth 100000 in
set_option maxHeartbeats 8000000 in
theorem minL {prog : Program} {w : World} {x : PySem.Str} {t : Tok} (hx : x.length ≤ 1000) :
    Gives prog w (Mine.hd.heap_39 w.params) (.ref 142) [.str x t, .bool false] [] 4 30 (fun r => ∃ t', r = .str (encMin sL dL x) t') := by
  unfold Gives
  intro dp un gd cn cs a ccd cl outer A₀ base h₀ L m news s p loose mean mg mb Q E B F X N T hk hd hu hret
  have HS := @safeL w
  have HD := dokL
  refine wpAny_call ?_
  walk_at "MINE enter"
  k_steps
  exact hret _ _ _ ⟨_, rfl⟩ (by assumption) (news_tail (by assumption))
set_option maxRecDepth 100000 in
set_option maxHeartbeats 8000000 in
theorem maxK {prog : Program} {w : World} {x : PySem.Str} {t : Tok} (hx : x.length ≤ 1000) (hc : Clean x) :
    Gives prog w (Mine.hd.heap_39 w.params) (.ref 148) [.str x t] [] 4 30 (fun r => ∃ t', r = .str (encMax sK x) t') := by
  unfold Gives
  intro dp un gd cn cs a ccd cl outer A₀ base h₀ L m news s p loose mean mg mb Q E B F X N T hk hd hu hret
  have HS := @safeK w
  refine wpAny_call ?_
  walk_at "MINE enter"
  k_steps
  exact hret _ _ _ ⟨_, rfl⟩ (by assumption) (news_tail (by assumption))
set_option maxRecDepth 100000 in
set_option maxHeartbeats 8000000 in
theorem minK {prog : Program} {w : World} {x : PySem.Str} {t : Tok} (hx : x.length ≤ 1000) :
    Gives prog w (Mine.hd.heap_39 w.params) (.ref 148) [.str x t, .bool false] [] 4 30 (fun r => ∃ t', r = .str (encMin sK dK x) t') := by
  unfold Gives
  intro dp un gd cn cs a ccd cl outer A₀ base h₀ L m news s p loose mean mg mb Q E B F X N T hk hd hu hret
  have HS := @safeK w
  have HD := dokK
  refine wpAny_call ?_
  walk_at "MINE enter"
  k_steps
  exact hret _ _ _ ⟨_, rfl⟩ (by assumption) (news_tail (by assumption))
set_option maxRecDepth 100000 in
set_option maxHeartbeats 8000000 in
theorem maxV {prog : Program} {w : World} {x : PySem.Str} {t : Tok} (hx : x.length ≤ 1000) (hc : Clean x) :
    Gives prog w (Mine.hd.heap_39 w.params) (.ref 154) [.str x t] [] 4 30 (fun r => ∃ t', r = .str (encMax sV x) t') := by
  unfold Gives
  intro dp un gd cn cs a ccd cl outer A₀ base h₀ L m news s p loose mean mg mb Q E B F X N T hk hd hu hret
  have HS := @safeV w
  refine wpAny_call ?_
  walk_at "MINE enter"
  k_steps
  exact hret _ _ _ ⟨_, rfl⟩ (by assumption) (news_tail (by assumption))
set_option maxRecDepth 100000 in
set_option maxHeartbeats 8000000 in
theorem minV {prog : Program} {w : World} {x : PySem.Str} {t : Tok} (hx : x.length ≤ 1000) :
    Gives prog w (Mine.hd.heap_39 w.params) (.ref 154) [.str x t, .bool false] [] 4 30 (fun r => ∃ t', r = .str (encMin sV dV x) t') := by
  unfold Gives
  intro dp un gd cn cs a ccd cl outer A₀ base h₀ L m news s p loose mean mg mb Q E B F X N T hk hd hu hret
  have HS := @safeV w
  have HD := dokV
  refine wpAny_call ?_
  walk_at "MINE enter"
  k_steps
  exact hret _ _ _ ⟨_, rfl⟩ (by assumption) (news_tail (by assumption))
set_option maxRecDepth 100000 in
set_option maxHeartbeats 8000000 in
theorem maxF {prog : Program} {w : World} {x : PySem.Str} {t : Tok} (hx : x.length ≤ 1000) (hc : Clean x) :
    Gives prog w (Mine.hd.heap_39 w.params) (.ref 160) [.str x t] [] 4 30 (fun r => ∃ t', r = .str (encMax sF x) t') := by
  unfold Gives
  intro dp un gd cn cs a ccd cl outer A₀ base h₀ L m news s p loose mean mg mb Q E B F X N T hk hd hu hret
  have HS := @safeF w
  refine wpAny_call ?_
  walk_at "MINE enter"
  k_steps
  exact hret _ _ _ ⟨_, rfl⟩ (by assumption) (news_tail (by assumption))
set_option maxRecDepth 100000 in
set_option maxHeartbeats 8000000 in
theorem minF {prog : Program} {w : World} {x : PySem.Str} {t : Tok} (hx : x.length ≤ 1000) :
    Gives prog w (Mine.hd.heap_39 w.params) (.ref 160) [.str x t, .bool false] [] 4 30 (fun r => ∃ t', r = .str (encMin sF dF x) t') := by
  unfold Gives
  intro dp un gd cn cs a ccd cl outer A₀ base h₀ L m news s p loose mean mg mb Q E B F X N T hk hd hu hret
  have HS := @safeF w
  have HD := dokF
  refine wpAny_call ?_
  walk_at "MINE enter"
  k_steps
  exact hret _ _ _ ⟨_, rfl⟩ (by assumption) (news_tail (by assumption))
set_option maxRecDepth 100000 in
set_option maxHeartbeats 8000000 in
theorem maxR {prog : Program} {w : World} {x : PySem.Str} {t : Tok} (hx : x.length ≤ 1000) (hc : Clean x) :
    Gives prog w (Mine.hd.heap_39 w.params) (.ref 130) [.str x t] [] 4 30 (fun r => ∃ t', r = .str (encMax sR x) t') := by
  unfold Gives
  intro dp un gd cn cs a ccd cl outer A₀ base h₀ L m news s p loose mean mg mb Q E B F X N T hk hd hu hret
  have HS := @safeR w
  refine wpAny_call ?_
  walk_at "MINE enter"
  k_steps
  exact hret _ _ _ ⟨_, rfl⟩ (by assumption) (news_tail (by assumption))
end
section
theorem calmByt : True := by w_top off; trivial
section
open Builtin PySem.Builtin.Bytes
set_option maxRecDepth 100000
def hx (n : Nat) : List UInt8 := [(hexd (n / 16)).toUInt8, (hexd (n % 16)).toUInt8]
theorem slot_strip : Slot "bytes" "strip" "bytes.strip" :=
  .of (owner := "bytes") (n := "strip") (by rw [typeLookup_type, builtinLookup_eq_fast]; kernel_rfl) (by decide +kernel) (by decide +kernel) (by decide +kernel)
    (by first | exact .inl (by decide +kernel) | exact .inr (by decide +kernel)) (by rw [isSubtype_type]; kernel_rfl)
theorem type_strip : typeOf (.builtin "bytes.strip") = pure (.type "method_descriptor") := by show builtinType _ = _; rw [builtinType_eq_fast]; kernel_rfl
theorem entry_strip : entryFor table "bytes.strip" = some Builtin.«bytes.strip» := entryFor_of_tree (by kernel_rfl)
theorem args_strip (a b : Value) : argsOk "bytes.strip" ⟨[a, b], []⟩ := by
  unfold argsOk; rw [signature?_of (id := "bytes.strip") (n := ['p', 'i', 'r', 't', 's']) (o := ['s', 'e', 't', 'y', 'b']) (by kernel_rfl) FB.owner_bytes]; kernel_rfl
theorem slot_split : Slot "bytes" "split" "bytes.split" :=
  .of (owner := "bytes") (n := "split") (by rw [typeLookup_type, builtinLookup_eq_fast]; kernel_rfl) (by decide +kernel) (by decide +kernel) (by decide +kernel)
    (by first | exact .inl (by decide +kernel) | exact .inr (by decide +kernel)) (by rw [isSubtype_type]; kernel_rfl)
theorem type_split : typeOf (.builtin "bytes.split") = pure (.type "method_descriptor") := by show builtinType _ = _; rw [builtinType_eq_fast]; kernel_rfl
theorem entry_split : entryFor table "bytes.split" = some Builtin.«bytes.split» := entryFor_of_tree (by kernel_rfl)
theorem args_split (a b : Value) : argsOk "bytes.split" ⟨[a, b], []⟩ := by
  unfold argsOk; rw [signature?_of (id := "bytes.split") (n := ['t', 'i', 'l', 'p', 's']) (o := ['s', 'e', 't', 'y', 'b']) (by kernel_rfl) FB.owner_bytes]; kernel_rfl
theorem slot_join : Slot "bytes" "join" "bytes.join" :=
  .of (owner := "bytes") (n := "join") (by rw [typeLookup_type, builtinLookup_eq_fast]; kernel_rfl) (by decide +kernel) (by decide +kernel) (by decide +kernel)
    (by first | exact .inl (by decide +kernel) | exact .inr (by decide +kernel)) (by rw [isSubtype_type]; kernel_rfl)
theorem type_join : typeOf (.builtin "bytes.join") = pure (.type "method_descriptor") := by show builtinType _ = _; rw [builtinType_eq_fast]; kernel_rfl
theorem entry_join : entryFor table "bytes.join" = some Builtin.«bytes.join» := entryFor_of_tree (by kernel_rfl)
theorem args_join (a b : Value) : argsOk "bytes.join" ⟨[a, b], []⟩ := by
  unfold argsOk; rw [signature?_of (id := "bytes.join") (n := ['n', 'i', 'o', 'j']) (o := ['s', 'e', 't', 'y', 'b']) (by kernel_rfl) FB.owner_bytes]; kernel_rfl
theorem args_decode2 (a b : Value) : argsOk "bytes.decode" ⟨[a, b], []⟩ := by
  unfold argsOk; rw [signature?_of (id := "bytes.decode") (n := ['e', 'd', 'o', 'c', 'e', 'd']) (o := ['s', 'e', 't', 'y', 'b']) (by kernel_rfl) FB.owner_bytes]; kernel_rfl

/-- the hex signs, great and small -/
def hexAll : Array UInt8 := #[48, 49, 50, 51, 52, 53, 54, 55, 56, 57, 97, 98, 99, 100, 101, 102, 65, 66, 67, 68, 69, 70]
theorem strip_hx : ∀ n : Fin 256, (((hx n.val).dropWhile hexAll.contains).reverse.dropWhile hexAll.contains).reverse = [] := by decide +kernel
theorem strip_meets {n : Nat} (hn : n < 256) (t u : Tok) :
    Meets («bytes.strip» ⟨[.bytes (hx n).toArray t, .bytes hexAll u], []⟩) (fun _ R s => ∀ t' k, R (.ok (.ret (.bytes #[] t'))) { s with toks := k }) := by
  refine .of_wp fun prog w A R s hS => ?_
  unfold Builtin.«bytes.strip» stripM
  dsimp only
  refine wpAny_bind (wpAny_of_eq (a := (_, [_])) rfl ?_)
  dsimp only
  refine wpAny_bind ?_
  refine wpAny_of_eq KBd.like_eq ?_
  refine wpAny_bind (wpAny_pure ?_)
  refine wpAny_bind (wpAny_of_eq (a := (hx n).toArray) rfl ?_)
  have e : (((hx n).dropWhile hexAll.contains).reverse.dropWhile hexAll.contains).reverse = [] := strip_hx ⟨n, hn⟩
  simp only [if_true, e]
  rw [if_neg (by simp [hx])]
  exact wpAny_bind (wpAny_mkBytes (wpAny_pure ⟨_, rfl, hS _ _⟩) (by rw [PySem.sizeLine_eq]; decide))
end
end
section
theorem calmDec : True := by w_top off; trivial
section
open Builtin PySem.Builtin.Bytes PySem.Builtin._codecs
set_option maxRecDepth 100000
theorem steps_done {β : Type} {f : Nat → β → Sem (ForInStep β)} (g : Nat → β) (k : Nat) (hy : ∀ i j, j < k → f i (g j) = pure (.yield (g (j + 1)))) (hd : ∀ i, f i (g k) = pure (.done (g k))) :
    ∀ N a j, j ≤ k → k ≤ N + j → forIn (List.range' a N 1) (g j) f = pure (g k)
  | 0, a, j, h1, h2 => by
    have e : j = k := by omega
    subst e
    rfl
  | N + 1, a, j, h1, h2 => by
    rw [List.range'_succ, List.forIn_cons]
    by_cases h : j < k
    · rw [hy a j h]
      simp only [pure_bind]
      exact steps_done g k hy hd N (a + 1) (j + 1) h (by omega)
    · have e : j = k := by omega
      subst e
      rw [hd a]
      rfl

/-- a text of the law's signs -/
def Good (c : Nat) : Prop := c < 128 ∨ c = 233 ∨ c = 8364
theorem utf8_ascii {c : Nat} (h : c < 128) : PySem.Str.utf8Of c = [c.toUInt8] := by unfold PySem.Str.utf8Of; rw [if_pos h]
theorem utf8_pos (c : Nat) : 1 ≤ (PySem.Str.utf8Of c).length := by unfold PySem.Str.utf8Of; (repeat' split) <;> simp
theorem get_mid {pre post mid : List UInt8} {i : Nat} (h : i < mid.length) : (pre ++ mid ++ post).toArray[pre.length + i]? = mid[i]? := by
  simp [List.getElem?_append, h]
theorem getD_mid {pre post mid : List UInt8} {i : Nat} (h : i < mid.length) : (pre ++ mid ++ post).toArray.getD (pre.length + i) 0 = mid[i] := by
  have e := get_mid (pre := pre) (post := post) h
  rw [Array.getD_eq_getD_getElem?, e]
  simp [h]
theorem u8_small {c : Nat} (h : c < 256) : (c.toUInt8).toNat = c := by simp [Nat.toUInt8, UInt8.toNat_ofNat', Nat.mod_eq_of_lt h]
theorem at_good {c : Nat} (h : Good c) (pre post : List UInt8) : utf8At (pre ++ PySem.Str.utf8Of c ++ post).toArray pre.length = (.char c, pre.length + (PySem.Str.utf8Of c).length) := by
  rcases h with h | rfl | rfl
  · have e := utf8_ascii h
    have hg := getD_mid (pre := pre) (post := post) (mid := PySem.Str.utf8Of c) (i := 0) (by rw [e]; simp)
    simp only [Nat.add_zero] at hg
    unfold utf8At
    rw [hg]
    simp only [e, List.getElem_cons_zero, u8_small (show c < 256 by omega), List.length_cons, List.length_nil]
    rw [if_pos h]
  · have e : PySem.Str.utf8Of 233 = [195, 169] := by decide +kernel
    rw [e]
    have h0 := getD_mid (pre := pre) (post := post) (mid := [195, 169]) (i := 0) (by simp)
    simp only [Nat.add_zero, List.getElem_cons_zero] at h0
    unfold utf8At
    rw [h0]
    simp [Except.bind, List.range, List.range.loop]
  · have e : PySem.Str.utf8Of 8364 = [226, 130, 172] := by decide +kernel
    rw [e]
    have h0 := getD_mid (pre := pre) (post := post) (mid := [226, 130, 172]) (i := 0) (by simp)
    simp only [Nat.add_zero, List.getElem_cons_zero] at h0
    unfold utf8At
    rw [h0]
    simp [Except.bind, List.range, List.range.loop]

theorem bytesOf_app (a b : List Nat) : bytesOf (a ++ b) = bytesOf a ++ bytesOf b := by simp [bytesOf]
theorem bytesOf_ge (l : List Nat) : l.length ≤ (bytesOf l).length := by
  induction l with
  | nil => simp
  | cons c r ih =>
    have := utf8_pos c
    have e : (bytesOf (c :: r)).length = (PySem.Str.utf8Of c).length + (bytesOf r).length := by simp [bytesOf]
    rw [e, List.length_cons]
    omega
/-- the decoder's state ahead of the j-th sign -/
def decAt (l : List Nat) (j : Nat) : Nat × Array Nat × Faults := ((bytesOf (l.take j)).length, (l.take j).toArray, {})

theorem run_dec {id : String} {d : Decoder} {l : List Nat} (hl : l.length ≤ 8000)
    (hf : ∀ c ∈ l, ∀ pre post, d.find true (pre ++ PySem.Str.utf8Of c ++ post).toArray pre.length = .text [c] (pre.length + (PySem.Str.utf8Of c).length)) :
    runDecoder id d none true (bytesOf l).toArray 0 [] = pure (l.toArray, (bytesOf l).length) := by
  unfold runDecoder
  dsimp only
  rw [KPc.range_list]
  have key := fun (f : Nat → (Nat × Array Nat × Faults) → Sem (ForInStep (Nat × Array Nat × Faults))) hy hd => steps_done (f := f) (decAt l) l.length hy hd (bytesOf l).toArray.size 0 0 (Nat.zero_le _) (by simpa using bytesOf_ge l)
  show (forIn _ (decAt l 0) _ >>= _) = _
  rw [key]
  · unfold decAt
    simp
  · intro i j hj
    have hsz : ¬ ((decAt l j).2.1.size > sizeLine) := by
      unfold decAt
      rw [PySem.sizeLine_eq]
      simp
      omega
    rw [if_neg hsz]
    have e : bytesOf l = bytesOf (l.take j) ++ PySem.Str.utf8Of l[j] ++ bytesOf (l.drop (j + 1)) := by
      have h1 : l = l.take j ++ [l[j]] ++ l.drop (j + 1) := by simp
      conv => lhs; rw [h1, bytesOf_app, bytesOf_app]
      simp [bytesOf]
    have hlt : ¬ ((decAt l j).1 ≥ (bytesOf l).toArray.size) := by
      unfold decAt
      have := utf8_pos l[j]
      have h2 : (bytesOf l).length = (bytesOf (l.take j)).length + (PySem.Str.utf8Of l[j]).length + (bytesOf (l.drop (j + 1))).length := by
        conv => lhs; rw [e]
        simp only [List.length_append]
      simp only [List.size_toArray]
      omega
    rw [if_neg hlt]
    have hfd : d.find true (bytesOf l).toArray (decAt l j).1 = .text [l[j]] ((bytesOf (l.take (j + 1))).length) := by
      have h3 := hf l[j] (List.getElem_mem hj) (bytesOf (l.take j)) (bytesOf (l.drop (j + 1)))
      rw [← e] at h3
      show d.find true (bytesOf l).toArray (bytesOf (l.take j)).length = _
      rw [h3, List.take_succ_eq_append_getElem hj, bytesOf_app]
      simp [bytesOf]
    rw [hfd]
    show pure (ForInStep.yield (_, _, _)) = _
    unfold decAt
    rw [List.take_succ_eq_append_getElem hj]
    simp
  · intro i
    have hsz : ¬ ((decAt l l.length).2.1.size > sizeLine) := by
      unfold decAt
      rw [PySem.sizeLine_eq]
      simp
      omega
    rw [if_neg hsz, if_pos (by unfold decAt; simp)]
theorem run_utf8 {id : String} {l : List Nat} (hg : ∀ c ∈ l, Good c) (hl : l.length ≤ 8000) : runDecoder id utf8Decoder none true (bytesOf l).toArray 0 [] = pure (l.toArray, (bytesOf l).length) :=
  run_dec hl fun c hc pre post => by
    show (match utf8At (pre ++ PySem.Str.utf8Of c ++ post).toArray pre.length with | (.char c, nx) => Found.char c nx | (.bad _ stop reason, _) => _) = _
    rw [at_good (hg c hc)]
    rfl
theorem run_ascii {id : String} {l : List Nat} (hg : ∀ c ∈ l, c < 128) (hl : l.length ≤ 8000) : runDecoder id asciiDecoder none true (bytesOf l).toArray 0 [] = pure (l.toArray, (bytesOf l).length) :=
  run_dec hl fun c hc pre post => by
    have h := hg c hc
    have e := utf8_ascii h
    have hg := getD_mid (pre := pre) (post := post) (mid := PySem.Str.utf8Of c) (i := 0) (by rw [e]; simp)
    simp only [Nat.add_zero] at hg
    show (if ((pre ++ PySem.Str.utf8Of c ++ post).toArray.getD pre.length 0).toNat < 128 then Found.char _ _ else _) = _
    rw [hg]
    simp only [e, List.getElem_cons_zero, u8_small (show c < 256 by omega), List.length_cons, List.length_nil]
    rw [if_pos h]
    rfl
end
end
section
theorem calmDec2 : True := by w_top off; trivial
section
open Builtin PySem.Builtin.Bytes PySem.Builtin._codecs
set_option maxRecDepth 100000
theorem road_ascii {id : String} {b : Array UInt8} : decodeRoad id b (PySem.Str.ofString "ascii") none [] = (runDecoder id asciiDecoder none true b 0 [] >>= fun r => mkStr ⟨r.1⟩) := by kernel_rfl
theorem road_utf8 {id : String} {b : Array UInt8} : decodeRoad id b (PySem.Str.ofString "utf-8") none [] = (runDecoder id utf8Decoder none true b 0 [] >>= fun r => mkStr ⟨r.1⟩) := by kernel_rfl
theorem meets_ascii {b : Array UInt8} {t t1 t2 : Tok} {d x : PySem.Str} {n : Nat} (hd : ∀ id, runDecoder id asciiDecoder none true b 0 [] = pure (x.cps, n)) :
    Meets («_codecs.decode.text» ⟨[.bytes b t, .str (PySem.Str.ofString "ascii") t1, .none, .str d t2], []⟩) (fun _ R s => x.length ≤ sizeLine ∧ R (.ok (.ret (.str x s.toks))) { s with toks := s.toks + 1 }) := by
  refine .of_wp fun prog w A R s hS => ?_
  obtain ⟨hsz, h⟩ := hS
  show wpAny _ _ (Bytes.bytesLike _ (.bytes b t) >>= fun r => _) _ _ s
  refine wpAny_bind (wpAny_of_eq KBd.like_eq ?_)
  refine wpAny_bind (wpAny_of_eq KBd.held_eq ?_)
  show wpAny _ _ (_codecs.decodeRoad _ b (PySem.Str.ofString "ascii") none [] >>= fun v => _) _ _ s
  rw [road_ascii, hd]
  refine wpAny_bind (wpAny_bind (wpAny_pure ?_))
  exact wpAny_mkStr (wpAny_pure ⟨_, rfl, h⟩) hsz
theorem meets_utf8 {b : Array UInt8} {t t1 t2 : Tok} {d x : PySem.Str} {n : Nat} (hd : ∀ id, runDecoder id utf8Decoder none true b 0 [] = pure (x.cps, n)) :
    Meets («_codecs.decode.text» ⟨[.bytes b t, .str (PySem.Str.ofString "utf-8") t1, .none, .str d t2], []⟩) (fun _ R s => x.length ≤ sizeLine ∧ R (.ok (.ret (.str x s.toks))) { s with toks := s.toks + 1 }) := KBd.meets_text hd
theorem dec_eq {c : UInt8} {cs : List UInt8} {t u : Tok} {e : PySem.Str} (he : e = PySem.Str.ofString "ascii" ∨ e = PySem.Str.ofString "utf-8") : «bytes.decode» ⟨[.bytes (c :: cs).toArray t, .str e u], []⟩ =
    (mkStr (PySem.Str.ofString "utf-8") >>= fun _ => mkStr e >>= fun f => mkStr (PySem.Str.ofString "bytes.decode") >>= fun d =>
      call (.builtin "_codecs.decode.text") [.bytes (c :: cs).toArray t, f, .none, d] >>= fun v => ret v) := by rcases he with rfl | rfl <;> kernel_rfl
theorem decode_ascii_meets {c : UInt8} {cs : List UInt8} {x : PySem.Str} {n : Nat} {t u : Tok} (hd : ∀ id, runDecoder id asciiDecoder none true (c :: cs).toArray 0 [] = pure (x.cps, n)) :
    Meets («bytes.decode» ⟨[.bytes (c :: cs).toArray t, .str (PySem.Str.ofString "ascii") u], []⟩) (fun _ R s => x.length ≤ sizeLine ∧ ∀ t' k, R (.ok (.ret (.str x t'))) { s with toks := k }) := by
  refine .of_wp fun prog w A R s hS => ?_
  obtain ⟨hsz, h⟩ := hS
  rw [dec_eq (.inl rfl)]
  refine wpAny_bind (wpAny_mkStr ?_ (by decide))
  refine wpAny_bind (wpAny_mkStr ?_ (by decide))
  refine wpAny_bind (wpAny_mkStr ?_ (by decide))
  exact wpAny_bind (call_function_meets KBd.kind_text KBd.plain_text KBd.entry_text (KBd.args_text _ _ _ _) (meets_ascii hd) ⟨hsz, wpAny_pure ⟨_, rfl, h _ _⟩⟩)
theorem decode_utf8_meets {c : UInt8} {cs : List UInt8} {x : PySem.Str} {n : Nat} {t u : Tok} (hd : ∀ id, runDecoder id utf8Decoder none true (c :: cs).toArray 0 [] = pure (x.cps, n)) :
    Meets («bytes.decode» ⟨[.bytes (c :: cs).toArray t, .str (PySem.Str.ofString "utf-8") u], []⟩) (fun _ R s => x.length ≤ sizeLine ∧ ∀ t' k, R (.ok (.ret (.str x t'))) { s with toks := k }) := by
  refine .of_wp fun prog w A R s hS => ?_
  obtain ⟨hsz, h⟩ := hS
  rw [dec_eq (.inr rfl)]
  refine wpAny_bind (wpAny_mkStr ?_ (by decide))
  refine wpAny_bind (wpAny_mkStr ?_ (by decide))
  refine wpAny_bind (wpAny_mkStr ?_ (by decide))
  exact wpAny_bind (call_function_meets KBd.kind_text KBd.plain_text KBd.entry_text (KBd.args_text _ _ _ _) (meets_utf8 hd) ⟨hsz, wpAny_pure ⟨_, rfl, h _ _⟩⟩)
section
variable {prog : Program} {w : World} {A : Around} {E : Value → Shared → Prop} {s : Shared} {t u : Tok} {Q : Value → Shared → Prop} {n : Nat}
theorem hexd_lt (n : Nat) (h : n < 16) : hexd n < 128 := by unfold hexd; split <;> omega
theorem hx_bytes {n : Nat} (hn : n < 256) : bytesOf [hexd (n / 16), hexd (n % 16)] = hx n := by
  have h1 := hexd_lt (n / 16) (by omega)
  have h2 := hexd_lt (n % 16) (by omega)
  simp [bytesOf, utf8_ascii h1, utf8_ascii h2, hx]
theorem decode_hx (hn : n < 256) (h : ∀ t' k, Q (.str (pct2 n) t') { s with toks := k }) :
    wpAny (model prog w) A (call (.builtin "bytes.decode") [.bytes (hx n).toArray t, .str (PySem.Str.ofString "ascii") u]) Q E s :=
  call_meets FB.slot_bytes_decode (typeIs_bytes _ _ _) FB.entry_bytes_decode (args_decode2 _ _) (decode_ascii_meets (x := pct2 n) (n := (bytesOf [hexd (n / 16), hexd (n % 16)]).length) fun id => by
    show runDecoder id asciiDecoder none true (hx n).toArray 0 [] = _
    rw [← hx_bytes hn]
    exact run_ascii (l := [hexd (n / 16), hexd (n % 16)]) (fun c hc => by
      rcases List.mem_cons.mp hc with rfl | hc
      · exact hexd_lt _ (by omega)
      · rw [List.mem_singleton.mp hc]; exact hexd_lt _ (by omega)) (by simp)) ⟨by rw [PySem.sizeLine_eq]; exact (by decide : 2 ≤ 16777216), h⟩
theorem decode_text {l : List Nat} (hg : ∀ c ∈ l, Good c) (hl : l.length ≤ 8000) (hne : l ≠ []) (h : ∀ t' k, Q (.str ⟨l.toArray⟩ t') { s with toks := k }) :
    wpAny (model prog w) A (call (.builtin "bytes.decode") [.bytes (bytesOf l).toArray t, .str (PySem.Str.ofString "utf-8") u]) Q E s := by
  have hb : bytesOf l ≠ [] := by
    intro e
    have := bytesOf_ge l
    rw [e] at this
    exact hne (List.length_eq_zero_iff.mp (by simpa using this))
  obtain ⟨c, cs, e⟩ := List.exists_cons_of_ne_nil hb
  have hr : ∀ id, runDecoder id utf8Decoder none true (c :: cs).toArray 0 [] = pure ((⟨l.toArray⟩ : PySem.Str).cps, (bytesOf l).length) := fun id => by rw [← e]; exact run_utf8 hg hl
  rw [e]
  exact call_meets FB.slot_bytes_decode (typeIs_bytes _ _ _) FB.entry_bytes_decode (args_decode2 _ _) (decode_utf8_meets (x := ⟨l.toArray⟩) hr) ⟨by
    rw [PySem.sizeLine_eq]
    show l.toArray.size ≤ _
    rw [List.size_toArray]
    omega, h⟩
theorem strip_hx_call (hn : n < 256) (h : ∀ t' k, Q (.bytes #[] t') { s with toks := k }) :
    wpAny (model prog w) A (call (.builtin "bytes.strip") [.bytes (hx n).toArray t, .bytes hexAll u]) Q E s :=
  call_meets slot_strip (typeIs_bytes _ _ _) entry_strip (args_strip _ _) (strip_meets hn t u) h
theorem strip_method {M : Model} {b : Array UInt8} {pl : Sem Bool} {Q : Value × List Value → Shared → Prop} (h : Q (.builtin "bytes.strip", [.bytes b t]) s) : wpAny M A (getMethod (.bytes b t) "strip" pl) Q E s := by
  with_reducible exact KBd.method_of (.bytes b t) (typeIs_bytes _ _ _) slot_strip type_strip KBd.noRef h
theorem split_method {M : Model} {b : Array UInt8} {pl : Sem Bool} {Q : Value × List Value → Shared → Prop} (h : Q (.builtin "bytes.split", [.bytes b t]) s) : wpAny M A (getMethod (.bytes b t) "split" pl) Q E s := by
  with_reducible exact KBd.method_of (.bytes b t) (typeIs_bytes _ _ _) slot_split type_split KBd.noRef h
theorem bjoin_method {M : Model} {b : Array UInt8} {pl : Sem Bool} {Q : Value × List Value → Shared → Prop} (h : Q (.builtin "bytes.join", [.bytes b t]) s) : wpAny M A (getMethod (.bytes b t) "join" pl) Q E s := by
  with_reducible exact KBd.method_of (.bytes b t) (typeIs_bytes _ _ _) slot_join type_join KBd.noRef h
end
end
end
section
theorem calmIntH : True := by w_top off; trivial
section
set_option maxRecDepth 100000
open PySem.NumText
theorem read_hex_all : (List.range 256).map (fun (n : Nat) => (int_private% "readNumeral") 0 16 [hexd (n / 16), hexd (n % 16)]) = (List.range 256).map (fun (n : Nat) => (int_private% "Numeral.value") (n : Int)) := by kernel_rfl
theorem read_hex {n : Nat} (hn : n < 256) : (int_private% "readNumeral") 0 16 [hexd (n / 16), hexd (n % 16)] = (int_private% "Numeral.value") (n : Int) :=
  List.map_inj_left.mp read_hex_all n (List.mem_range.mpr hn)
theorem hexd_pos (d : Nat) (h : d < 16) : 48 ≤ hexd d ∧ hexd d < 128 := by unfold hexd; split <;> omega
theorem seen_hex {n : Nat} (hn : n < 256) : [hexd (n / 16), hexd (n % 16)].takeWhile (· != 0) = [hexd (n / 16), hexd (n % 16)] := by
  have h1 := hexd_pos (n / 16) (by omega)
  have h2 := hexd_pos (n % 16) (by omega)
  have e1 : (hexd (n / 16) != 0) = true := by simp; omega
  have e2 : (hexd (n % 16) != 0) = true := by simp; omega
  simp [List.takeWhile, e1, e2]
theorem wp_text16 {M : Model} {A : Around} {E : Value → Shared → Prop} {s : Shared} {Q : Value → Shared → Prop} {v : Value} {text : List Nat} {n : Int}
    (hs : (text.takeWhile (· != 0)).length ≤ 640) (hr : (int_private% "readNumeral") 0 16 (text.takeWhile (· != 0)) = (int_private% "Numeral.value") n)
    (ha : ((text.takeWhile (· != 0)).length == text.length) = true) (h : Q (.int n s.toks) { s with toks := s.toks + 1 }) :
    wpAny M A ((int_private% "intFromText") v text 16) Q E s := by
  obtain ⟨hp, g, d, tk, os⟩ := s
  repeat (any_goals (first
    | assumption
    | (with_reducible refine wpAny_ite_true (decide_eq_true hs) ?_)
    | (with_reducible refine wpAny_ite_true (decide_eq_true ha) ?_)
    | wp_step))
  all_goals (try rw [hr])
  all_goals (try dsimp only)
  repeat (any_goals (first
    | assumption
    | (with_reducible refine wpAny_ite_true (decide_eq_true hs) ?_)
    | (with_reducible refine wpAny_ite_true (decide_eq_true ha) ?_)
    | wp_step))
theorem ascii_hex {n : Nat} (hn : n < 256) : (pct2 n).cps.all (· < 128) = true := by
  have h1 := hexd_pos (n / 16) (by omega)
  have h2 := hexd_pos (n % 16) (by omega)
  simp [pct2, h1.2, h2.2]
theorem wp_text_hx {M : Model} {A : Around} {E : Value → Shared → Prop} {s : Shared} {Q : Value → Shared → Prop} {v : Value} {n : Nat} (hn : n < 256) (h : Q (.int (n : Int) s.toks) { s with toks := s.toks + 1 }) :
    wpAny M A ((int_private% "intFromText") v (if ((pct2 n).cps.all fun x => decide (x < 128)) = true then (pct2 n).cps.toList else Unicode.numberText (pct2 n).cps.toList) (Int.toNat 16)) Q E s := by
  rw [if_pos (ascii_hex hn)]
  have hs := seen_hex hn
  have hr := read_hex hn
  have e : (pct2 n).cps.toList = [hexd (n / 16), hexd (n % 16)] := rfl
  refine wp_text16 ?_ ?_ ?_ h
  · rw [e, hs]; simp
  · rw [e, hs]; exact hr
  · rw [e, hs]; rfl
set_option maxHeartbeats 4000000 in
theorem gives_hx {n : Nat} (hn : n < 256) (u v : Tok) : PySem.Gives (Builtin.«int.__new__» ⟨[.type "int", .str (pct2 n) u, .int 16 v], []⟩) (.int (n : Int)) :=
  .of_wp fun M A E s Q h => by
    obtain ⟨hp, g, d, tk, os⟩ := s
    have f1 := PySem.F.conv_sub_int
    have f2 := PySem.F.madeHere_int
    have f6 : typeOf (.str (pct2 n) u) = pure (.type "str") := rfl
    have hk := KIN.Hid.mk hn
    clear hn
    repeat (any_goals (first
      | assumption
      | ((with_reducible show wpAny _ _ ((int_private% "intFromText") _ _ _) _ _ _); refine wp_text_hx hk.out ?_)
      | wp_step))
    all_goals first | exact ⟨_, rfl, h⟩ | skip
section
variable {prog : Program} {w : World} {A : Around} {E : Value → Shared → Prop} {s : Shared} {t u : Tok} {Q : Value → Shared → Prop} {n : Nat}
theorem typeCall2 (a b : Value) : checkTypeCall "int" ⟨[a, b], []⟩ = pure () := by kernel_rfl
theorem newCall2 (a b : Value) : checkBuiltinCall "int.__new__" ⟨[.type "int", a, b], []⟩ = pure () := by kernel_rfl
theorem int_hx (hn : n < 256) (h : Q (.int (n : Int) s.toks) { s with toks := s.toks + 1 }) : wpAny (model prog w) A (call (.type "int") [.str (pct2 n) t, .int 16 u]) Q E s :=
  callType_new PySem.F.called_int PySem.F.newNe_int (typeCall2 _ _) (newCall2 _ _) (fun obj => PySem.F.args_object_init_3 obj _ _) PySem.F.entry_int_new (gives_hx hn t u).meets (show (Made.int (n : Int)).post _ s from ⟨rfl, h⟩)
end
end
end
section
theorem calmD1 : True := by w_top off; trivial
local macro_rules | `(tactic| k_room) => `(tactic| ktr_room)
local macro_rules | `(tactic| k_units) => `(tactic| ktr_units)
local macro_rules | `(tactic| walk_at "MINE enter") => `(tactic| k_dflt (refine' code_def ?k1 ?k2 ?k3 ?k4 ?k5 ?kA ?kF ?kK ?k6 ?k7 ?k8 ?k9 ?kB ?_ ?c2 ?c3 ?c4 ?c5; (case kA => exact rfl); (case kF => exact rfl); (case kK => assumption); (case k1 => k_asm); (case k2 => k_asm); (case k3 => k_asm); (case k4 => k_asm); (case k5 => k_asm); (case k6 => k_is); (case k7 => k_is); (case k8 => ktr_room); (case k9 => first | exact BindsTo.of_eq rfl | exact binds_K (by k_in) rfl (by k_is) rfl rfl rfl); (case c5 => decide); (case kB => exact locs rfl); (case c2 => exact rfl); (case c3 => exact rfl); (case c4 => exact rfl); k_whole; intro g' L' h' FG' F' N' B' X' T'; (try dsimp only); (try k_lift B'); (try k_fold)))
local macro_rules | `(tactic| walk_at "getMethod str") => `(tactic| (k_here; with_reducible refine encode_method ?_))
local macro_rules | `(tactic| walk_at "call builtin:str.encode") => `(tactic| (k_here; (with_reducible show wpAny _ _ (call (Value.builtin "str.encode") [Value.str _ _, Value.str _ _]) _ _ _); refine' encode_call ?k1 ?k2 ?k3 ?_; (case k1 => assumption); (case k2 => omega); (case k3 => first | exact Or.inl rfl | exact Or.inr rfl); intro _ _))
local macro_rules | `(tactic| walk_at "eval ListComp") => `(tactic| (k_here; (with_reducible show wpAny _ _ (eval (Expr.ListComp _ [⟨_, Expr.Name (PySem.Str.ofString "bytestr") _, _, _⟩] _ _) _) _ _ _); k_dflt (refine' ListComp_B ?k0 ?k1 ?k2 ?k3 ?k4 ?k5 ?_ ?k6; (case k0 => k_asm); (case k1 => with_unfolding_all rfl); (case k2 => decide); (case k3 => rfl); (case k4 => decide); (case k5 => rfl); (case k6 => intro _; rfl))))
local macro_rules | `(tactic| walk_at "SrcB") => `(tactic| k_dflt (refine' SrcB.intro ?k1 ?k2 ?k3 ?k4 ?k5 ?kt ?kf; (case k1 => with_reducible assumption); (case k2 => rfl); (case k3 => k_asm); (case k4 => k_asm); (case k5 => exact bytes_room (by assumption)); (case' kt => (intro b9 u9 g9 hb9; unfold Turn; intro I' oI' C' oC' D' m' ys' h' tk' E' hC' hx' F' N' off' ne'; (have hlt9 := b9.toNat_lt))); (case' kf => (intro ys9 g9 hy9))))
local macro_rules | `(tactic| walk_at "CompEnd") => `(tactic| k_dflt (exact ⟨_, _, _, rfl, by assumption, by assumption, by assumption, trivial, rfl, _, rfl⟩))
local macro_rules | `(tactic| walk_at "MINE back") => `(tactic| ((case kB => k_asm); (case kF => k_asm); (case kX => k_asm); (case kN => k_asm); (case kT => k_asm); (case kK => first | exact rfl | assumption); (case kd => ktr_room); (case ku => ktr_units)))
local macro_rules | `(tactic| walk_at "call ref") => `(tactic| (k_here; (with_reducible show wpAny _ _ (call (Value.ref _) [Value.ref _, Value.int _ _]) _ _ _); k_dflt (refine' quote_int ?kS ?kl _ _ _ _ _ _ _ _ _ _ _ _ _ _ _ _ _ _ _ _ _ _ _ ?kB ?kF ?kX ?kN ?kT ?kK ?kd ?ku ?kr; (case kS => with_reducible assumption); (case kl => omega); walk_at "MINE back"; (case' kr => (intro v9 h9 tk9 hv9 F9 N9; obtain ⟨t9, hw9⟩ := hv9; subst hw9)))))
local macro_rules | `(tactic| walk_at "call builtin:str.join") => `(tactic| (k_here; (with_reducible show wpAny _ _ (call (Value.builtin "str.join") [Value.str _ _, Value.ref _]) _ _ _); k_dflt (refine' join_call ?k1 ?k2 ?k3 ?k4 ?_; (case k1 => exact News.isList (by k_asm) (by k_mem)); (case k2 => assumption); (case k3 => exact quote_map_len _ _ _); (case k4 => exact enc_count (by assumption))); intro _ _))
local macro_rules | `(tactic| walk_at "eval ListComp") => `(tactic| (k_here; (with_reducible show wpAny _ _ (eval (Expr.ListComp (Expr.IfExp _ _ _ _) [⟨_, Expr.Name (PySem.Str.ofString "text") _, _, _⟩] _ _) _) _ _ _); k_dflt (refine' ListComp_S ?k0 ?k1 ?k2 ?k3 ?k4 ?k5 ?_ ?k6; (case k0 => k_asm); (case k1 => with_unfolding_all rfl); (case k2 => decide); (case k3 => rfl); (case k4 => decide); (case k5 => rfl); (case k6 => intro _; rfl))))
local macro_rules | `(tactic| walk_at "SrcS") => `(tactic| k_dflt (refine' SrcS.introD ?k1 ?k1b ?k2 ?k3 ?k4 ?k5 ?kt ?kf; (case k1 => with_reducible assumption); (case k1b => with_reducible assumption); (case k2 => rfl); (case k3 => k_asm); (case k4 => k_asm); (case k5 => exact text_room (by assumption)); (case' kt => (intro b9 u9 g9 hb9; unfold Turn; intro I' oI' C' oC' D' m' ys' h' tk' E' hC' hx' F' N' off' ne')); (case' kf => (intro ys9 g9 hy9))))
local macro_rules | `(tactic| walk_at "CompEnd") => `(tactic| k_dflt (refine' ⟨_, _, _, rfl, by assumption, by assumption, by assumption, trivial, rfl, _, congrArg (fun z => Value.str z _) ?_⟩; first | exact rfl | exact delim_in (by assumption) | exact delim_out (by assumption)))
local macro_rules | `(tactic| walk_at "call ref") => `(tactic| (k_here; (with_reducible show wpAny _ _ (call (Value.ref _) [Value.ref _, Value.str _ _]) _ _ _); k_dflt (refine' quote_str ?kS ?kl _ _ _ _ _ _ _ _ _ _ _ _ _ _ _ _ _ _ _ _ _ _ _ ?kB ?kF ?kX ?kN ?kT ?kK ?kd ?ku ?kr; (case kS => with_reducible assumption); (case kl => (refine (show DelimOk _ from by with_reducible assumption) _ ?_; assumption)); walk_at "MINE back"; (case' kr => (intro v9 h9 tk9 hv9 F9 N9; obtain ⟨t9, hw9⟩ := hv9; subst hw9)))))
local macro_rules | `(tactic| walk_at "call builtin:str.join") => `(tactic| (k_here; (with_reducible show wpAny _ _ (call (Value.builtin "str.join") [Value.str _ _, Value.ref _]) _ _ _); k_dflt (refine' join_call ?k1 ?k2 ?k3 ?k4 ?_; (case k1 => exact News.isList (by k_asm) (by k_mem)); (case k2 => assumption); (case k3 => exact delim_map_len _ _ _); (case k4 => exact min_count (by assumption))); intro _ _))
def DecOf (w : World) (q : Addr) (D : PySem.Str) (ap : Bool) : Prop :=
  ∀ (prog : Program) (A : Around) (E : Value → Shared → Prop) (s : Shared) (h₀ : Heap) (L : Addr) (m : PySem.Str → Option Value) (Q : Value → Shared → Prop) (ex : Bool),
    Fr h₀ L s.heap m → (Mine.hd.heap_39 w.params).In h₀ →
    ((∀ t k, Q (.str D t) { s with toks := k }) → wpAny (model prog w) A (getAttr (.ref q) (PySem.Str.ofString "delims") ex) Q E s) ∧
    ((∀ k, Q (.bool ap) { s with toks := k }) → wpAny (model prog w) A (getAttr (.ref q) (PySem.Str.ofString "allow_percent") ex) Q E s) ∧
    ((∀ k, Q .none { s with toks := k }) → wpAny (model prog w) A (getAttr (.ref q) (PySem.Str.ofString "only") ex) Q E s)
section
variable {w : World} {q : Addr} {D : PySem.Str} {ap : Bool} {prog : Program} {A : Around} {E : Value → Shared → Prop} {s : Shared} {h₀ : Heap} {L : Addr} {m : PySem.Str → Option Value} {Q : Value → Shared → Prop} {ex : Bool}
theorem DecOf.delims (H : DecOf w q D ap) (F : Fr h₀ L s.heap m) (X : (Mine.hd.heap_39 w.params).In h₀) (h : ∀ t k, Q (.str D t) { s with toks := k }) : wpAny (model prog w) A (getAttr (.ref q) (PySem.Str.ofString "delims") ex) Q E s := (H _ _ _ _ _ _ _ _ _ F X).1 h
theorem DecOf.allow (H : DecOf w q D ap) (F : Fr h₀ L s.heap m) (X : (Mine.hd.heap_39 w.params).In h₀) (h : ∀ k, Q (.bool ap) { s with toks := k }) : wpAny (model prog w) A (getAttr (.ref q) (PySem.Str.ofString "allow_percent") ex) Q E s := (H _ _ _ _ _ _ _ _ _ F X).2.1 h
theorem DecOf.only (H : DecOf w q D ap) (F : Fr h₀ L s.heap m) (X : (Mine.hd.heap_39 w.params).In h₀) (h : ∀ k, Q .none { s with toks := k }) : wpAny (model prog w) A (getAttr (.ref q) (PySem.Str.ofString "only") ex) Q E s := (H _ _ _ _ _ _ _ _ _ F X).2.2 h
end
local macro_rules | `(tactic| walk_at "getMethod bytes") => `(tactic| (k_here; with_reducible refine strip_method ?_))
local macro_rules | `(tactic| walk_at "call builtin:bytes.strip") => `(tactic| (k_here; (with_reducible show wpAny _ _ (call (Value.builtin "bytes.strip") [Value.bytes _ _, Value.bytes _ _]) _ _ _); k_dflt (refine' strip_hx_call ?k1 ?_; (case k1 => assumption)); intro _ _))
theorem truthy_nobytes {prog : Program} {w : World} {A : Around} {E : Value → Shared → Prop} {s : Shared} {t : Tok} {Q : Bool → Shared → Prop} (h : ∀ k, Q false { s with toks := k }) : wpAny (model prog w) A (truthy (.bytes #[] t)) Q E s :=
  truthy_bytes (by decide) (h _)
local macro_rules | `(tactic| walk_at "truthy bytes") => `(tactic| (k_here; (with_reducible refine truthy_nobytes ?_); intro _))
local macro_rules | `(tactic| walk_at "call builtin:bytes.decode") => `(tactic| (k_here; (with_reducible show wpAny _ _ (call (Value.builtin "bytes.decode") [Value.bytes (List.toArray (hx _)) _, Value.str _ _]) _ _ _); k_dflt (refine' decode_hx ?k1 ?_; (case k1 => assumption)); intro _ _))
local macro_rules | `(tactic| walk_at "call type:int") => `(tactic| (k_here; (with_reducible show wpAny _ _ (call (Value.type "int") [Value.str (pct2 _) _, Value.int _ _]) _ _ _); k_dflt (refine' int_hx ?k1 ?_; (case k1 => assumption))))
local macro_rules | `(tactic| walk_at "getAttr ref") => `(tactic| (k_here; (with_reducible show wpAny _ _ (getAttr (Value.ref _) (PySem.Str.ofString "delims") _) _ _ _); refine' DecOf.delims (by with_reducible assumption) ?k1 ?k2 ?_; (case k1 => k_asm); (case k2 => k_asm); intro _ _))
local macro_rules | `(tactic| walk_at "getAttr ref") => `(tactic| (k_here; (with_reducible show wpAny _ _ (getAttr (Value.ref _) (PySem.Str.ofString "allow_percent") _) _ _ _); refine' DecOf.allow (by with_reducible assumption) ?k1 ?k2 ?_; (case k1 => k_asm); (case k2 => k_asm); intro _))
local macro_rules | `(tactic| walk_at "getAttr ref") => `(tactic| (k_here; (with_reducible show wpAny _ _ (getAttr (Value.ref _) (PySem.Str.ofString "only") _) _ _ _); refine' DecOf.only (by with_reducible assumption) ?k1 ?k2 ?_; (case k1 => k_asm); (case k2 => k_asm); intro _))
set_option maxRecDepth 100000 in
theorem dec93 {w : World} : DecOf w 93 (PySem.Str.ofString ":/?#[]@") false := by
  unfold DecOf
  intro prog A E s h₀ L m Q ex F X
  refine ⟨fun h => ?_, fun h => ?_, fun h => ?_⟩
  all_goals k_dflt (refine' get_own ?k1 ?k2 ?k3 ?k4 ?k5 ?k6 ?k7 ?k8 ?k9 ?_; (case k1 => k_asm); (case k2 => k_asm); (case k3 => k_inst); (case k4 => k_is); (case k5 => k_is); (case k6 => k_is); (case k7 => k_is); (case k8 => k_get); (case k9 => k_handed); k_whole)
  · exact h _ _
  · exact h _
  · exact h _
theorem ne_pct {n : Nat} (h : n ≠ 37) : ((⟨#[Int.toNat (n : Int)]⟩ : PySem.Str) != PySem.Str.ofString "%") = true := by
  rw [show PySem.Str.ofString "%" = ⟨#[37]⟩ from by decide +kernel]
  simp [h]
set_option maxRecDepth 100000 in
set_option maxHeartbeats 8000000 in
theorem dec_in {prog : Program} {w : World} {q : Addr} {D : PySem.Str} {ap : Bool} (HD : DecOf w q D ap) {n : Nat} {t : Tok} (h1 : n < 256) (hD : (Builtin.Str.occurrences D ⟨#[n]⟩ 0 D.length 1).isEmpty = true) (hp : ap = true ∨ n ≠ 37) :
    Gives prog w (Mine.hd.heap_39 w.params) (.ref 43) [.ref q, .bytes (hx n).toArray t] [] 2 20 (fun r => r = .bool true) := by
  unfold Gives
  intro dp un gd cn cs a ccd cl outer A₀ base h₀ L m news s p loose mean mg mb Q E B F X N T hk hd hu hret
  refine wpAny_call ?_
  walk_at "MINE enter"
  k_steps
  all_goals (refine hret _ _ _ ?_ (by assumption) (by assumption))
  · exact absurd rfl (by assumption)
  · exact congrArg Value.bool (by assumption)
  · refine congrArg Value.bool (ne_pct ?_)
    rcases hp with hp | hp
    · simp_all
    · exact hp
  · refine congrArg Value.bool ?_
    simp only [Int.toNat_natCast, hD]
    rfl

/-- «not in q» asks q's own __contains__ -/
def InstK (w : World) (q : Addr) : Prop :=
  ∀ (prog : Program) (A : Around) (E : Value → Shared → Prop) (s : Shared) (h₀ : Heap) (L : Addr) (m : PySem.Str → Option Value) (Q : Value → Shared → Prop) (v : Value),
    Fr h₀ L s.heap m → (Mine.hd.heap_39 w.params).In h₀ → wpAny (model prog w) A (call (.ref 43) [.ref q, v]) (fun r s' => wpAny (model prog w) A (truthy r) (fun b => Q (.bool (!b))) E s') E s →
    wpAny (model prog w) A (compareOp .NotIn v (.ref q)) Q E s
theorem InstK.use {w : World} {q : Addr} (H : InstK w q) {prog : Program} {A : Around} {E : Value → Shared → Prop} {s : Shared} {h₀ : Heap} {L : Addr} {m : PySem.Str → Option Value} {Q : Value → Shared → Prop} {v : Value}
    (F : Fr h₀ L s.heap m) (X : (Mine.hd.heap_39 w.params).In h₀) (h : wpAny (model prog w) A (call (.ref 43) [.ref q, v]) (fun r s' => wpAny (model prog w) A (truthy r) (fun b => Q (.bool (!b))) E s') E s) :
    wpAny (model prog w) A (compareOp .NotIn v (.ref q)) Q E s := H _ _ _ _ _ _ _ _ _ F X h
set_option maxRecDepth 100000 in
theorem inst93 {w : World} : InstK w 93 := by
  unfold InstK
  intro prog A E s h₀ L m Q v F X h
  k_dflt (refine' notIn_K ?k1 ?k2 ?k3 ?k4 ?k5 ?_; (case k1 => k_asm); (case k2 => k_asm); (case k3 => k_inst); (case k4 => k_is); (case k5 => k_is); k_whole)
  exact h
local macro_rules | `(tactic| walk_at "compareOp NotIn bytes ref") => `(tactic| (k_here; (with_reducible refine' InstK.use ?k0 ?k1 ?k2 ?_; (case k0 => with_reducible assumption); (case k1 => k_asm); (case k2 => k_asm))))
local macro_rules | `(tactic| walk_at "call ref") => `(tactic| (k_here; (with_reducible show wpAny _ _ (call (Value.ref 43) [Value.ref _, Value.bytes _ _]) _ _ _); k_dflt (refine' dec_in ?kS ?kl ?kD ?kp _ _ _ _ _ _ _ _ _ _ _ _ _ _ _ _ _ _ _ _ _ _ _ ?kB ?kF ?kX ?kN ?kT ?kK ?kd ?ku ?kr; (case kS => with_reducible assumption); (case kl => assumption); (case kD => assumption); (case kp => assumption); walk_at "MINE back"; (case' kr => (intro v9 h9 tk9 hv9 F9 N9; subst hv9)))))
set_option maxRecDepth 100000 in
set_option maxHeartbeats 8000000 in
theorem dec_get {prog : Program} {w : World} {q : Addr} {D : PySem.Str} {ap : Bool} (HD : DecOf w q D ap) (HI : InstK w q) {n : Nat} {t : Tok} (h1 : n < 256) (hD : (Builtin.Str.occurrences D ⟨#[n]⟩ 0 D.length 1).isEmpty = true) (hp : ap = true ∨ n ≠ 37) :
    Gives prog w (Mine.hd.heap_39 w.params) (.ref 50) [.ref q, .bytes (hx n).toArray t] [] 3 25 (fun r => ∃ t', r = .bytes #[n.toUInt8] t') := by
  unfold Gives
  intro dp un gd cn cs a ccd cl outer A₀ base h₀ L m news s p loose mean mg mb Q E B F X N T hk hd hu hret
  refine wpAny_call ?_
  walk_at "MINE enter"
  k_steps
  exact hret _ _ _ ⟨_, rfl⟩ (by assumption) (by first | assumption | exact news_tail (by assumption) | exact news_tail (news_tail (by assumption)))
/-- q[..] asks q's own __getitem__ -/
def SubK (w : World) (q : Addr) : Prop :=
  ∀ (prog : Program) (A : Around) (E : Value → Shared → Prop) (s : Shared) (h₀ : Heap) (L : Addr) (m : PySem.Str → Option Value) (Q : Value → Shared → Prop) (value slice : PySem.Expr) (i : Value),
    Fr h₀ L s.heap m → (Mine.hd.heap_39 w.params).In h₀ → wpAny (model prog w) A.in1 (call (.ref 50) [.ref q, i]) Q E s →
    (subscripted slice true (.ref q) i = runValue (.builtin "lifetime.subscript" ⟨[.ref q, i], []⟩)) → wpAny (model prog w) A (subscriptTail value slice (.ref q) i) Q E s
theorem SubK.use {w : World} {q : Addr} (H : SubK w q) {prog : Program} {A : Around} {E : Value → Shared → Prop} {s : Shared} {h₀ : Heap} {L : Addr} {m : PySem.Str → Option Value} {Q : Value → Shared → Prop} {value slice : PySem.Expr} {i : Value}
    (F : Fr h₀ L s.heap m) (X : (Mine.hd.heap_39 w.params).In h₀) (h : wpAny (model prog w) A.in1 (call (.ref 50) [.ref q, i]) Q E s)
    (hsl : subscripted slice true (.ref q) i = runValue (.builtin "lifetime.subscript" ⟨[.ref q, i], []⟩)) : wpAny (model prog w) A (subscriptTail value slice (.ref q) i) Q E s := H _ _ _ _ _ _ _ _ _ _ _ F X h hsl
set_option maxRecDepth 100000 in
theorem sub93 {w : World} : SubK w 93 := by
  unfold SubK
  intro prog A E s h₀ L m Q value slice i F X h hsl
  k_dflt (refine' sub_K ?k1 ?k2 ?k3 ?k4 ?k5 ?k6 ?_ ?k7; (case k1 => k_asm); (case k2 => k_asm); (case k3 => k_inst); (case k4 => k_is); (case k5 => k_is); (case k6 => k_is); (case k7 => exact hsl); k_whole)
  exact h
end
section
theorem calmMaps : True := by w_top off; trivial
set_option maxRecDepth 100000 in
theorem dec102 {w : World} : DecOf w 102 (PySem.Str.ofString "/?#[]") false := by
  unfold DecOf
  intro prog A E s h₀ L m Q ex F X
  refine ⟨fun h => ?_, fun h => ?_, fun h => ?_⟩
  all_goals k_dflt (refine' get_own ?k1 ?k2 ?k3 ?k4 ?k5 ?k6 ?k7 ?k8 ?k9 ?_; (case k1 => k_asm); (case k2 => k_asm); (case k3 => k_inst); (case k4 => k_is); (case k5 => k_is); (case k6 => k_is); (case k7 => k_is); (case k8 => k_get); (case k9 => k_handed); k_whole)
  · exact h _ _
  · exact h _
  · exact h _
set_option maxRecDepth 100000 in
theorem inst102 {w : World} : InstK w 102 := by
  unfold InstK
  intro prog A E s h₀ L m Q v F X h
  k_dflt (refine' notIn_K ?k1 ?k2 ?k3 ?k4 ?k5 ?_; (case k1 => k_asm); (case k2 => k_asm); (case k3 => k_inst); (case k4 => k_is); (case k5 => k_is); k_whole)
  exact h
set_option maxRecDepth 100000 in
theorem sub102 {w : World} : SubK w 102 := by
  unfold SubK
  intro prog A E s h₀ L m Q value slice i F X h hsl
  k_dflt (refine' sub_K ?k1 ?k2 ?k3 ?k4 ?k5 ?k6 ?_ ?k7; (case k1 => k_asm); (case k2 => k_asm); (case k3 => k_inst); (case k4 => k_is); (case k5 => k_is); (case k6 => k_is); (case k7 => exact hsl); k_whole)
  exact h
set_option maxRecDepth 100000 in
theorem dec108 {w : World} : DecOf w 108 (PySem.Str.ofString "#[]&=") false := by
  unfold DecOf
  intro prog A E s h₀ L m Q ex F X
  refine ⟨fun h => ?_, fun h => ?_, fun h => ?_⟩
  all_goals k_dflt (refine' get_own ?k1 ?k2 ?k3 ?k4 ?k5 ?k6 ?k7 ?k8 ?k9 ?_; (case k1 => k_asm); (case k2 => k_asm); (case k3 => k_inst); (case k4 => k_is); (case k5 => k_is); (case k6 => k_is); (case k7 => k_is); (case k8 => k_get); (case k9 => k_handed); k_whole)
  · exact h _ _
  · exact h _
  · exact h _
set_option maxRecDepth 100000 in
theorem inst108 {w : World} : InstK w 108 := by
  unfold InstK
  intro prog A E s h₀ L m Q v F X h
  k_dflt (refine' notIn_K ?k1 ?k2 ?k3 ?k4 ?k5 ?_; (case k1 => k_asm); (case k2 => k_asm); (case k3 => k_inst); (case k4 => k_is); (case k5 => k_is); k_whole)
  exact h
set_option maxRecDepth 100000 in
theorem sub108 {w : World} : SubK w 108 := by
  unfold SubK
  intro prog A E s h₀ L m Q value slice i F X h hsl
  k_dflt (refine' sub_K ?k1 ?k2 ?k3 ?k4 ?k5 ?k6 ?_ ?k7; (case k1 => k_asm); (case k2 => k_asm); (case k3 => k_inst); (case k4 => k_is); (case k5 => k_is); (case k6 => k_is); (case k7 => exact hsl); k_whole)
  exact h
set_option maxRecDepth 100000 in
theorem dec114 {w : World} : DecOf w 114 (PySem.Str.ofString "#[]&") false := by
  unfold DecOf
  intro prog A E s h₀ L m Q ex F X
  refine ⟨fun h => ?_, fun h => ?_, fun h => ?_⟩
  all_goals k_dflt (refine' get_own ?k1 ?k2 ?k3 ?k4 ?k5 ?k6 ?k7 ?k8 ?k9 ?_; (case k1 => k_asm); (case k2 => k_asm); (case k3 => k_inst); (case k4 => k_is); (case k5 => k_is); (case k6 => k_is); (case k7 => k_is); (case k8 => k_get); (case k9 => k_handed); k_whole)
  · exact h _ _
  · exact h _
  · exact h _
set_option maxRecDepth 100000 in
theorem inst114 {w : World} : InstK w 114 := by
  unfold InstK
  intro prog A E s h₀ L m Q v F X h
  k_dflt (refine' notIn_K ?k1 ?k2 ?k3 ?k4 ?k5 ?_; (case k1 => k_asm); (case k2 => k_asm); (case k3 => k_inst); (case k4 => k_is); (case k5 => k_is); k_whole)
  exact h
set_option maxRecDepth 100000 in
theorem sub114 {w : World} : SubK w 114 := by
  unfold SubK
  intro prog A E s h₀ L m Q value slice i F X h hsl
  k_dflt (refine' sub_K ?k1 ?k2 ?k3 ?k4 ?k5 ?k6 ?_ ?k7; (case k1 => k_asm); (case k2 => k_asm); (case k3 => k_inst); (case k4 => k_is); (case k5 => k_is); (case k6 => k_is); (case k7 => exact hsl); k_whole)
  exact h
set_option maxRecDepth 100000 in
theorem dec120 {w : World} : DecOf w 120 (PySem.Str.ofString "#[]") false := by
  unfold DecOf
  intro prog A E s h₀ L m Q ex F X
  refine ⟨fun h => ?_, fun h => ?_, fun h => ?_⟩
  all_goals k_dflt (refine' get_own ?k1 ?k2 ?k3 ?k4 ?k5 ?k6 ?k7 ?k8 ?k9 ?_; (case k1 => k_asm); (case k2 => k_asm); (case k3 => k_inst); (case k4 => k_is); (case k5 => k_is); (case k6 => k_is); (case k7 => k_is); (case k8 => k_get); (case k9 => k_handed); k_whole)
  · exact h _ _
  · exact h _
  · exact h _
set_option maxRecDepth 100000 in
theorem inst120 {w : World} : InstK w 120 := by
  unfold InstK
  intro prog A E s h₀ L m Q v F X h
  k_dflt (refine' notIn_K ?k1 ?k2 ?k3 ?k4 ?k5 ?_; (case k1 => k_asm); (case k2 => k_asm); (case k3 => k_inst); (case k4 => k_is); (case k5 => k_is); k_whole)
  exact h
set_option maxRecDepth 100000 in
theorem sub120 {w : World} : SubK w 120 := by
  unfold SubK
  intro prog A E s h₀ L m Q value slice i F X h hsl
  k_dflt (refine' sub_K ?k1 ?k2 ?k3 ?k4 ?k5 ?k6 ?_ ?k7; (case k1 => k_asm); (case k2 => k_asm); (case k3 => k_inst); (case k4 => k_is); (case k5 => k_is); (case k6 => k_is); (case k7 => exact hsl); k_whole)
  exact h
set_option maxRecDepth 100000 in
theorem dec59 {w : World} : DecOf w 59 (PySem.Str.ofString "") true := by
  unfold DecOf
  intro prog A E s h₀ L m Q ex F X
  refine ⟨fun h => ?_, fun h => ?_, fun h => ?_⟩
  all_goals k_dflt (refine' get_own ?k1 ?k2 ?k3 ?k4 ?k5 ?k6 ?k7 ?k8 ?k9 ?_; (case k1 => k_asm); (case k2 => k_asm); (case k3 => k_inst); (case k4 => k_is); (case k5 => k_is); (case k6 => k_is); (case k7 => k_is); (case k8 => k_get); (case k9 => k_handed); k_whole)
  · exact h _ _
  · exact h _
  · exact h _
set_option maxRecDepth 100000 in
theorem inst59 {w : World} : InstK w 59 := by
  unfold InstK
  intro prog A E s h₀ L m Q v F X h
  k_dflt (refine' notIn_K ?k1 ?k2 ?k3 ?k4 ?k5 ?_; (case k1 => k_asm); (case k2 => k_asm); (case k3 => k_inst); (case k4 => k_is); (case k5 => k_is); k_whole)
  exact h
set_option maxRecDepth 100000 in
theorem sub59 {w : World} : SubK w 59 := by
  unfold SubK
  intro prog A E s h₀ L m Q value slice i F X h hsl
  k_dflt (refine' sub_K ?k1 ?k2 ?k3 ?k4 ?k5 ?k6 ?_ ?k7; (case k1 => k_asm); (case k2 => k_asm); (case k3 => k_inst); (case k4 => k_is); (case k5 => k_is); (case k6 => k_is); (case k7 => exact hsl); k_whole)
  exact h
end
section
theorem calmSpl : True := by w_top off; trivial
section
open Builtin PySem.Builtin.Bytes
/-- pieces, each behind a percent -/
def flat (chs : List (List UInt8)) : List UInt8 := chs.flatMap fun c => 37 :: c
def posOf : Nat → List (List UInt8) → List Nat
  | _, [] => []
  | a, c :: r => a :: posOf (a + 1 + c.length) r
def occStep (b : Array UInt8) (acc : List Nat × Nat) (i : Nat) : List Nat × Nat := if i ≥ acc.2 && b.extract i (i + 1) == #[37] then (i :: acc.1, i + 1) else acc
theorem one_at {b : List UInt8} {i : Nat} {c : UInt8} (h : b[i]? = some c) : b.toArray.extract i (i + 1) = #[c] := by
  obtain ⟨hi, rfl⟩ := List.getElem?_eq_some_iff.mp h
  apply Array.ext
  · simp; omega
  · intro j h1 h2
    simp at h1 h2
    simp [show j = 0 by omega]
theorem occ_free {b : List UInt8} : ∀ (seg pre post : List UInt8) (acc : List Nat × Nat), (∀ c ∈ seg, c ≠ 37) → b = pre ++ seg ++ post → (List.range' pre.length seg.length).foldl (occStep b.toArray) acc = acc
  | [], _, _, _, _, _ => rfl
  | c :: r, pre, post, acc, h, hb => by
    have hc : b[pre.length]? = some c := by rw [hb]; simp
    rw [List.length_cons, List.range'_succ, List.foldl_cons]
    have e : occStep b.toArray acc pre.length = acc := by
      unfold occStep
      rw [one_at hc]
      have : c ≠ 37 := h c (by simp)
      rw [if_neg (by simp [this])]
    rw [e]
    have := occ_free (b := b) r (pre ++ [c]) post acc (fun d hd => h d (by simp [hd])) (by rw [hb]; simp)
    simpa using this
theorem occ_flat {b : List UInt8} : ∀ (chs : List (List UInt8)) (pre : List UInt8) (acc : List Nat × Nat), (∀ ch ∈ chs, ∀ c ∈ ch, c ≠ 37) → b = pre ++ flat chs → acc.2 ≤ pre.length →
    ((List.range' pre.length (flat chs).length).foldl (occStep b.toArray) acc).1 = (posOf pre.length chs).reverse ++ acc.1
  | [], _, _, _, _, _ => rfl
  | ch :: r, pre, acc, h, hb, ha => by
    have hc : b[pre.length]? = some 37 := by rw [hb]; simp [flat]
    have el : (flat (ch :: r)).length = 1 + ch.length + (flat r).length := by simp [flat]; omega
    rw [el, show 1 + ch.length + (flat r).length = 1 + (ch.length + (flat r).length) by omega, ← List.range'_append_1, List.foldl_append, ← List.range'_append_1, List.foldl_append]
    have e1 : (List.range' pre.length 1).foldl (occStep b.toArray) acc = (pre.length :: acc.1, pre.length + 1) := by
      show occStep b.toArray acc pre.length = _
      unfold occStep
      rw [one_at hc]
      rw [if_pos (by simp [ha])]
    rw [e1]
    have e2 := occ_free (b := b) ch (pre ++ [37]) (flat r) (pre.length :: acc.1, pre.length + 1) (h ch (by simp)) (by rw [hb]; simp [flat])
    have e3 : (pre ++ [37]).length = pre.length + 1 := by simp
    rw [e3] at e2
    rw [e2]
    have ih := occ_flat (b := b) r (pre ++ [37] ++ ch) (pre.length :: acc.1, pre.length + 1) (fun c hc' => h c (by simp [hc'])) (by rw [hb]; simp [flat]) (by simp)
    have e4 : (pre ++ [37] ++ ch).length = pre.length + 1 + ch.length := by simp; omega
    rw [e4] at ih
    rw [ih]
    simp [posOf]
theorem occ_eq (hd : List UInt8) (chs : List (List UInt8)) (h0 : ∀ c ∈ hd, c ≠ 37) (h : ∀ ch ∈ chs, ∀ c ∈ ch, c ≠ 37) :
    occurrences (hd ++ flat chs).toArray #[37] 0 (hd ++ flat chs).toArray.size = posOf hd.length chs := by
  unfold occurrences
  have e : (List.range ((hd ++ flat chs).toArray.size + 1 - (0 + (#[37] : Array UInt8).size))).map (· + 0) = List.range' 0 (hd.length + (flat chs).length) := by
    simp [List.range_eq_range']
  rw [e]
  show ((List.range' 0 (hd.length + (flat chs).length)).foldl (occStep (hd ++ flat chs).toArray) ([], 0)).1.reverse = _
  rw [← List.range'_append_1, List.foldl_append]
  have e1 := occ_free (b := hd ++ flat chs) hd [] (flat chs) ([], 0) h0 (by simp)
  rw [show ([] : List UInt8).length = 0 from rfl] at e1
  rw [e1]
  have e2 := occ_flat (b := hd ++ flat chs) chs hd ([], 0) h rfl (Nat.zero_le _)
  rw [show 0 + hd.length = hd.length by omega, e2]
  simp
theorem cut_at {b pre seg post : List UInt8} (hb : b = pre ++ seg ++ post) : b.toArray.extract pre.length (pre.length + seg.length) = seg.toArray := by
  subst hb
  simp [List.append_assoc]
def btw (b : Array UInt8) (st : Array (Array UInt8) × Nat) (places : List Nat) : List (Array UInt8) :=
  let r := places.foldl (fun (st : Array (Array UInt8) × Nat) p => (st.1.push (b.extract st.2 p), p + 1)) st
  (r.1.push (b.extract r.2 b.size)).toList
theorem btw_eq {b : List UInt8} : ∀ (chs : List (List UInt8)) (pre seg : List UInt8) (parts : Array (Array UInt8)), b = pre ++ seg ++ flat chs →
    btw b.toArray (parts, pre.length) (posOf (pre.length + seg.length) chs) = parts.toList ++ (seg.toArray :: chs.map List.toArray)
  | [], pre, seg, parts, hb => by
    have e : b.toArray.extract pre.length b.toArray.size = seg.toArray := by
      have := cut_at (post := []) (show b = pre ++ seg ++ [] by rw [hb]; simp [flat])
      have hl : b.toArray.size = pre.length + seg.length := by rw [hb]; simp [flat]
      rw [hl]; exact this
    show (parts.push (b.toArray.extract pre.length b.toArray.size)).toList = _
    rw [e]
    simp
  | ch :: r, pre, seg, parts, hb => by
    have ih := btw_eq (b := b) r (pre ++ seg ++ [37]) ch (parts.push seg.toArray) (by rw [hb]; simp [flat])
    have e1 : (pre ++ seg ++ [37]).length = pre.length + seg.length + 1 := by simp; omega
    rw [e1] at ih
    have e2 := cut_at (post := flat (ch :: r)) hb
    show btw b.toArray (parts, pre.length) ((pre.length + seg.length) :: posOf (pre.length + seg.length + 1 + ch.length) r) = _
    have e3 : btw b.toArray (parts, pre.length) ((pre.length + seg.length) :: posOf (pre.length + seg.length + 1 + ch.length) r) = btw b.toArray (parts.push (b.toArray.extract pre.length (pre.length + seg.length)), pre.length + seg.length + 1) (posOf (pre.length + seg.length + 1 + ch.length) r) := rfl
    rw [e3, e2, ih]
    simp
theorem between_eq (hd : List UInt8) (chs : List (List UInt8)) : between (hd ++ flat chs).toArray 1 (posOf hd.length chs) = (hd :: chs).map List.toArray := by
  have := btw_eq (b := hd ++ flat chs) chs [] hd #[] (by simp)
  simp only [List.length_nil, Nat.zero_add] at this
  exact this.trans (by simp)
end
end
section
theorem calmSpl2 : True := by w_top off; trivial
/-- values that are these bytes -/
inductive BsAre : List Value → List (List UInt8) → Prop
  | nil : BsAre [] []
  | cons (b : List UInt8) (t : Tok) {vs bs} : BsAre vs bs → BsAre (.bytes b.toArray t :: vs) (b :: bs)
theorem BsAre.length : ∀ {vs : List Value} {bs : List (List UInt8)}, BsAre vs bs → vs.length = bs.length
  | _, _, .nil => rfl
  | _, _, .cons _ _ r => by simp [r.length]
theorem BsAre.snoc {b : List UInt8} {t : Tok} : ∀ {vs : List Value} {bs : List (List UInt8)}, BsAre vs bs → BsAre (vs ++ [.bytes b.toArray t]) (bs ++ [b])
  | _, _, .nil => .cons b t .nil
  | _, _, .cons c u r => .cons c u r.snoc
theorem BsAre.at : ∀ {vs : List Value} {bs : List (List UInt8)} {i : Nat} {v : Value}, BsAre vs bs → vs[i]? = some v → ∃ b t, bs[i]? = some b ∧ v = .bytes b.toArray t
  | _, _, i, _, .nil, h => by simp at h
  | _, _, 0, _, .cons c u r, h => ⟨c, u, rfl, by simpa using h.symm⟩
  | _, _, i + 1, _, .cons c u r, h => by simpa using r.at (by simpa using h)
section
open Builtin PySem.Builtin.Bytes
set_option maxRecDepth 100000
theorem new_all {M : Model} {A : Around} {E : Value → Shared → Prop} {Q : List Value → Shared → Prop} : ∀ (ls : List (List UInt8)) {s : Shared}, (∀ l ∈ ls, l.length ≤ sizeLine) → (∀ vals k, BsAre vals ls → Q vals { s with toks := k }) →
    wpAny M A ((ls.map List.toArray).mapM Kind.bytes.new) Q E s
  | [], s, _, h => by
    rw [List.map_nil, List.mapM_nil]
    exact wpAny_pure (h [] s.toks .nil)
  | l :: r, s, hs, h => by
    rw [List.map_cons, List.mapM_cons]
    refine wpAny_bind ?_
    show wpAny M A (mkBytes l.toArray) _ _ _
    refine wpAny_mkBytes ?_ (by rw [List.size_toArray]; exact hs l (by simp))
    refine wpAny_bind (new_all r (fun x hx => hs x (by simp [hx])) fun vals k hv => wpAny_pure (h _ _ (.cons l _ hv)))

theorem flat_count (chs : List (List UInt8)) : chs.length ≤ (flat chs).length := by
  induction chs with
  | nil => simp
  | cons c r ih =>
    have e : (flat (c :: r)).length = c.length + 1 + (flat r).length := by simp [flat]; omega
    rw [e, List.length_cons]
    omega
theorem flat_mem {l : List UInt8} : ∀ {chs : List (List UInt8)}, l ∈ chs → l.length ≤ (flat chs).length
  | c :: r, hm => by
    have e : (flat (c :: r)).length = c.length + 1 + (flat r).length := by simp [flat]; omega
    rw [e]
    rcases List.mem_cons.mp hm with rfl | hm
    · omega
    · have := flat_mem hm; omega
theorem split_meets {hd : List UInt8} {chs : List (List UInt8)} (h0 : ∀ c ∈ hd, c ≠ 37) (h : ∀ ch ∈ chs, ∀ c ∈ ch, c ≠ 37) (hl : (hd ++ flat chs).length ≤ 8000) (hn : chs.length ≤ 8000) (t u : Tok) :
    Meets («bytes.split» ⟨[.bytes (hd ++ flat chs).toArray t, .bytes #[37] u], []⟩) (fun _ R s => ∀ vals k, BsAre vals (hd :: chs) → R (.ok (.ret (.ref s.heap.objs.size))) { s with heap := s.heap.push { cls := .type "list", data := .seq vals.toArray }, toks := k }) := by
  refine .of_wp fun prog w A R s hS => ?_
  unfold Builtin.«bytes.split» splitM
  dsimp only
  refine wpAny_bind (wpAny_of_eq (a := [some (.bytes #[37] u), none]) rfl ?_)
  dsimp only
  refine wpAny_bind (wpAny_pure ?_)
  refine wpAny_bind (wpAny_of_eq (a := (hd ++ flat chs).toArray) rfl ?_)
  refine wpAny_bind (wpAny_of_eq KBd.like_eq ?_)
  refine wpAny_ite (KPc.ite_no (by decide) ?_)
  have hlim : (occurrences (hd ++ flat chs).toArray #[37] 0 (hd ++ flat chs).toArray.size).take (if (-1 : Int) < 0 then (hd ++ flat chs).toArray.size + 1 else Int.toNat (-1)) = posOf hd.length chs := by
    rw [occ_eq hd chs h0 h, if_pos (by decide)]
    refine List.take_of_length_le ?_
    have e : ∀ (cs : List (List UInt8)) a, (posOf a cs).length = cs.length := by
      intro cs
      induction cs with
      | nil => intro a; rfl
      | cons c r ih => intro a; simp [posOf, ih]
    have e2 := flat_count chs
    rw [e]
    simp only [List.size_toArray, List.length_append]
    omega
  have hsl : ∀ l ∈ hd :: chs, l.length ≤ sizeLine := by
    intro l hm
    rw [PySem.sizeLine_eq]
    rcases List.mem_cons.mp hm with rfl | hm
    · simp only [List.length_append] at hl; omega
    · have := flat_mem hm
      simp only [List.length_append] at hl; omega
  simp only [Bool.false_eq_true, if_false, hlim]
  cases chs with
  | nil =>
    refine wpAny_ite (KPc.ite_yes (by rfl) ?_)
    refine wpAny_bind (wpAny_rule ?_)
    refine wpAny_bind (wpAny_of_eq (a := .bytes (hd ++ flat []).toArray t) (by kernel_rfl) ?_)
    refine wpAny_bind (wpAny_newObj_type (wpAny_pure ⟨_, rfl, ?_⟩) (by show ([_] : List Value).toArray.size ≤ sizeLine; rw [PySem.sizeLine_eq]; simp))
    have e : hd ++ flat [] = hd := by simp [flat]
    have := hS [.bytes hd.toArray t] s.toks (.cons hd t .nil)
    rw [e]
    exact this
  | cons c r =>
    refine wpAny_ite (KPc.ite_no (by simp [posOf]) ?_)
    refine wpAny_bind ?_
    rw [show (#[37] : Array UInt8).size = 1 from rfl, between_eq hd (c :: r)]
    refine new_all (hd :: c :: r) hsl fun vals k hv => ?_
    refine wpAny_bind (wpAny_newObj_type (wpAny_pure ⟨_, rfl, hS vals k hv⟩) ?_)
    show vals.toArray.size ≤ sizeLine
    rw [List.size_toArray, hv.length, PySem.sizeLine_eq]
    simp only [List.length_cons] at hn ⊢
    omega
theorem split_call {prog : Program} {w : World} {A : Around} {E : Value → Shared → Prop} {s : Shared} {t u : Tok} {Q : Value → Shared → Prop} {h₀ : Heap} {L : Addr} {m : PySem.Str → Option Value} {news : List (Addr × Obj)} {b hd : List UInt8} {chs : List (List UInt8)}
    (hb : b = hd ++ flat chs) (h0 : ∀ c ∈ hd, c ≠ 37) (h : ∀ ch ∈ chs, ∀ c ∈ ch, c ≠ 37) (hl : b.length ≤ 8000) (F : Fr h₀ L s.heap m) (N : News h₀ L s.heap news)
    (hq : ∀ D vals h' k, BsAre vals (hd :: chs) → Fr h₀ L h' m → News h₀ L h' ((D, { cls := .type "list", data := .seq vals.toArray }) :: news) → (∀ p ∈ news, p.1 < D) → Q (.ref D) { s with heap := h', toks := k }) :
    wpAny (model prog w) A (call (.builtin "bytes.split") [.bytes b.toArray t, .bytes #[37] u]) Q E s := by
  subst hb
  exact call_meets slot_split (typeIs_bytes _ _ _) entry_split (args_split _ _) (split_meets h0 h hl (by have := flat_count chs; simp only [List.length_append] at hl; omega) t u) fun vals k hv =>
    hq s.heap.objs.size vals _ k hv (F.push _) (N.push F _) fun p hp => Heap.lt_size (N p hp).1
end
end
section
theorem calmJoin : True := by w_top off; trivial
section
open Builtin PySem.Builtin.Bytes
set_option maxRecDepth 100000
theorem take_eq {id : String} {b : Array UInt8} {t : Tok} : takeBufferQuiet? id (.bytes b t) 0 = pure (some (b, none)) := by
  unfold takeBufferQuiet? takeBuffer?
  rw [KBy.special_eq KBy.look_buffer, KBy.own_buffer]
  simp only [pure_bind]
  have e : ((0 : Int) == fullReadOnly) = false := by decide
  rw [e, KBy.buffer_eq]
  rfl
theorem loop_inv {M : Model} {A : Around} {E : Value → Shared → Prop} {β : Type} {s : Shared} {f : Nat → β → Sem (ForInStep β)} (inv : Nat → β → Prop) :
    ∀ (k j : Nat) (st : β), (∀ i st, j ≤ i → i < j + k → inv i st → wpAny M A (f i st) (fun r s' => s' = s ∧ ∃ st', r = .yield st' ∧ inv (i + 1) st') E s) → inv j st →
    wpAny M A (forIn (List.range' j k 1) st f) (fun st' s' => s' = s ∧ inv (j + k) st') E s
  | 0, j, st, _, h => by
    rw [List.range'_zero, List.forIn_nil]
    exact wpAny_pure ⟨rfl, h⟩
  | k + 1, j, st, hf, h => by
    rw [List.range'_succ, List.forIn_cons]
    refine wpAny_bind (wpAny_mono (hf j st (Nat.le_refl _) (by omega) h) (fun r s' hr => ?_) fun _ _ e => e)
    obtain ⟨rfl, st', rfl, h'⟩ := hr
    have := loop_inv inv k (j + 1) st' (fun i st h1 h2 => hf i st (by omega) (by omega)) h'
    rw [show j + 1 + k = j + (k + 1) by omega] at this
    exact this
theorem letgo_all {M : Model} {A : Around} {E : Value → Shared → Prop} {s : Shared} {Q : Unit → Shared → Prop} {keep : List Value} : ∀ {taken : List (Value × Option Value)}, (∀ p ∈ taken, p.2 = none) → Q () s → wpAny M A (joinLetGo taken keep) Q E s
  | [], _, h => wpAny_pure h
  | (x, w) :: r, hw, h => by
    have e : w = none := hw (x, w) (by simp)
    subst e
    unfold joinLetGo
    exact wpAny_bind (wpAny_letGo (letgo_all (fun p hp => hw p (by simp [hp])) h))
theorem joined_go (ls : List (List UInt8)) : ∀ (k : Nat) (acc : Array UInt8), (((ls.map List.toArray).zipIdx k).foldl (fun out (p : Array UInt8 × Nat) => (if p.2 > 0 then out ++ (#[] : Array UInt8) else out) ++ p.1) acc) = acc ++ ls.flatten.toArray := by
  induction ls with
  | nil => intro k acc; simp
  | cons l r ih =>
    intro k acc
    rw [List.map_cons, List.zipIdx_cons, List.foldl_cons, ih]
    simp
theorem joined_eq (ls : List (List UInt8)) : joined #[] (ls.map List.toArray) = ls.flatten.toArray := by
  have := joined_go ls 0 #[]
  simp only [Array.empty_append] at this
  exact this
theorem join_meets {vals : List Value} {bs : List (List UInt8)} (hv : BsAre vals bs) (h2 : 2 ≤ bs.length) (hl : bs.flatten.length ≤ 8000) (D : Addr) (n : Nat) (t : Tok) :
    Meets («bytes.join» ⟨[.bytes #[] t, .ref D], []⟩) (fun _ R s => s.heap.get? D = some { cls := .type "list", data := .seq vals.toArray n } ∧ ∀ t' k, R (.ok (.ret (.bytes bs.flatten.toArray t'))) { s with toks := k }) := by
  refine .of_wp fun prog w A R s hS => ?_
  obtain ⟨hD, hR⟩ := hS
  unfold Builtin.«bytes.join» joinM
  dsimp only
  refine wpAny_bind (wpAny_of_eq (a := (_, _)) rfl ?_)
  dsimp only
  refine wpAny_bind ?_
  unfold joinItems
  refine wpAny_bind (wpAny_typeOf (T := "list") ⟨_, hD, rfl⟩ ?_)
  refine wpAny_ite (KPc.ite_yes (by decide) ?_)
  refine wpAny_pure ?_
  refine wpAny_bind (wpAny_seqItems hD rfl ?_)
  dsimp only
  refine wpAny_ite (KPc.ite_yes (by decide) ?_)
  obtain ⟨v0, v1, vs, hvs⟩ : ∃ v0 v1 vs, vals = v0 :: v1 :: vs := by
    cases hv with
    | nil => simp at h2
    | cons b t r =>
      cases r with
      | nil => simp at h2
      | cons c u r => exact ⟨_, _, _, rfl⟩
  have hmatch : ∀ (X : Value → Sem PySem.Fin) (Y : Sem PySem.Fin), (match vals.toArray with | #[x] => X x | _ => Y) = Y := by
    intro X Y
    rw [hvs]
    first | rfl | (with_unfolding_all rfl) | simp
  · refine Eq.mpr (congrArg (fun T => wpAny _ _ T _ _ _) (hmatch _ _)) ?_
    refine wpAny_bind ?_
    rw [KPc.range_list]
    have hsz : vals.toArray.size = bs.length := by rw [List.size_toArray, hv.length]
    refine wpAny_mono (loop_inv (s := s) (fun j (st : Array (Array UInt8) × List (Value × Option Value)) => st.1.toList = (bs.take j).map List.toArray ∧ ∀ p ∈ st.2, p.2 = none ∧ p.1.onHeap = false) vals.toArray.size 0 _ ?hf ⟨by simp, by simp⟩) (fun st s' h => ?_) (fun _ _ e => e)
    case hf =>
      intro i st _ hi ⟨h1, h3⟩
      have hi' : i < vals.length := by simpa using hi
      obtain ⟨b, tb, hb, hvb⟩ := hv.at (List.getElem?_eq_getElem hi')
      have hx : Array.getD vals.toArray i Value.none = .bytes b.toArray tb := by
        rw [Array.getD_eq_getD_getElem?]
        simp [hi', hvb]
      have hany : (st.2.any fun x => Value.onHeap x.1) = false := by
        rw [List.any_eq_false]
        intro p hp
        simp [(h3 p hp).2]
      refine wpAny_bind (wpAny_seqItems hD rfl ?_)
      dsimp only
      refine wpAny_ite (KPc.ite_no (by rw [hany]; decide) ?_)
      rw [hx]
      refine wpAny_bind (wpAny_holding (wpAny_of_eq take_eq ?_))
      dsimp only
      refine wpAny_bind (wpAny_seqItems hD rfl ?_)
      dsimp only
      refine wpAny_ite (KPc.ite_no (by simp) ?_)
      refine wpAny_pure ⟨rfl, _, rfl, ?_, ?_⟩
      · have e : bs.take (i + 1) = bs.take i ++ [b] := by rw [List.take_add_one, hb]; rfl
        rw [e]
        simp [h1]
      · intro p hp
        rcases List.mem_append.mp hp with hp | hp
        · exact h3 p hp
        · rw [List.mem_singleton.mp hp]
          exact ⟨rfl, rfl⟩
    obtain ⟨rfl, h1, h3⟩ := h
    rw [Nat.zero_add, hsz, List.take_length] at h1
    refine wpAny_bind (wpAny_of_eq (a := (#[] : Array UInt8)) rfl ?_)
    have htl : ∀ (ls : List (List UInt8)) (k : Nat), ((ls.map List.toArray).foldl (fun (acc : Nat) (p : Array UInt8) => acc + p.size) k) = k + ls.flatten.length := by
      intro ls
      induction ls with
      | nil => intro k; simp
      | cons l r ih => intro k; rw [List.map_cons, List.foldl_cons, ih]; simp; omega
    have hlong : tooLong (st.1.foldl (fun (acc : Nat) (p : Array UInt8) => acc + p.size) ((#[] : Array UInt8).size * (st.1.size - 1))) = false := by
      rw [← Array.foldl_toList, h1, htl]
      refine KBy.tooLong_not ?_
      rw [show (#[] : Array UInt8).size * (st.1.size - 1) = 0 from by rw [show (#[] : Array UInt8).size = 0 from rfl]; exact Nat.zero_mul _]
      omega
    refine wpAny_ite (KPc.ite_no (by rw [hlong]; decide) ?_)
    rw [h1, joined_eq]
    refine wpAny_bind ?_
    refine wpAny_mkBytes ?_ (by rw [List.size_toArray, PySem.sizeLine_eq]; omega)
    refine wpAny_bind (wpAny_holding (wpAny_point ?_))
    refine wpAny_bind (letgo_all (fun p hp => (h3 p hp).1) ?_)
    exact wpAny_pure ⟨_, rfl, hR _ _⟩
theorem bjoin_call {prog : Program} {w : World} {A : Around} {E : Value → Shared → Prop} {s : Shared} {t : Tok} {Q : Value → Shared → Prop} {D : Addr} {n : Nat} {vals : List Value} {bs : List (List UInt8)} (hD : s.heap.get? D = some { cls := .type "list", data := .seq vals.toArray n })
    (hv : BsAre vals bs) (h2 : 2 ≤ bs.length) (hl : bs.flatten.length ≤ 8000) (h : ∀ t' k, Q (.bytes bs.flatten.toArray t') { s with toks := k }) : wpAny (model prog w) A (call (.builtin "bytes.join") [.bytes #[] t, .ref D]) Q E s :=
  call_meets slot_join (typeIs_bytes _ _ _) entry_join (args_join _ _) (join_meets hv h2 hl D n t) ⟨hD, h⟩
section
variable {prog : Program} {w : World} {A : Around} {E : Value → Shared → Prop} {s : Shared} {value slice : PySem.Expr} {t : Tok} {h₀ : Heap} {L : Addr} {m : PySem.Str → Option Value} {news : List (Addr × Obj)} {Q : Value → Shared → Prop} {n : Nat} {r : List UInt8}
theorem picked_hd (x r : List UInt8) (hx2 : x.length = 2) : KBy.picked (x ++ r).toArray none (some 2) = x.toArray := by
  rw [KBc.picked_eq]
  simp only [Option.elim, List.size_toArray, List.length_append, hx2, Nat.sub_zero, List.drop_zero]
  rw [show clipAt (2 + r.length) (2 : Int) = 2 from by have := KBc.clip_lit (2 + r.length) 2; rw [show (@OfNat.ofNat Int 2 instOfNat) = (2 : Int) from rfl] at this; rw [this]; omega]
  simp [hx2]
theorem picked_tl (x r : List UInt8) (hx2 : x.length = 2) : KBy.picked (x ++ r).toArray (some 2) none = r.toArray := by
  rw [KBc.picked_eq]
  simp only [Option.elim, List.size_toArray, List.length_append, hx2]
  rw [show clipAt (2 + r.length) (2 : Int) = 2 from by have := KBc.clip_lit (2 + r.length) 2; rw [show (@OfNat.ofNat Int 2 instOfNat) = (2 : Int) from rfl] at this; rw [this]; omega]
  simp [hx2]
theorem slice_hd (F : Fr h₀ L s.heap m) (N : News h₀ L s.heap news) {x r : List UInt8} {ti : Tok} (hx2 : x.length = 2) (hz : (x ++ r).length ≤ 8000) (h : ∀ h' t' k, Fr h₀ L h' m → News h₀ L h' news → Q (.bytes x.toArray t') { s with heap := h', toks := k })
    (hs : subscripted slice false (.bytes (x ++ r).toArray t) (.ref s.heap.objs.size) = operate [.ref s.heap.objs.size, .bytes (x ++ r).toArray t] (getItem (.bytes (x ++ r).toArray t) (.ref s.heap.objs.size)))
    (ht : ∀ q, letTemporaryGo value (.bytes (x ++ r).toArray t) q = pure ()) :
    wpAny (model prog w) A (subscriptTail value slice (.bytes (x ++ r).toArray t) (.ref s.heap.objs.size)) Q E { s with heap := s.heap.push { cls := .type "slice", data := .fields #[.none, .int 2 ti, .none] } } :=
  KBc.slice_K F N rfl .none (.int 2 ti) (by rw [KBw.ints_length]; simp only [List.size_toArray]; omega) (fun h' t' k F' N' _ => by rw [picked_hd x r hx2]; exact h h' t' k F' N') hs ht
theorem slice_tl (F : Fr h₀ L s.heap m) (N : News h₀ L s.heap news) {x r : List UInt8} {ti : Tok} (hx2 : x.length = 2) (hz : (x ++ r).length ≤ 8000) (h : ∀ h' t' k, Fr h₀ L h' m → News h₀ L h' news → Q (.bytes r.toArray t') { s with heap := h', toks := k })
    (hs : subscripted slice false (.bytes (x ++ r).toArray t) (.ref s.heap.objs.size) = operate [.ref s.heap.objs.size, .bytes (x ++ r).toArray t] (getItem (.bytes (x ++ r).toArray t) (.ref s.heap.objs.size)))
    (ht : ∀ q, letTemporaryGo value (.bytes (x ++ r).toArray t) q = pure ()) :
    wpAny (model prog w) A (subscriptTail value slice (.bytes (x ++ r).toArray t) (.ref s.heap.objs.size)) Q E { s with heap := s.heap.push { cls := .type "slice", data := .fields #[.int 2 ti, .none, .none] } } :=
  KBc.slice_K F N rfl (.int 2 ti) .none (by rw [KBw.ints_length]; simp only [List.size_toArray]; omega) (fun h' t' k F' N' _ => by rw [picked_tl x r hx2]; exact h h' t' k F' N') hs ht
end
end
end
section
theorem calmMeth : True := by w_top off; trivial
section
set_option maxRecDepth 100000
theorem ld_md : typeOf (.builtin "list.append") = pure (.type "method_descriptor") := by show builtinType _ = _; rw [builtinType_eq_fast]; kernel_rfl
theorem md_get : typeLookup (.type "method_descriptor") "__get__" = pure (some (.builtin "method_descriptor.__get__")) := by rw [typeLookup_type, builtinLookup_eq_fast]; kernel_rfl
theorem md_set : typeLookup (.type "method_descriptor") "__set__" = pure none := by rw [typeLookup_type, builtinLookup_eq_fast]; kernel_rfl
theorem md_del : typeLookup (.type "method_descriptor") "__delete__" = pure none := by rw [typeLookup_type, builtinLookup_eq_fast]; kernel_rfl
theorem slot_mdget : Slot "method_descriptor" "__get__" "method_descriptor.__get__" :=
  .of (owner := "method_descriptor") (n := "__get__") (by rw [typeLookup_type, builtinLookup_eq_fast]; kernel_rfl) (by decide +kernel) (by decide +kernel) (by decide +kernel)
    (by first | exact .inl (by decide +kernel) | exact .inr (by decide +kernel)) (by rw [isSubtype_type]; kernel_rfl)
theorem entry_mdget : entryFor table "method_descriptor.__get__" = some Builtin.«method_descriptor.__get__» := entryFor_of_tree (by kernel_rfl)
theorem args_mdget (a b c : Value) : argsOk "method_descriptor.__get__" ⟨[a, b, c], []⟩ := by unfold argsOk; kernel_rfl
theorem sub_list : isSubtype (.type "list") (.type "list") = pure true := by rw [isSubtype_type]; kernel_rfl
abbrev boundAppend (a : Addr) : Obj := { cls := .type "builtin_function_or_method", data := .fields #[.builtin "list.append", .ref a] }
theorem mdget_meets (a : Addr) (xs : Array Value) (k : Nat) (sl : Array (Option Value)) :
    Meets (Builtin.«method_descriptor.__get__» ⟨[.builtin "list.append", .ref a, .type "list"], []⟩) (fun A R s => s.heap.get? a = some { cls := .type "list", dict := none, data := .seq xs k, slots := sl } ∧ ∀ tk, R (.ok (.ret (.ref s.heap.objs.size))) { s with heap := s.heap.push (boundAppend a), toks := tk }) :=
  Meets.of_wp fun prog w A R s hs => by
    obtain ⟨hp, g, d, tk, os⟩ := s
    obtain ⟨hx, hs⟩ := hs
    have hT : (⟨hp, g, d, tk, os⟩ : Shared).TypeIs (.ref a) "list" := ⟨_, hx, rfl⟩
    have f1 := sub_list
    have f2 := ld_md
    unfold Builtin.«method_descriptor.__get__»
    refine wpAny_bind (wpAny_of_eq (a := (.builtin "list.append", some (.ref a), some (.type "list"))) rfl ?_)
    dsimp only
    refine wpAny_ite (KPc.ite_no (by decide +kernel) ?_)
    wp_delta
    refine wpAny_bind ?_
    wp_delta
    refine wpAny_bind (wpAny_of_eq (a := ((PySem.Str.ofString "append" : PySem.Str), Value.type "list")) (by kernel_rfl) ?_)
    dsimp only
    refine wpAny_bind (wpAny_isInstance (T := "list") (b := true) hT f1 ?_)
    refine wpAny_ite (KPc.ite_no (by decide) ?_)
    refine wpAny_pure ?_
    refine wpAny_bind (wpAny_newObj_type (wpAny_pure ⟨_, rfl, hs _⟩) ?_)
    size_fits
theorem list_ga_entry : entryFor table "list.__getattribute__" = some Builtin.«object.__getattribute__» := am_entry_list_getattribute
theorem ga_meets (a : Addr) (xs : Array Value) (k : Nat) (sl : Array (Option Value)) (u : Tok) :
    Meets (Builtin.«object.__getattribute__» ⟨[.ref a, .str (PySem.Str.ofString "append") u], []⟩) (fun A R s => s.heap.get? a = some { cls := .type "list", dict := none, data := .seq xs k, slots := sl } ∧ ∀ tk, R (.ok (.ret (.ref s.heap.objs.size))) { s with heap := s.heap.push (boundAppend a), toks := tk }) :=
  Meets.of_wp fun prog w A R s hs => by
    obtain ⟨hp, g, d, tk, os⟩ := s
    obtain ⟨hx, hs⟩ := hs
    have hT : (⟨hp, g, d, tk, os⟩ : Shared).TypeIs (.ref a) "list" := ⟨_, hx, rfl⟩
    have f1 := PySem.F.slot_list_append.lookup
    have f2 := ld_md
    have f3 := md_get
    have f4 := md_set
    have f5 := md_del
    unfold Builtin.«object.__getattribute__»
    repeat (any_goals (first | assumption | ((with_reducible show wpAny _ _ (call (Value.builtin "method_descriptor.__get__") _ _) _ _ _); refine call_meets slot_mdget ?_ entry_mdget (args_mdget _ _ _) (mdget_meets a xs k sl) ⟨hx, fun tk => ?_⟩) | wp_step))
    exact wpAny_pure ⟨_, rfl, hs _⟩
theorem get_append {prog : Program} {w : World} {A : Around} {E : Value → Shared → Prop} {s : Shared} {a : Addr} {xs : Array Value} {k : Nat} {sl : Array (Option Value)} {Q : Value → Shared → Prop}
    (hx : s.heap.get? a = some { cls := .type "list", dict := none, data := .seq xs k, slots := sl }) (h : ∀ tk, Q (.ref s.heap.objs.size) { s with heap := s.heap.push (boundAppend a), toks := tk }) :
    wpAny (model prog w) A (getAttr (.ref a) (PySem.Str.ofString "append") true) Q E s := by
  obtain ⟨hp, g, d, tk, os⟩ := s
  have hT : ∀ tk', (⟨hp, g, d, tk', os⟩ : Shared).TypeIs (.ref a) "list" := fun _ => ⟨_, hx, rfl⟩
  have f3 := PySem.F.slot_list_getattribute.lookup
  have f4 := PySem.F.slot_list_getattribute.bind (.ref a)
  have f5 := am_list_getattr_none
  unfold getAttr getAttrBy
  repeat (any_goals (first | assumption | exact hT _ | ((with_reducible show wpAny _ _ (call (Value.builtin "list.__getattribute__") _ _) _ _ _); refine call_meets PySem.F.slot_list_getattribute (hT _) am_entry_list_getattribute (PySem.F.args_list_getattribute_2 _ _) (ga_meets a xs k sl _) ⟨hx, fun tk => ?_⟩) | wp_step))
  exact wpAny_pure (h _)
end
end
section
theorem calmBound : True := by w_top off; trivial
section
set_option maxRecDepth 100000
theorem bound_check {prog : Program} {w : World} {A : Around} {E : Value → Shared → Prop} {s : Shared} {a : Addr} {x : Value} {xs : Array Value} {k : Nat} {Q : Unit → Shared → Prop} (hx : s.heap.get? a = some { cls := .type "list", data := .seq xs k }) (h : Q () s) :
    wpAny (model prog w) A (checkBoundCall "list.append" ⟨[.ref a, x], []⟩) Q E s := by
  have hT : s.TypeIs (.ref a) "list" := ⟨_, hx, rfl⟩
  unfold checkBoundCall
  rw [signature?_of (id := "list.append") (n := ['d', 'n', 'e', 'p', 'p', 'a']) (o := ['t', 's', 'i', 'l']) (by kernel_rfl) PySem.F.owner_list]
  have e1 : ((List.lookup (String.ofList ['d', 'n', 'e', 'p', 'p', 'a'].reverse) Manifest.sig_list).map fun sig => Bind.checkArgs "list.append" { sig with full := s!"{Bind.lastOf "list"}.{Bind.lastOf "list.append"}" } ⟨[.ref a, x], []⟩) = some (pure ()) := by kernel_rfl
  cases hL : List.lookup (String.ofList ['d', 'n', 'e', 'p', 'p', 'a'].reverse) Manifest.sig_list with
  | none => rw [hL] at e1; cases e1
  | some sig =>
    rw [hL] at e1
    have e2 := Option.some.inj e1
    dsimp only
    rw [show builtinKind "list.append" = some .method from by decide +kernel]
    dsimp only
    refine wpAny_ite (KPc.ite_no (by decide) ?_)
    refine wpAny_bind (wpAny_isInstance (T := "list") (b := false) hT (by rw [isSubtype_type]; kernel_rfl) ?_)
    refine wpAny_ite (KPc.ite_no (by decide +kernel) ?_)
    refine wpAny_bind ?_
    refine wpAny_bind (wpAny_loadPart hx ?_)
    refine wpAny_pure ?_
    refine wpAny_ite (KPc.ite_no Bool.false_ne_true ?_)
    refine wpAny_bind (wpAny_typeOf hT ?_)
    exact wpAny_of_eq e2 h
theorem code_builtin {prog : Program} {w : World} {A : Around} {s : Shared} {R : Result → Shared → Prop} {id : String} {args : Args} {b : Builtin} (hb : entryFor table id = some b)
    (h : wpAny (model prog w) (A.under (.builtin id args)) (b args) (fun fin s' => match fin with | .done f => R (.ok f) s' | .again c' => c'.quiet = true ∧ codeAny (model prog w) A c' R s') (fun e s' => R (.error e) s') s) :
    codeAny (model prog w) A (.builtin id args) R s := by
  refine codeAny_of_tree ?_
  show wpAny _ _ (match entryFor table id with | some b => b args | none => unsupported ((withoutEnding? id "#data").getD id)) _ _ s
  rw [hb]
  exact h
theorem bound_append {prog : Program} {w : World} {A : Around} {E : Value → Shared → Prop} {s : Shared} {q D : Addr} {its : Array Value} {n : Nat} {x : Value} {Q : Value → Shared → Prop} (hq : s.heap.get? q = some (boundAppend D)) (ho : s.heap.get? D = some { cls := .type "list", data := .seq its n })
    (h : ∀ h', Heap.SameBut D s.heap h' → h'.get? D = some { cls := .type "list", data := .seq (its.push x) (n + 1) } → Q .none { s with heap := h' }) (hsz : its.size ≤ sizeLine) :
    wpAny (model prog w) A (call (.ref q) [x]) Q E s := by
  refine wpAny_call (codeAny_of_tree ?_)
  show wpAny _ _ (callAny (.ref q) ⟨[x], []⟩) _ _ _
  unfold callAny
  refine wpAny_bind (wpAny_load hq ?_)
  refine wpAny_ite (KPc.ite_yes rfl ?_)
  refine wpAny_ite (KPc.ite_yes rfl ?_)
  refine wpAny_bind (bound_check ho ?_)
  refine wpAny_bind (wpAny_pure ?_)
  refine wpAny_pure ?_
  refine ⟨plainId_quiet (by decide +kernel) _, code_builtin PySem.F.entry_list_append ?_⟩
  show wpAny _ _ (updateSeq D (·.push x) >>= fun _ => ret .none) _ _ s
  refine wpAny_bind ?_
  refine wpAny_updateSeq ho rfl (wpAny_pure ?_)
  refine h _ (Heap.SameBut.update ..) ?_
  rw [Heap.get?_update_self _ ho (by rw [mapSeq_push]; rfl), mapSeq_push]
theorem getAppend_N {prog : Program} {w : World} {A : Around} {E : Value → Shared → Prop} {s : Shared} {h₀ : Heap} {L D : Addr} {m : PySem.Str → Option Value} {news : List (Addr × Obj)} {its : Array Value} {n : Nat} {Q : Value → Shared → Prop}
    (F : Fr h₀ L s.heap m) (N : News h₀ L s.heap news) (hm : (D, listOf its n) ∈ news)
    (h : ∀ q h' k, Fr h₀ L h' m → News h₀ L h' ((q, boundAppend D) :: news) → (∀ p ∈ news, p.1 < q) → Q (.ref q) { s with heap := h', toks := k }) : wpAny (model prog w) A (getAttr (.ref D) (PySem.Str.ofString "append") true) Q E s :=
  get_append (N _ hm).1 fun tk => h s.heap.objs.size _ tk (F.push _) (N.push F _) fun p hp => Heap.lt_size (N p hp).1
theorem append_B {prog : Program} {w : World} {A : Around} {E : Value → Shared → Prop} {s : Shared} {h₀ : Heap} {L D q : Addr} {m : PySem.Str → Option Value} {news news' : List (Addr × Obj)} {its : Array Value} {n : Nat} {x : Value} {Q : Value → Shared → Prop}
    (F : Fr h₀ L s.heap m) (N : News h₀ L s.heap news) (hq : (q, boundAppend D) ∈ news) (U : Upd D (listOf its n) (listOf (its.push x) (n + 1)) news news')
    (h : ∀ h', Fr h₀ L h' m → News h₀ L h' news' → Q .none { s with heap := h' }) (hsz : its.size ≤ sizeLine) : wpAny (model prog w) A (call (.ref q) [x]) Q E s := by
  obtain ⟨pre, post, rfl, rfl, a, b⟩ := U.split
  have z := N (D, listOf its n) (List.mem_append.mpr (.inr (.head _)))
  exact bound_append (N _ hq).1 z.1 (fun h' hs ho' => h h' (F.change hs z.2.1 z.2.2) (news_set N a b hs ho')) hsz
end
end
section
theorem calmLoop : True := by w_top off; trivial
def chunks (items : List (Nat × List UInt8)) : List (List UInt8) := items.map fun p => Mine.hx p.1 ++ p.2
theorem BsAre.one {vs : List Value} {b : List UInt8} (h : BsAre vs [b]) : ∃ t, vs = [.bytes b.toArray t] := by
  cases h with
  | cons b t r =>
    cases r
    exact ⟨t, rfl⟩
theorem BsAre.two {vs : List Value} {b c : List UInt8} {bs : List (List UInt8)} (h : BsAre vs (b :: c :: bs)) : ∃ t u vs', vs = .bytes b.toArray t :: .bytes c.toArray u :: vs' ∧ BsAre vs' bs := by
  cases h with
  | cons b t r =>
    cases r with
    | cons c u r => exact ⟨t, u, _, rfl, r⟩
section
variable {prog : Program} {w : World} {A : Around} {E : Value → Shared → Prop} {s : Shared} {h₀ : Heap}
theorem slice_tail {L l : Addr} {m : PySem.Str → Option Value} {news : List (Addr × Obj)} {value slice : PySem.Expr} {v0 : Value} {vs : List Value} {n : Nat} {ti : Tok} {Q : Value → Shared → Prop}
    (F : Fr h₀ L s.heap m) (N : News h₀ L s.heap news) (hm : (l, listOf (v0 :: vs).toArray n) ∈ news)
    (h : ∀ D h', Fr h₀ L h' m → News h₀ L h' ((D, listOf vs.toArray 0) :: news) → (∀ p ∈ news, p.1 < D) → Q (.ref D) { s with heap := h' })
    (hs : subscripted slice false (.ref l) (.ref s.heap.objs.size) = operate [.ref s.heap.objs.size, .ref l] (getItem (.ref l) (.ref s.heap.objs.size))) (ht : ∀ r, letTemporaryGo value (.ref l) r = pure ()) (hz : vs.length ≤ 16777000) :
    wpAny (model prog w) A (subscriptTail value slice (.ref l) (.ref s.heap.objs.size)) Q E { s with heap := s.heap.push { cls := .type "slice", data := .fields #[.int 1 ti, .none, .none] } } := by
  have hl := News.isList N hm
  refine kmk_slice F N hl (.int 1 ti) .none (fun D h' F' N' l1 => h D h' F' ?_ l1) hs ht (by rw [PySem.sizeLine_eq]; simp only [List.size_toArray, List.length_cons]; omega)
  have e : slicePick (v0 :: vs).toArray (some 1) none none = vs.toArray := by
    have := slicePick_from' (v0 :: vs).toArray 1
    simpa using this
  rw [e] at N'
  exact N'

/-- the frame behind some turns: three names are anyone's -/
def turned (m₀ : PySem.Str → Option Value) (u : PySem.Str → Option Value) : PySem.Str → Option Value := fun y =>
  if y = PySem.Str.ofString "item" then u y else if y = PySem.Str.ofString "hexpair" then u y else if y = PySem.Str.ofString "rest" then u y else m₀ y
theorem turned_eq {m₀ m₁ : PySem.Str → Option Value} (h : ∀ z, z ≠ PySem.Str.ofString "item" → z ≠ PySem.Str.ofString "hexpair" → z ≠ PySem.Str.ofString "rest" → m₁ z = m₀ z) : m₁ = turned m₀ m₁ := by
  funext y
  unfold turned
  by_cases h1 : y = PySem.Str.ofString "item"
  · rw [if_pos h1]
  · rw [if_neg h1]
    by_cases h2 : y = PySem.Str.ofString "hexpair"
    · rw [if_pos h2]
    · rw [if_neg h2]
      by_cases h3 : y = PySem.Str.ofString "rest"
      · rw [if_pos h3]
      · rw [if_neg h3]
        exact h y h1 h2 h3
def J1 (q R : Addr) (rest : List (Addr × Obj)) (m₀ : PySem.Str → Option Value) (pre : List (List UInt8)) (m' : PySem.Str → Option Value) (nx : List (Addr × Obj)) : Prop :=
  ∃ vs n, nx = (q, boundAppend R) :: (R, listOf (List.toArray vs) n) :: rest ∧ BsAre vs pre ∧ ∀ z, z ≠ PySem.Str.ofString "item" → z ≠ PySem.Str.ofString "hexpair" → z ≠ PySem.Str.ofString "rest" → m' z = m₀ z
def resAt (hd : List UInt8) (its : List (Nat × List UInt8)) : List (List UInt8) := hd :: its.flatMap fun p => [[p.1.toUInt8], p.2]
def ItemsOk (D : PySem.Str) (ap : Bool) (its : List (Nat × List UInt8)) : Prop :=
  ∀ n r, (n, r) ∈ its → n < 256 ∧ (Builtin.Str.occurrences D ⟨#[n]⟩ 0 D.length 1).isEmpty = true ∧ (ap = true ∨ n ≠ 37) ∧ (Mine.hx n ++ r).length ≤ 8000
theorem dec_loop {D : PySem.Str} {ap : Bool} {env : Env} {body : List Stmt} {q R ax : Addr} {vals vs0 : List Value} {its : List (Nat × List UInt8)} {hd : List UInt8} {n0 k : Nat} {rest : List (Addr × Obj)} {m₀ : PySem.Str → Option Value} {Q : Flow → Shared → Prop}
    (hok : ItemsOk D ap its) (hsz : its.length ≤ 8000) (hh : A.handled = none) (hv : BsAre vals (chunks its)) (hv0 : BsAre vs0 [hd]) (F : Fr h₀ env.locals s.heap m₀) (N : News h₀ env.locals s.heap ((ax, listOf vals.toArray k) :: (q, boundAppend R) :: (R, listOf (List.toArray vs0) n0) :: rest))
    (hoff : ∀ p ∈ ((q, boundAppend R) :: (R, listOf (List.toArray vs0) n0) :: rest : List (Addr × Obj)), p.1 ≠ ax)
    (hR : ∀ p ∈ rest, p.1 ≠ R) (hqR : q ≠ R)
    (turn : ∀ (n : Nat) (r : List UInt8) t (u : PySem.Str → Option Value) h tk own vs nr pre, n < 256 → (Builtin.Str.occurrences D ⟨#[n]⟩ 0 D.length 1).isEmpty = true → (ap = true ∨ n ≠ 37) → (Mine.hx n ++ r).length ≤ 8000 → (∀ p ∈ rest ++ own, p.1 ≠ R) → q ≠ R → BsAre vs pre → pre.length ≤ 20000 →
      Fr h₀ env.locals h (fun y => if y = PySem.Str.ofString "item" then some (.bytes (Mine.hx n ++ r).toArray t) else turned m₀ u y) → News h₀ env.locals h ((q, boundAppend R) :: (R, listOf (List.toArray vs) nr) :: (rest ++ own)) →
      wpAny (model prog w) A (execs body env) (InvPostN h₀ env.locals (J1 q R rest m₀ (pre ++ [[n.toUInt8], r])) own (q :: R :: rest.map (·.1)) { s with heap := h, toks := tk } Q) E { s with heap := h, toks := tk })
    (done : ∀ (u : PySem.Str → Option Value) h tk vs nr, BsAre vs (resAt hd its) → Fr h₀ env.locals h (turned m₀ u) → News h₀ env.locals h ((q, boundAppend R) :: (R, listOf (List.toArray vs) nr) :: rest) → Q .next { s with heap := h, toks := tk }) :
    wpAny (model prog w) A (pyIter (.ref ax)) (fun it s₂ => LoopAtV prog w A h₀ env (PySem.Str.ofString "item") body Q E it s₂) E s := by
  have hls : s.heap.IsList ax vals.toArray := News.isList N (.head _)
  have hlt : ax < s.heap.objs.size := by obtain ⟨o, ho, _⟩ := hls; exact Heap.lt_size ho
  have hne : ax ≠ s.heap.objs.size := Nat.ne_of_lt hlt
  have hax := (N (ax, listOf vals.toArray k) (.head _)).2
  have N0 : News h₀ env.locals s.heap ((q, boundAppend R) :: (R, listOf (List.toArray vs0) n0) :: rest) := fun p hp => N p (.tail _ hp)
  refine wpAny_pyIter_list hls ?_
  have W := Walks.list (prog := prog) (w := w) hh s.heap.objs.size ax hne vals.toArray
  have hlen : vals.toArray.size = its.length := by simp [hv.length, chunks]
  rw [hlen] at W
  refine loop_invN (fun i m nx => J1 q R rest m₀ (resAt hd (its.take i)) m nx) W ?_ ?_ ?_ ?_ ⟨⟨_, Heap.get?_push_size _ rfl, rfl, rfl⟩, hls.at fun o e => Heap.get?_push_of_some _ e⟩ (F.push _) (fun p hp => ⟨Heap.get?_push_of_some _ (N0 p hp).1, (N0 p hp).2⟩) ⟨vs0, n0, rfl, hv0, fun _ _ _ _ => rfl⟩ ?_ ?_
  · intro hm
    rcases List.mem_cons.mp hm with e | hm
    · exact absurd F.ns.lt (e ▸ Nat.lt_irrefl _)
    · exact hax.1 (List.mem_singleton.mp hm).symm
  · intro b hb
    rw [List.mem_singleton.mp hb]
    exact next_is_new F
  · intro p hp hI
    exact absurd (Heap.lt_size (N0 p hp).1) ((List.mem_singleton.mp hI) ▸ Nat.lt_irrefl _)
  · intro p hp hI
    rcases List.mem_cons.mp hI with e | hI
    · exact absurd (Heap.lt_size (N0 p hp).1) (e ▸ Nat.lt_irrefl _)
    · exact hoff p hp (List.mem_singleton.mp hI)
  · rintro i v m₁ nx h tk own hi hP _ hown' ⟨vs, nr, rfl, hvs, hm⟩ F₁ N₁
    have hown : OwnOff own (q :: R :: rest.map (·.1)) := hown'
    have hP' : vals[i]? = some v := by simpa using hP
    obtain ⟨b, tb, hb, rfl⟩ := hv.at hP'
    have hp : its[i]? = some its[i] := by simp [hi]
    have hb' : b = Mine.hx its[i].1 ++ its[i].2 := by
      have : (chunks its)[i]? = some (Mine.hx its[i].1 ++ its[i].2) := by simp [chunks, hi]
      rw [this] at hb
      exact (Option.some.inj hb).symm
    have e : resAt hd (its.take (i + 1)) = resAt hd (its.take i) ++ [[its[i].1.toUInt8], its[i].2] := by
      unfold resAt
      rw [List.take_succ_eq_append_getElem hi, List.flatMap_append]
      rfl
    rw [e]
    have F₂ := F₁
    rw [turned_eq hm, hb'] at F₂
    obtain ⟨o1, o2, o3, o4⟩ := hok its[i].1 its[i].2 (List.getElem_mem hi)
    refine turn its[i].1 its[i].2 tb m₁ h tk own vs nr _ o1 o2 o3 o4 (fun p hp => ?_) hqR hvs ?_ F₂ ?_
    · rcases List.mem_append.mp hp with hp | hp
      · exact hR p hp
      · exact hown p hp R (by simp)
    · have hl : ∀ l : List (Nat × List UInt8), (l.flatMap fun p => [[p.1.toUInt8], p.2]).length = 2 * l.length := by
        intro l
        induction l with
        | nil => rfl
        | cons p r ih => simp only [List.flatMap_cons, List.length_append, ih, List.length_cons, List.length_nil]; omega
      simp only [resAt, List.length_cons, hl, List.length_take]
      omega
    · simpa using N₁
  · rintro m₁ nx h tk ⟨vs, nr, rfl, hvs, hm⟩ F₁ N₁
    rw [List.take_length] at hvs
    have F₂ := F₁
    rw [turned_eq hm] at F₂
    exact done m₁ h tk vs nr hvs F₂ N₁
theorem room1 {vs : List Value} {pre : List (List UInt8)} (h : BsAre vs pre) (hp : pre.length ≤ 20000) : vs.toArray.size ≤ sizeLine := by
  rw [List.size_toArray, h.length, PySem.sizeLine_eq]; omega
theorem room2 {vs : List Value} {v : Value} {pre : List (List UInt8)} (h : BsAre vs pre) (hp : pre.length ≤ 20000) : (vs.toArray.push v).size ≤ sizeLine := by
  rw [Array.size_push, List.size_toArray, h.length, PySem.sizeLine_eq]; omega
end
def BStands (x R : Addr) (h : Heap) : Prop := h.get? x = some (boundAppend R)
section
variable {M : Model} {A : Around} {E : Value → Shared → Prop} {s : Shared} {h₀ : Heap} {L : Addr}
theorem bstands_of {x R : Addr} {h : Heap} {news : List (Addr × Obj)} (N : News h₀ L h news) (hm : (x, boundAppend R) ∈ news) : BStands x R h := N.get hm
theorem callB_fields {pos : Pos} {u R : Addr} {first : List Value} {args : List (Bool × Sem Value)} {Q : Value → Shared → Prop} (hplain : args.any (·.1) = false)
    (h : wpAny M A (evalArgs (.ref u) true args []) (fun x s₁ => BStands u R s₁.heap ∧ wpAny M A (call (.ref u) (first ++ x.pos) x.kw) Q E s₁) E s) : wpAny M A (callWith pos (.ref u) first args []) Q E s := by
  unfold callWith
  refine wpAny_bind (wpAny_holding (wpAny_mono h (fun x s₁ h₁ => wpAny_bind (wpAny_standAt ?_)) fun _ _ x => x))
  obtain ⟨ho, hcall⟩ := h₁
  simp only [hplain, List.any_nil, Bool.or_false]
  refine wpAny_bind (m := keeperOf (.ref u)) ?_
  unfold keeperOf
  refine wpAny_bind (wpAny_load ho ?_)
  simp only [show (Value.type "builtin_function_or_method" != Value.type "method") = true by decide, show (Value.type "builtin_function_or_method" == Value.type "builtin_function_or_method" || Value.type "builtin_function_or_method" == Value.type "method-wrapper") = true by decide, if_true]
  refine wpAny_pure ?_
  exact wpAny_bind (wpAny_mono hcall (fun r s₂ hr => wpAny_bind (wpAny_holding (wpAny_point (wpAny_pure hr)))) fun _ _ x => x)
theorem callB {pos : Pos} {u R : Addr} {news : List (Addr × Obj)} {first : List Value} {env : Env} {e : Expr} {rest : List Expr} {Q : Value → Shared → Prop} (_N : News h₀ L s.heap news) (_hm : (u, boundAppend R) ∈ news)
    (h : wpAny M A (spliced (backTo pos (starEach (e :: rest) env))) (fun vs s₁ => BStands u R s₁.heap ∧ wpAny M A (call (.ref u) (first ++ vs)) Q E s₁) E s)
    (he : starEach (e :: rest) env = (false, eval e env) :: starEach rest env := by rfl) (hplain : (backTo pos (starEach rest env)).any (·.1) = false := by rfl) :
    wpAny M A (callWith pos (.ref u) first (backTo pos (starEach (e :: rest) env)) []) Q E s := by
  rw [he] at h ⊢
  refine callB_fields (R := R) (by show (false || (backTo pos (starEach rest env)).any (·.1)) = false; rw [hplain]; rfl) ?_
  exact evalArgs_plain h
end
theorem append_B2 {prog : Program} {w : World} {A : Around} {E : Value → Shared → Prop} {s : Shared} {h₀ : Heap} {L D q : Addr} {m : PySem.Str → Option Value} {rest : List (Addr × Obj)} {its : Array Value} {n : Nat} {x : Value} {Q : Value → Shared → Prop}
    (F : Fr h₀ L s.heap m) (N : News h₀ L s.heap ((q, boundAppend D) :: (D, listOf its n) :: rest)) (hq : q ≠ D) (hr : ∀ p ∈ rest, p.1 ≠ D)
    (h : ∀ h', Fr h₀ L h' m → News h₀ L h' ((q, boundAppend D) :: (D, listOf (its.push x) (n + 1)) :: rest) → Q .none { s with heap := h' }) (hsz : its.size ≤ sizeLine) : wpAny (model prog w) A (call (.ref q) [x]) Q E s :=
  append_B F N (.head _) (Upd.tail hq (Upd.head hr)) h hsz
theorem turn_end {h₀ : Heap} {L q R : Addr} {rest own : List (Addr × Obj)} {m₀ m' : PySem.Str → Option Value} {pre : List (List UInt8)} {vs : List Value} {b : UInt8} {r : List UInt8} {t1 t2 : Tok} {n : Nat} {h' : Heap} {tk : Nat} {s₁ : Shared}
    (F : Fr h₀ L h' m') (N : News h₀ L h' ((q, boundAppend R) :: (R, listOf ((vs.toArray.push (.bytes #[b] t1)).push (.bytes r.toArray t2)) n) :: (rest ++ own))) (hv : BsAre vs pre)
    (hm : ∀ z, z ≠ PySem.Str.ofString "item" → z ≠ PySem.Str.ofString "hexpair" → z ≠ PySem.Str.ofString "rest" → m' z = m₀ z) :
    InvEndN h₀ L (J1 q R rest m₀ (pre ++ [[b], r])) own (q :: R :: rest.map (·.1)) s₁ { s₁ with heap := h', toks := tk } := by
  refine InvEndN.intro (nx := (q, boundAppend R) :: (R, listOf ((vs.toArray.push (.bytes #[b] t1)).push (.bytes r.toArray t2)) n) :: rest) F N ⟨(vs ++ [.bytes #[b] t1]) ++ [.bytes r.toArray t2], n, ?_, ?_, hm⟩ rfl ?_ ?_
  · simp only [List.push_toArray]
  · have := BsAre.snoc (t := t2) (b := r) (BsAre.snoc (t := t1) (b := [b]) hv)
    simpa using this
  · intro p hp
    rcases List.mem_cons.mp hp with rfl | hp
    · exact .head _
    · rcases List.mem_cons.mp hp with rfl | hp
      · exact .tail _ (.head _)
      · exact .tail _ (.tail _ (List.mem_append.mpr (.inl hp)))
  · intro p hp
    exact .tail _ (.tail _ (List.mem_append.mpr (.inr hp)))
theorem res_two (hd : List UInt8) (p : Nat × List UInt8) (its : List (Nat × List UInt8)) : 2 ≤ (resAt hd (p :: its)).length := by
  simp only [resAt, List.flatMap_cons, List.length_cons, List.length_append, List.length_nil]
  omega
theorem bjoin_call2 {prog : Program} {w : World} {A : Around} {E : Value → Shared → Prop} {s : Shared} {t : Tok} {Q : Value → Shared → Prop} {D : Addr} {n : Nat} {vals : List Value} {bs : List (List UInt8)} {b : List UInt8} (hD : s.heap.get? D = some (listOf vals.toArray n))
    (hv : BsAre vals bs) (h2 : 2 ≤ bs.length) (e : bs.flatten = b) (hl : b.length ≤ 8000) (h : ∀ t' k, Q (.bytes b.toArray t') { s with toks := k }) : wpAny (model prog w) A (call (.builtin "bytes.join") [.bytes #[] t, .ref D]) Q E s := by
  subst e
  exact bjoin_call hD hv h2 hl h
end
section
theorem calmD2 : True := by w_top off; trivial
local macro_rules | `(tactic| k_room) => `(tactic| ktr_room)
local macro_rules | `(tactic| k_units) => `(tactic| ktr_units)
local macro_rules | `(tactic| walk_at "MINE enter") => `(tactic| k_dflt (refine' code_def ?k1 ?k2 ?k3 ?k4 ?k5 ?kA ?kF ?kK ?k6 ?k7 ?k8 ?k9 ?kB ?_ ?c2 ?c3 ?c4 ?c5; (case kA => exact rfl); (case kF => exact rfl); (case kK => assumption); (case k1 => k_asm); (case k2 => k_asm); (case k3 => k_asm); (case k4 => k_asm); (case k5 => k_asm); (case k6 => k_is); (case k7 => k_is); (case k8 => ktr_room); (case k9 => first | exact BindsTo.of_eq rfl | exact binds_K (by k_in) rfl (by k_is) rfl rfl rfl); (case c5 => decide); (case kB => exact locs rfl); (case c2 => exact rfl); (case c3 => exact rfl); (case c4 => exact rfl); k_whole; intro g' L' h' FG' F' N' B' X' T'; (try dsimp only); (try k_lift B'); (try k_fold)))
local macro_rules | `(tactic| walk_at "getMethod str") => `(tactic| (k_here; with_reducible refine encode_method ?_))
local macro_rules | `(tactic| walk_at "call builtin:str.encode") => `(tactic| (k_here; (with_reducible show wpAny _ _ (call (Value.builtin "str.encode") [Value.str _ _, Value.str _ _]) _ _ _); refine' encode_call ?k1 ?k2 ?k3 ?_; (case k1 => assumption); (case k2 => omega); (case k3 => first | exact Or.inl rfl | exact Or.inr rfl); intro _ _))
local macro_rules | `(tactic| walk_at "eval ListComp") => `(tactic| (k_here; (with_reducible show wpAny _ _ (eval (Expr.ListComp _ [⟨_, Expr.Name (PySem.Str.ofString "bytestr") _, _, _⟩] _ _) _) _ _ _); k_dflt (refine' ListComp_B ?k0 ?k1 ?k2 ?k3 ?k4 ?k5 ?_ ?k6; (case k0 => k_asm); (case k1 => with_unfolding_all rfl); (case k2 => decide); (case k3 => rfl); (case k4 => decide); (case k5 => rfl); (case k6 => intro _; rfl))))
local macro_rules | `(tactic| walk_at "SrcB") => `(tactic| k_dflt (refine' SrcB.intro ?k1 ?k2 ?k3 ?k4 ?k5 ?kt ?kf; (case k1 => with_reducible assumption); (case k2 => rfl); (case k3 => k_asm); (case k4 => k_asm); (case k5 => exact bytes_room (by assumption)); (case' kt => (intro b9 u9 g9 hb9; unfold Turn; intro I' oI' C' oC' D' m' ys' h' tk' E' hC' hx' F' N' off' ne'; (have hlt9 := b9.toNat_lt))); (case' kf => (intro ys9 g9 hy9))))
local macro_rules | `(tactic| walk_at "CompEnd") => `(tactic| k_dflt (exact ⟨_, _, _, rfl, by assumption, by assumption, by assumption, trivial, rfl, _, rfl⟩))
local macro_rules | `(tactic| walk_at "MINE back") => `(tactic| ((case kB => k_asm); (case kF => k_asm); (case kX => k_asm); (case kN => k_asm); (case kT => k_asm); (case kK => first | exact rfl | assumption); (case kd => ktr_room); (case ku => ktr_units)))
local macro_rules | `(tactic| walk_at "call ref") => `(tactic| (k_here; (with_reducible show wpAny _ _ (call (Value.ref _) [Value.ref _, Value.int _ _]) _ _ _); k_dflt (refine' quote_int ?kS ?kl _ _ _ _ _ _ _ _ _ _ _ _ _ _ _ _ _ _ _ _ _ _ _ ?kB ?kF ?kX ?kN ?kT ?kK ?kd ?ku ?kr; (case kS => with_reducible assumption); (case kl => omega); walk_at "MINE back"; (case' kr => (intro v9 h9 tk9 hv9 F9 N9; obtain ⟨t9, hw9⟩ := hv9; subst hw9)))))
local macro_rules | `(tactic| walk_at "call builtin:str.join") => `(tactic| (k_here; (with_reducible show wpAny _ _ (call (Value.builtin "str.join") [Value.str _ _, Value.ref _]) _ _ _); k_dflt (refine' join_call ?k1 ?k2 ?k3 ?k4 ?_; (case k1 => exact News.isList (by k_asm) (by k_mem)); (case k2 => assumption); (case k3 => exact quote_map_len _ _ _); (case k4 => exact enc_count (by assumption))); intro _ _))
local macro_rules | `(tactic| walk_at "eval ListComp") => `(tactic| (k_here; (with_reducible show wpAny _ _ (eval (Expr.ListComp (Expr.IfExp _ _ _ _) [⟨_, Expr.Name (PySem.Str.ofString "text") _, _, _⟩] _ _) _) _ _ _); k_dflt (refine' ListComp_S ?k0 ?k1 ?k2 ?k3 ?k4 ?k5 ?_ ?k6; (case k0 => k_asm); (case k1 => with_unfolding_all rfl); (case k2 => decide); (case k3 => rfl); (case k4 => decide); (case k5 => rfl); (case k6 => intro _; rfl))))
local macro_rules | `(tactic| walk_at "SrcS") => `(tactic| k_dflt (refine' SrcS.introD ?k1 ?k1b ?k2 ?k3 ?k4 ?k5 ?kt ?kf; (case k1 => with_reducible assumption); (case k1b => with_reducible assumption); (case k2 => rfl); (case k3 => k_asm); (case k4 => k_asm); (case k5 => exact text_room (by assumption)); (case' kt => (intro b9 u9 g9 hb9; unfold Turn; intro I' oI' C' oC' D' m' ys' h' tk' E' hC' hx' F' N' off' ne')); (case' kf => (intro ys9 g9 hy9))))
local macro_rules | `(tactic| walk_at "CompEnd") => `(tactic| k_dflt (refine' ⟨_, _, _, rfl, by assumption, by assumption, by assumption, trivial, rfl, _, congrArg (fun z => Value.str z _) ?_⟩; first | exact rfl | exact delim_in (by assumption) | exact delim_out (by assumption)))
local macro_rules | `(tactic| walk_at "call ref") => `(tactic| (k_here; (with_reducible show wpAny _ _ (call (Value.ref _) [Value.ref _, Value.str _ _]) _ _ _); k_dflt (refine' quote_str ?kS ?kl _ _ _ _ _ _ _ _ _ _ _ _ _ _ _ _ _ _ _ _ _ _ _ ?kB ?kF ?kX ?kN ?kT ?kK ?kd ?ku ?kr; (case kS => with_reducible assumption); (case kl => (refine (show DelimOk _ from by with_reducible assumption) _ ?_; assumption)); walk_at "MINE back"; (case' kr => (intro v9 h9 tk9 hv9 F9 N9; obtain ⟨t9, hw9⟩ := hv9; subst hw9)))))
local macro_rules | `(tactic| walk_at "call builtin:str.join") => `(tactic| (k_here; (with_reducible show wpAny _ _ (call (Value.builtin "str.join") [Value.str _ _, Value.ref _]) _ _ _); k_dflt (refine' join_call ?k1 ?k2 ?k3 ?k4 ?_; (case k1 => exact News.isList (by k_asm) (by k_mem)); (case k2 => assumption); (case k3 => exact delim_map_len _ _ _); (case k4 => exact min_count (by assumption))); intro _ _))
theorem len_led2 {prog : Program} {w : World} {A : Around} {E : Value → Shared → Prop} {s : Shared} {h₀ : Heap} {L D : Addr} {news : List (Addr × Obj)} {v0 v1 : Value} {vs : List Value} {n : Nat} {Q : Value → Shared → Prop}
    (N : News h₀ L s.heap news) (hm : (D, ({ cls := .type "list", data := .seq (v0 :: v1 :: vs).toArray n } : Obj)) ∈ news) (hfit : vs.length ≤ 16777216) (h : ∀ t k, Q (.int ((vs.length : Int) + 2) t) { s with toks := k }) :
    wpAny (model prog w) A (call (.builtin "len") [.ref D]) Q E s := by
  have hl := News.isList N hm
  refine len_list hl (by simp only [List.size_toArray, List.length_cons]; omega) ?_
  have e : (((v0 :: v1 :: vs).toArray.size : Nat) : Int) = (vs.length : Int) + 2 := by simp only [List.size_toArray, List.length_cons]; omega
  rw [e]
  exact h _ _
theorem bs_fit {vs : List Value} {bs : List (List UInt8)} {x : List UInt8} {hd b1 : List UInt8} (h : BsAre vs bs) (hb : x = hd ++ flat (b1 :: bs)) (hl : x.length ≤ 8000) : vs.length ≤ 16777216 := by
  have := flat_count (b1 :: bs)
  rw [h.length]
  rw [hb, List.length_append] at hl
  simp only [List.length_cons] at this
  omega
theorem bs_fit1 {v : Value} {vs : List Value} {bs : List (List UInt8)} {x : List UInt8} {hd b1 : List UInt8} (h : BsAre vs bs) (hb : x = hd ++ flat (b1 :: bs)) (hl : x.length ≤ 8000) : (v :: vs).length ≤ 16777000 := by
  have := flat_count (b1 :: bs)
  rw [List.length_cons, h.length]
  rw [hb, List.length_append] at hl
  simp only [List.length_cons] at this
  omega
local macro_rules | `(tactic| walk_at "call builtin:len") => `(tactic| (k_here; (with_reducible show wpAny _ _ (call (Value.builtin "len") [Value.ref _]) _ _ _); k_dflt (refine' len_led2 ?k1 ?k2 ?k3 ?_; (case k1 => k_asm); (case k2 => k_mem); (case k3 => exact bs_fit (by assumption) (by assumption) (by assumption))); intro _ _))
local macro_rules | `(tactic| walk_at "getMethod bytes") => `(tactic| (k_here; with_reducible refine split_method ?_))
local macro_rules | `(tactic| walk_at "call builtin:bytes.split") => `(tactic| (k_here; (with_reducible show wpAny _ _ (call (Value.builtin "bytes.split") [Value.bytes _ _, Value.bytes _ _]) _ _ _); k_dflt (refine' split_call ?kb ?k0 ?k1 ?k2 ?k3 ?k4 ?_; (case kb => assumption); (case k0 => assumption); (case k1 => assumption); (case k2 => assumption); (case k3 => k_asm); (case k4 => k_asm); intro D9 v9 h9 k9 hv9 F9 N9 l9; (try k_lt l9); first | (obtain ⟨t9, hw9⟩ := BsAre.one hv9; subst hw9) | (obtain ⟨t9, u9, vs9, hw9, hr9⟩ := BsAre.two hv9; subst hw9))))
local macro_rules | `(tactic| walk_at "getAttr ref") => `(tactic| (k_here; (with_reducible show wpAny _ _ (getAttr (Value.ref _) (PySem.Str.ofString "append") true) _ _ _); k_dflt (refine' getAppend_N ?k1 ?k2 ?k3 ?_; (case k1 => k_asm); (case k2 => k_asm); (case k3 => k_mem); intro q9 h9 k9 F9 N9 l9; (try k_lt l9))))
set_option maxRecDepth 100000 in
set_option maxHeartbeats 8000000 in
theorem pdec0 {prog : Program} {w : World} {q : Addr} {x : PySem.Str} {hd : List UInt8} {t : Tok}
   (hx : x.length ≤ 1000) (hc : Clean x) (hb : bytesOf x.cps.toList = hd ++ flat []) (h0 : ∀ c ∈ hd, c ≠ 37) (h1 : ∀ ch ∈ ([] : List (List UInt8)), ∀ c ∈ ch, c ≠ 37) (hl : (bytesOf x.cps.toList).length ≤ 8000) :
    Gives prog w (Mine.hd.heap_39 w.params) (.ref 214) [.str x t] [(PySem.Str.ofString "normalize_case", .bool false), (PySem.Str.ofString "encode_stray_percents", .bool false), (PySem.Str.ofString "_decode_map", .ref q)] 6 60 (fun r => ∃ t', r = .str x t') := by
  unfold Gives
  intro dp un gd cn cs a ccd cl outer A₀ base h₀ L m news s p loose mean mg mb Q E B F X N T hk hd hu hret
  refine wpAny_call ?_
  walk_at "MINE enter"
  k_steps
  exact hret _ _ _ ⟨_, rfl⟩ (by assumption) (news_tail (by assumption))
local macro_rules | `(tactic| walk_at "subscriptTail Name Slice ref ref") => `(tactic| (k_here; (with_reducible show wpAny _ _ (subscriptTail _ (PySem.Expr.Slice _ _ none _) (Value.ref _) (Value.ref _)) _ _ _); k_dflt (refine' slice_tail ?F ?N ?l ?_ ?s ?t ?z; (case F => k_asm); (case N => k_asm); (case l => k_mem); (case s => with_unfolding_all rfl); (case t => (intro _; with_unfolding_all rfl)); (case z => exact bs_fit1 (by assumption) (by assumption) (by assumption)); intro D9 h9 F9 N9 l9; (try k_lt l9))))
local macro_rules | `(tactic| walk_at "pyIter ref") => `(tactic| (k_here; (with_reducible show wpAny _ _ (pyIter (Value.ref _)) (fun it s₂ => LoopAtV _ _ _ _ _ _ _ _ _ it s₂) _ _); k_dflt (refine' dec_loop ?ho ?hz ?hh ?hv ?hv0 ?F ?N ?hf ?hR ?hq ?kt ?kd; (case ho => assumption); (case hz => assumption); (case hh => rfl); (case F => k_asm); (case N => k_asm); (case hv => exact BsAre.cons _ _ (by assumption)); (case hv0 => exact BsAre.cons _ _ BsAre.nil); (case hf => k_all); (case hR => k_all); (case hq => k_ne); (case' kt => (intro n9 r9 t9 u9 h9 tk9 own9 vs9 nr9 pre9 hn9 hocc9 hap9 hlen9 hRo9 hqR9 hvs9 hpre9 F9 N9)); (case' kd => (intro u9 h9 tk9 vs9 nr9 hvs9 F9 N9)))))
local macro_rules | `(tactic| walk_at "subscriptTail Name Slice bytes ref") => `(tactic| (k_here; (with_reducible show wpAny _ _ (subscriptTail _ _ (Value.bytes _ _) (Value.ref _)) _ _ _); k_dflt (first | (refine' slice_hd ?F ?N ?hx ?hz ?_ ?s ?t; (case F => k_asm); (case N => k_asm); (case hx => exact rfl); (case hz => assumption); (case s => with_unfolding_all rfl); (case t => (intro _; with_unfolding_all rfl))) | (refine' slice_tl ?F ?N ?hx ?hz ?_ ?s ?t; (case F => k_asm); (case N => k_asm); (case hx => exact rfl); (case hz => assumption); (case s => with_unfolding_all rfl); (case t => (intro _; with_unfolding_all rfl)))); intro h9 t9 k9 F9 N9))
local macro_rules | `(tactic| walk_at "subscriptTail Name Name ref bytes") => `(tactic| (k_here; (with_reducible refine' SubK.use ?k0 ?k1 ?k2 ?_ ?k4; (case k0 => with_reducible assumption); (case k1 => k_asm); (case k2 => k_asm); (case k4 => with_unfolding_all rfl))))
local macro_rules | `(tactic| walk_at "call ref") => `(tactic| (k_here; (with_reducible show wpAny _ _ (call (Value.ref 50) [Value.ref _, Value.bytes _ _]) _ _ _); k_dflt (refine' dec_get ?kS ?kI ?kl ?kD ?kp _ _ _ _ _ _ _ _ _ _ _ _ _ _ _ _ _ _ _ _ _ _ _ ?kB ?kF ?kX ?kN ?kT ?kK ?kd ?ku ?kr; (case kS => with_reducible assumption); (case kI => with_reducible assumption); (case kl => assumption); (case kD => assumption); (case kp => assumption); walk_at "MINE back"; (case' kr => (intro v9 h9 tk9 hv9 F9 N9; obtain ⟨t9, hw9⟩ := hv9; subst hw9)))))
local macro_rules | `(tactic| walk_at "call ref") => `(tactic| (k_here; (with_reducible show wpAny _ _ (call (Value.ref _) [Value.bytes _ _]) _ _ _); k_dflt (refine' append_B2 ?k1 ?k2 ?k3 ?k4 ?_ ?k5; (case k1 => k_asm); (case k2 => first | assumption | exact news_tail (by assumption)); (case k3 => assumption); (case k4 => assumption); (case k5 => first | exact room1 (by assumption) (by assumption) | exact room2 (by assumption) (by assumption)); intro h9 F9 N9)))
local macro_rules | `(tactic| walk_at "call builtin:bytes.join") => `(tactic| (k_here; (with_reducible show wpAny _ _ (call (Value.builtin "bytes.join") [Value.bytes _ _, Value.ref _]) _ _ _); k_dflt (refine' bjoin_call2 ?k1 ?k2 ?k3 ?k4 ?k5 ?_; (case k1 => exact (News.get (by assumption) (by k_mem))); (case k2 => assumption); (case k3 => exact res_two _ _ _); (case k4 => assumption); (case k5 => assumption)); intro t9 k9))
local macro_rules | `(tactic| walk_at "call builtin:bytes.decode") => `(tactic| (k_here; (with_reducible show wpAny _ _ (call (Value.builtin "bytes.decode") [Value.bytes (List.toArray (bytesOf _)) _, Value.str _ _]) _ _ _); k_dflt (refine' decode_text ?k1 ?k2 ?k3 ?_; (case k1 => assumption); (case k2 => assumption); (case k3 => assumption)); intro _ _))
local macro_rules | `(tactic| walk_at "getMethod bytes") => `(tactic| (k_here; with_reducible refine bjoin_method ?_))
local macro_rules | `(tactic| walk_at "callWith ref nil nil") => `(tactic| (k_here; (with_reducible show wpAny _ _ (callWith _ (Value.ref _) _ (backTo _ (starEach (_ :: _) _)) []) _ _ _); k_dflt (refine' callB ?k1 ?k2 ?_; (case k1 => k_asm); (case k2 => k_mem); k_whole)))
local macro_rules | `(tactic| walk_at "And") => `(tactic| ((with_reducible show BStands _ _ _ ∧ _); k_dflt (refine ⟨bstands_of (by k_asm) (by k_mem), ?_⟩); (try dsimp only [List.nil_append, List.cons_append])))
local macro_rules | `(tactic| walk_at "exec For Name Subscript cons nil") => `(tactic| (k_here; (rename Fr _ _ _ _ => lF'); (with_unfolding_all refine' For_invVF lF' ?k1 ?k2 ?_; (case k1 => exact rfl); (case k2 => exact rfl); k_whole)))
set_option maxRecDepth 100000 in
set_option maxHeartbeats 8000000 in
theorem pdec1 {prog : Program} {w : World} {q : Addr} {D : PySem.Str} {ap : Bool} (HD : DecOf w q D ap) (HI : InstK w q) (HS : SubK w q) {x : PySem.Str} {l : List Nat} {hd r1 : List UInt8} {n1 : Nat} {its : List (Nat × List UInt8)} {t : Tok}
   (hx : x.length ≤ 1000) (hc : Clean x) (hb : bytesOf x.cps.toList = hd ++ flat ((Mine.hx n1 ++ r1) :: chunks its)) (h0 : ∀ c ∈ hd, c ≠ 37) (h1 : ∀ ch ∈ ((Mine.hx n1 ++ r1) :: chunks its), ∀ c ∈ ch, c ≠ 37) (hl : (bytesOf x.cps.toList).length ≤ 8000)
   (hok : ItemsOk D ap ((n1, r1) :: its)) (hln : ((n1, r1) :: its).length ≤ 8000) (hfl : (resAt hd ((n1, r1) :: its)).flatten = bytesOf l) (hlb : (bytesOf l).length ≤ 8000) (hg : ∀ c ∈ l, Good c) (hll : l.length ≤ 8000) (hne : l ≠ []) :
    Gives prog w (Mine.hd.heap_39 w.params) (.ref 214) [.str x t] [(PySem.Str.ofString "normalize_case", .bool false), (PySem.Str.ofString "encode_stray_percents", .bool false), (PySem.Str.ofString "_decode_map", .ref q)] 6 60 (fun r => ∃ t', r = .str ⟨l.toArray⟩ t') := by
  unfold Gives
  intro dp un gd cn cs a ccd cl outer A₀ base h₀ L m news s p loose mean mg mb Q E B F X N T hk hd hu hret
  refine wpAny_call ?_
  walk_at "MINE enter"
  k_steps
  · exfalso; omega
  · exact hret _ _ _ ⟨_, rfl⟩ (by assumption) (news_tail (news_tail (news_tail (by assumption))))
  · exact turn_end (by assumption) (by assumption) (by assumption) (fun z a b c => by simp only [turned, if_neg a, if_neg b, if_neg c])
set_option maxRecDepth 100000 in
set_option maxHeartbeats 8000000 in
theorem pdec0D {prog : Program} {w : World} {x : PySem.Str} {hd : List UInt8} {t : Tok}
   (hx : x.length ≤ 1000) (hc : Clean x) (hb : bytesOf x.cps.toList = hd ++ flat []) (h0 : ∀ c ∈ hd, c ≠ 37) (h1 : ∀ ch ∈ ([] : List (List UInt8)), ∀ c ∈ ch, c ≠ 37) (hl : (bytesOf x.cps.toList).length ≤ 8000) :
    Gives prog w (Mine.hd.heap_39 w.params) (.ref 214) [.str x t] [] 6 60 (fun r => ∃ t', r = .str x t') := by
  unfold Gives
  intro dp un gd cn cs a ccd cl outer A₀ base h₀ L m news s p loose mean mg mb Q E B F X N T hk hd hu hret
  refine wpAny_call ?_
  walk_at "MINE enter"
  k_steps
  exact hret _ _ _ ⟨_, rfl⟩ (by assumption) (news_tail (by assumption))
set_option maxRecDepth 100000 in
set_option maxHeartbeats 8000000 in
theorem pdec1D {prog : Program} {w : World} {D : PySem.Str} {ap : Bool} (HD : DecOf w 59 D ap) (HI : InstK w 59) (HS : SubK w 59) {x : PySem.Str} {l : List Nat} {hd r1 : List UInt8} {n1 : Nat} {its : List (Nat × List UInt8)} {t : Tok}
   (hx : x.length ≤ 1000) (hc : Clean x) (hb : bytesOf x.cps.toList = hd ++ flat ((Mine.hx n1 ++ r1) :: chunks its)) (h0 : ∀ c ∈ hd, c ≠ 37) (h1 : ∀ ch ∈ ((Mine.hx n1 ++ r1) :: chunks its), ∀ c ∈ ch, c ≠ 37) (hl : (bytesOf x.cps.toList).length ≤ 8000)
   (hok : ItemsOk D ap ((n1, r1) :: its)) (hln : ((n1, r1) :: its).length ≤ 8000) (hfl : (resAt hd ((n1, r1) :: its)).flatten = bytesOf l) (hlb : (bytesOf l).length ≤ 8000) (hg : ∀ c ∈ l, Good c) (hll : l.length ≤ 8000) (hne : l ≠ []) :
    Gives prog w (Mine.hd.heap_39 w.params) (.ref 214) [.str x t] [] 6 60 (fun r => ∃ t', r = .str ⟨l.toArray⟩ t') := by
  unfold Gives
  intro dp un gd cn cs a ccd cl outer A₀ base h₀ L m news s p loose mean mg mb Q E B F X N T hk hd hu hret
  refine wpAny_call ?_
  walk_at "MINE enter"
  k_steps
  · exfalso; omega
  · exact hret _ _ _ ⟨_, rfl⟩ (by assumption) (news_tail (news_tail (news_tail (by assumption))))
  · exact turn_end (by assumption) (by assumption) (by assumption) (fun z a b c => by simp only [turned, if_neg a, if_neg b, if_neg c])
end
section
theorem calmDecs : True := by w_top off; trivial
local macro_rules | `(tactic| k_room) => `(tactic| ktr_room)
local macro_rules | `(tactic| k_units) => `(tactic| ktr_units)
local macro_rules | `(tactic| walk_at "MINE enter") => `(tactic| k_dflt (refine' code_def ?k1 ?k2 ?k3 ?k4 ?k5 ?kA ?kF ?kK ?k6 ?k7 ?k8 ?k9 ?kB ?_ ?c2 ?c3 ?c4 ?c5; (case kA => exact rfl); (case kF => exact rfl); (case kK => assumption); (case k1 => k_asm); (case k2 => k_asm); (case k3 => k_asm); (case k4 => k_asm); (case k5 => k_asm); (case k6 => k_is); (case k7 => k_is); (case k8 => ktr_room); (case k9 => first | exact BindsTo.of_eq rfl | exact binds_K (by k_in) rfl (by k_is) rfl rfl rfl); (case c5 => decide); (case kB => exact locs rfl); (case c2 => exact rfl); (case c3 => exact rfl); (case c4 => exact rfl); k_whole; intro g' L' h' FG' F' N' B' X' T'; (try dsimp only); (try k_lift B'); (try k_fold)))
local macro_rules | `(tactic| walk_at "getMethod str") => `(tactic| (k_here; with_reducible refine encode_method ?_))
local macro_rules | `(tactic| walk_at "call builtin:str.encode") => `(tactic| (k_here; (with_reducible show wpAny _ _ (call (Value.builtin "str.encode") [Value.str _ _, Value.str _ _]) _ _ _); refine' encode_call ?k1 ?k2 ?k3 ?_; (case k1 => assumption); (case k2 => omega); (case k3 => first | exact Or.inl rfl | exact Or.inr rfl); intro _ _))
local macro_rules | `(tactic| walk_at "eval ListComp") => `(tactic| (k_here; (with_reducible show wpAny _ _ (eval (Expr.ListComp _ [⟨_, Expr.Name (PySem.Str.ofString "bytestr") _, _, _⟩] _ _) _) _ _ _); k_dflt (refine' ListComp_B ?k0 ?k1 ?k2 ?k3 ?k4 ?k5 ?_ ?k6; (case k0 => k_asm); (case k1 => with_unfolding_all rfl); (case k2 => decide); (case k3 => rfl); (case k4 => decide); (case k5 => rfl); (case k6 => intro _; rfl))))
local macro_rules | `(tactic| walk_at "SrcB") => `(tactic| k_dflt (refine' SrcB.intro ?k1 ?k2 ?k3 ?k4 ?k5 ?kt ?kf; (case k1 => with_reducible assumption); (case k2 => rfl); (case k3 => k_asm); (case k4 => k_asm); (case k5 => exact bytes_room (by assumption)); (case' kt => (intro b9 u9 g9 hb9; unfold Turn; intro I' oI' C' oC' D' m' ys' h' tk' E' hC' hx' F' N' off' ne'; (have hlt9 := b9.toNat_lt))); (case' kf => (intro ys9 g9 hy9))))
local macro_rules | `(tactic| walk_at "CompEnd") => `(tactic| k_dflt (exact ⟨_, _, _, rfl, by assumption, by assumption, by assumption, trivial, rfl, _, rfl⟩))
local macro_rules | `(tactic| walk_at "MINE back") => `(tactic| ((case kB => k_asm); (case kF => k_asm); (case kX => k_asm); (case kN => k_asm); (case kT => k_asm); (case kK => first | exact rfl | assumption); (case kd => ktr_room); (case ku => ktr_units)))
local macro_rules | `(tactic| walk_at "call ref") => `(tactic| (k_here; (with_reducible show wpAny _ _ (call (Value.ref _) [Value.ref _, Value.int _ _]) _ _ _); k_dflt (refine' quote_int ?kS ?kl _ _ _ _ _ _ _ _ _ _ _ _ _ _ _ _ _ _ _ _ _ _ _ ?kB ?kF ?kX ?kN ?kT ?kK ?kd ?ku ?kr; (case kS => with_reducible assumption); (case kl => omega); walk_at "MINE back"; (case' kr => (intro v9 h9 tk9 hv9 F9 N9; obtain ⟨t9, hw9⟩ := hv9; subst hw9)))))
local macro_rules | `(tactic| walk_at "call builtin:str.join") => `(tactic| (k_here; (with_reducible show wpAny _ _ (call (Value.builtin "str.join") [Value.str _ _, Value.ref _]) _ _ _); k_dflt (refine' join_call ?k1 ?k2 ?k3 ?k4 ?_; (case k1 => exact News.isList (by k_asm) (by k_mem)); (case k2 => assumption); (case k3 => exact quote_map_len _ _ _); (case k4 => exact enc_count (by assumption))); intro _ _))
local macro_rules | `(tactic| walk_at "eval ListComp") => `(tactic| (k_here; (with_reducible show wpAny _ _ (eval (Expr.ListComp (Expr.IfExp _ _ _ _) [⟨_, Expr.Name (PySem.Str.ofString "text") _, _, _⟩] _ _) _) _ _ _); k_dflt (refine' ListComp_S ?k0 ?k1 ?k2 ?k3 ?k4 ?k5 ?_ ?k6; (case k0 => k_asm); (case k1 => with_unfolding_all rfl); (case k2 => decide); (case k3 => rfl); (case k4 => decide); (case k5 => rfl); (case k6 => intro _; rfl))))
local macro_rules | `(tactic| walk_at "SrcS") => `(tactic| k_dflt (refine' SrcS.introD ?k1 ?k1b ?k2 ?k3 ?k4 ?k5 ?kt ?kf; (case k1 => with_reducible assumption); (case k1b => with_reducible assumption); (case k2 => rfl); (case k3 => k_asm); (case k4 => k_asm); (case k5 => exact text_room (by assumption)); (case' kt => (intro b9 u9 g9 hb9; unfold Turn; intro I' oI' C' oC' D' m' ys' h' tk' E' hC' hx' F' N' off' ne')); (case' kf => (intro ys9 g9 hy9))))
local macro_rules | `(tactic| walk_at "CompEnd") => `(tactic| k_dflt (refine' ⟨_, _, _, rfl, by assumption, by assumption, by assumption, trivial, rfl, _, congrArg (fun z => Value.str z _) ?_⟩; first | exact rfl | exact delim_in (by assumption) | exact delim_out (by assumption)))
local macro_rules | `(tactic| walk_at "call ref") => `(tactic| (k_here; (with_reducible show wpAny _ _ (call (Value.ref _) [Value.ref _, Value.str _ _]) _ _ _); k_dflt (refine' quote_str ?kS ?kl _ _ _ _ _ _ _ _ _ _ _ _ _ _ _ _ _ _ _ _ _ _ _ ?kB ?kF ?kX ?kN ?kT ?kK ?kd ?ku ?kr; (case kS => with_reducible assumption); (case kl => (refine (show DelimOk _ from by with_reducible assumption) _ ?_; assumption)); walk_at "MINE back"; (case' kr => (intro v9 h9 tk9 hv9 F9 N9; obtain ⟨t9, hw9⟩ := hv9; subst hw9)))))
local macro_rules | `(tactic| walk_at "call builtin:str.join") => `(tactic| (k_here; (with_reducible show wpAny _ _ (call (Value.builtin "str.join") [Value.str _ _, Value.ref _]) _ _ _); k_dflt (refine' join_call ?k1 ?k2 ?k3 ?k4 ?_; (case k1 => exact News.isList (by k_asm) (by k_mem)); (case k2 => assumption); (case k3 => exact delim_map_len _ _ _); (case k4 => exact min_count (by assumption))); intro _ _))
/-- x's bytes, read by a map with the delimiters D, come to the text l -/
def DecOk (D : PySem.Str) (ap : Bool) (x : PySem.Str) (l : List Nat) : Prop :=
  x.length ≤ 1000 ∧ Clean x ∧ (bytesOf x.cps.toList).length ≤ 8000 ∧ ∃ hd, (∀ c ∈ hd, c ≠ 37) ∧
    ((bytesOf x.cps.toList = hd ++ flat [] ∧ x = ⟨l.toArray⟩) ∨
     ∃ n1 r1 its, bytesOf x.cps.toList = hd ++ flat ((Mine.hx n1 ++ r1) :: chunks its) ∧ (∀ ch ∈ ((Mine.hx n1 ++ r1) :: chunks its), ∀ c ∈ ch, c ≠ 37) ∧ ItemsOk D ap ((n1, r1) :: its) ∧ ((n1, r1) :: its).length ≤ 8000 ∧
       (resAt hd ((n1, r1) :: its)).flatten = bytesOf l ∧ (bytesOf l).length ≤ 8000 ∧ (∀ c ∈ l, Good c) ∧ l.length ≤ 8000 ∧ l ≠ [])
abbrev kwD (q : Addr) : List (PySem.Str × Value) := [(PySem.Str.ofString "normalize_case", .bool false), (PySem.Str.ofString "encode_stray_percents", .bool false), (PySem.Str.ofString "_decode_map", .ref q)]
theorem pdecK {prog : Program} {w : World} {q : Addr} {D : PySem.Str} {ap : Bool} (HD : DecOf w q D ap) (HI : InstK w q) (HS : SubK w q) {x : PySem.Str} {l : List Nat} {t : Tok} (h : DecOk D ap x l) :
    Gives prog w (Mine.hd.heap_39 w.params) (.ref 214) [.str x t] (kwD q) 6 60 (fun r => ∃ t', r = .str ⟨l.toArray⟩ t') := by
  obtain ⟨hx, hc, hl, hd, h0, ⟨hb, e⟩ | ⟨n1, r1, its, hb, h1, hok, hln, hfl, hlb, hg, hll, hne⟩⟩ := h
  · rw [← e]
    exact pdec0 hx hc hb h0 (fun _ h => nomatch h) hl
  · exact pdec1 HD HI HS hx hc hb h0 h1 hl hok hln hfl hlb hg hll hne
theorem pdecN {prog : Program} {w : World} {x : PySem.Str} {l : List Nat} {t : Tok} (h : DecOk (PySem.Str.ofString "") true x l) :
    Gives prog w (Mine.hd.heap_39 w.params) (.ref 214) [.str x t] [] 6 60 (fun r => ∃ t', r = .str ⟨l.toArray⟩ t') := by
  obtain ⟨hx, hc, hl, hd, h0, ⟨hb, e⟩ | ⟨n1, r1, its, hb, h1, hok, hln, hfl, hlb, hg, hll, hne⟩⟩ := h
  · rw [← e]
    exact pdec0D hx hc hb h0 (fun _ h => nomatch h) hl
  · exact pdec1D dec59 inst59 sub59 hx hc hb h0 h1 hl hok hln hfl hlb hg hll hne
local macro_rules | `(tactic| walk_at "call ref") => `(tactic| (k_here; (with_reducible show wpAny _ _ (call (Value.ref 214) [Value.str _ _] (List.zip _ _)) _ _ _); k_dflt (refine' pdecK ?kS ?kI ?kU ?kl _ _ _ _ _ _ _ _ _ _ _ _ _ _ _ _ _ _ _ _ _ _ _ ?kB ?kF ?kX ?kN ?kT ?kK ?kd ?ku ?kr; (case kS => first | exact dec93 | exact dec102 | exact dec108 | exact dec114 | exact dec120); (case kI => first | exact inst93 | exact inst102 | exact inst108 | exact inst114 | exact inst120); (case kU => first | exact sub93 | exact sub102 | exact sub108 | exact sub114 | exact sub120); (case kl => assumption); walk_at "MINE back"; (case' kr => (intro v9 h9 tk9 hv9 F9 N9; obtain ⟨t9, hw9⟩ := hv9; subst hw9)))))
set_option maxRecDepth 100000 in
set_option maxHeartbeats 8000000 in
theorem decpU {prog : Program} {w : World} {x : PySem.Str} {l : List Nat} {t : Tok} (h : DecOk (PySem.Str.ofString ":/?#[]@") false x l) :
    Gives prog w (Mine.hd.heap_39 w.params) (.ref 174) [.str x t] [] 7 70 (fun r => ∃ t', r = .str ⟨l.toArray⟩ t') := by
  unfold Gives
  intro dp un gd cn cs a ccd cl outer A₀ base h₀ L m news s p loose mean mg mb Q E B F X N T hk hd hu hret
  refine wpAny_call ?_
  walk_at "MINE enter"
  k_steps
  exact hret _ _ _ ⟨_, rfl⟩ (by assumption) (by assumption)
set_option maxRecDepth 100000 in
set_option maxHeartbeats 8000000 in
theorem decpP {prog : Program} {w : World} {x : PySem.Str} {l : List Nat} {t : Tok} (h : DecOk (PySem.Str.ofString "/?#[]") false x l) :
    Gives prog w (Mine.hd.heap_39 w.params) (.ref 182) [.str x t] [] 7 70 (fun r => ∃ t', r = .str ⟨l.toArray⟩ t') := by
  unfold Gives
  intro dp un gd cn cs a ccd cl outer A₀ base h₀ L m news s p loose mean mg mb Q E B F X N T hk hd hu hret
  refine wpAny_call ?_
  walk_at "MINE enter"
  k_steps
  exact hret _ _ _ ⟨_, rfl⟩ (by assumption) (by assumption)
set_option maxRecDepth 100000 in
set_option maxHeartbeats 8000000 in
theorem decpK {prog : Program} {w : World} {x : PySem.Str} {l : List Nat} {t : Tok} (h : DecOk (PySem.Str.ofString "#[]&=") false x l) :
    Gives prog w (Mine.hd.heap_39 w.params) (.ref 190) [.str x t] [] 7 70 (fun r => ∃ t', r = .str ⟨l.toArray⟩ t') := by
  unfold Gives
  intro dp un gd cn cs a ccd cl outer A₀ base h₀ L m news s p loose mean mg mb Q E B F X N T hk hd hu hret
  refine wpAny_call ?_
  walk_at "MINE enter"
  k_steps
  exact hret _ _ _ ⟨_, rfl⟩ (by assumption) (by assumption)
set_option maxRecDepth 100000 in
set_option maxHeartbeats 8000000 in
theorem decpV {prog : Program} {w : World} {x : PySem.Str} {l : List Nat} {t : Tok} (h : DecOk (PySem.Str.ofString "#[]&") false x l) :
    Gives prog w (Mine.hd.heap_39 w.params) (.ref 198) [.str x t] [] 7 70 (fun r => ∃ t', r = .str ⟨l.toArray⟩ t') := by
  unfold Gives
  intro dp un gd cn cs a ccd cl outer A₀ base h₀ L m news s p loose mean mg mb Q E B F X N T hk hd hu hret
  refine wpAny_call ?_
  walk_at "MINE enter"
  k_steps
  exact hret _ _ _ ⟨_, rfl⟩ (by assumption) (by assumption)
set_option maxRecDepth 100000 in
set_option maxHeartbeats 8000000 in
theorem decpF {prog : Program} {w : World} {x : PySem.Str} {l : List Nat} {t : Tok} (h : DecOk (PySem.Str.ofString "#[]") false x l) :
    Gives prog w (Mine.hd.heap_39 w.params) (.ref 206) [.str x t] [] 7 70 (fun r => ∃ t', r = .str ⟨l.toArray⟩ t') := by
  unfold Gives
  intro dp un gd cn cs a ccd cl outer A₀ base h₀ L m news s p loose mean mg mb Q E B F X N T hk hd hu hret
  refine wpAny_call ?_
  walk_at "MINE enter"
  k_steps
  exact hret _ _ _ ⟨_, rfl⟩ (by assumption) (by assumption)
end
section
theorem calmLB : True := by w_top off; trivial
local macro_rules | `(tactic| k_room) => `(tactic| ktr_room)
local macro_rules | `(tactic| k_units) => `(tactic| ktr_units)
local macro_rules | `(tactic| walk_at "MINE enter") => `(tactic| k_dflt (refine' code_def ?k1 ?k2 ?k3 ?k4 ?k5 ?kA ?kF ?kK ?k6 ?k7 ?k8 ?k9 ?kB ?_ ?c2 ?c3 ?c4 ?c5; (case kA => exact rfl); (case kF => exact rfl); (case kK => assumption); (case k1 => k_asm); (case k2 => k_asm); (case k3 => k_asm); (case k4 => k_asm); (case k5 => k_asm); (case k6 => k_is); (case k7 => k_is); (case k8 => ktr_room); (case k9 => first | exact BindsTo.of_eq rfl | exact binds_K (by k_in) rfl (by k_is) rfl rfl rfl); (case c5 => decide); (case kB => exact locs rfl); (case c2 => exact rfl); (case c3 => exact rfl); (case c4 => exact rfl); k_whole; intro g' L' h' FG' F' N' B' X' T'; (try dsimp only); (try k_lift B'); (try k_fold)))
local macro_rules | `(tactic| walk_at "getMethod str") => `(tactic| (k_here; with_reducible refine encode_method ?_))
local macro_rules | `(tactic| walk_at "call builtin:str.encode") => `(tactic| (k_here; (with_reducible show wpAny _ _ (call (Value.builtin "str.encode") [Value.str _ _, Value.str _ _]) _ _ _); refine' encode_call ?k1 ?k2 ?k3 ?_; (case k1 => assumption); (case k2 => omega); (case k3 => first | exact Or.inl rfl | exact Or.inr rfl); intro _ _))
local macro_rules | `(tactic| walk_at "eval ListComp") => `(tactic| (k_here; (with_reducible show wpAny _ _ (eval (Expr.ListComp _ [⟨_, Expr.Name (PySem.Str.ofString "bytestr") _, _, _⟩] _ _) _) _ _ _); k_dflt (refine' ListComp_B ?k0 ?k1 ?k2 ?k3 ?k4 ?k5 ?_ ?k6; (case k0 => k_asm); (case k1 => with_unfolding_all rfl); (case k2 => decide); (case k3 => rfl); (case k4 => decide); (case k5 => rfl); (case k6 => intro _; rfl))))
local macro_rules | `(tactic| walk_at "SrcB") => `(tactic| k_dflt (refine' SrcB.intro ?k1 ?k2 ?k3 ?k4 ?k5 ?kt ?kf; (case k1 => with_reducible assumption); (case k2 => rfl); (case k3 => k_asm); (case k4 => k_asm); (case k5 => exact bytes_room (by assumption)); (case' kt => (intro b9 u9 g9 hb9; unfold Turn; intro I' oI' C' oC' D' m' ys' h' tk' E' hC' hx' F' N' off' ne'; (have hlt9 := b9.toNat_lt))); (case' kf => (intro ys9 g9 hy9))))
local macro_rules | `(tactic| walk_at "CompEnd") => `(tactic| k_dflt (exact ⟨_, _, _, rfl, by assumption, by assumption, by assumption, trivial, rfl, _, rfl⟩))
local macro_rules | `(tactic| walk_at "MINE back") => `(tactic| ((case kB => k_asm); (case kF => k_asm); (case kX => k_asm); (case kN => k_asm); (case kT => k_asm); (case kK => first | exact rfl | assumption); (case kd => ktr_room); (case ku => ktr_units)))
local macro_rules | `(tactic| walk_at "call ref") => `(tactic| (k_here; (with_reducible show wpAny _ _ (call (Value.ref _) [Value.ref _, Value.int _ _]) _ _ _); k_dflt (refine' quote_int ?kS ?kl _ _ _ _ _ _ _ _ _ _ _ _ _ _ _ _ _ _ _ _ _ _ _ ?kB ?kF ?kX ?kN ?kT ?kK ?kd ?ku ?kr; (case kS => with_reducible assumption); (case kl => omega); walk_at "MINE back"; (case' kr => (intro v9 h9 tk9 hv9 F9 N9; obtain ⟨t9, hw9⟩ := hv9; subst hw9)))))
local macro_rules | `(tactic| walk_at "call builtin:str.join") => `(tactic| (k_here; (with_reducible show wpAny _ _ (call (Value.builtin "str.join") [Value.str _ _, Value.ref _]) _ _ _); k_dflt (refine' join_call ?k1 ?k2 ?k3 ?k4 ?_; (case k1 => exact News.isList (by k_asm) (by k_mem)); (case k2 => assumption); (case k3 => exact quote_map_len _ _ _); (case k4 => exact enc_count (by assumption))); intro _ _))
local macro_rules | `(tactic| walk_at "eval ListComp") => `(tactic| (k_here; (with_reducible show wpAny _ _ (eval (Expr.ListComp (Expr.IfExp _ _ _ _) [⟨_, Expr.Name (PySem.Str.ofString "text") _, _, _⟩] _ _) _) _ _ _); k_dflt (refine' ListComp_S ?k0 ?k1 ?k2 ?k3 ?k4 ?k5 ?_ ?k6; (case k0 => k_asm); (case k1 => with_unfolding_all rfl); (case k2 => decide); (case k3 => rfl); (case k4 => decide); (case k5 => rfl); (case k6 => intro _; rfl))))
local macro_rules | `(tactic| walk_at "SrcS") => `(tactic| k_dflt (refine' SrcS.introD ?k1 ?k1b ?k2 ?k3 ?k4 ?k5 ?kt ?kf; (case k1 => with_reducible assumption); (case k1b => with_reducible assumption); (case k2 => rfl); (case k3 => k_asm); (case k4 => k_asm); (case k5 => exact text_room (by assumption)); (case' kt => (intro b9 u9 g9 hb9; unfold Turn; intro I' oI' C' oC' D' m' ys' h' tk' E' hC' hx' F' N' off' ne')); (case' kf => (intro ys9 g9 hy9))))
local macro_rules | `(tactic| walk_at "CompEnd") => `(tactic| k_dflt (refine' ⟨_, _, _, rfl, by assumption, by assumption, by assumption, trivial, rfl, _, congrArg (fun z => Value.str z _) ?_⟩; first | exact rfl | exact delim_in (by assumption) | exact delim_out (by assumption)))
local macro_rules | `(tactic| walk_at "call ref") => `(tactic| (k_here; (with_reducible show wpAny _ _ (call (Value.ref _) [Value.ref _, Value.str _ _]) _ _ _); k_dflt (refine' quote_str ?kS ?kl _ _ _ _ _ _ _ _ _ _ _ _ _ _ _ _ _ _ _ _ _ _ _ ?kB ?kF ?kX ?kN ?kT ?kK ?kd ?ku ?kr; (case kS => with_reducible assumption); (case kl => (refine (show DelimOk _ from by with_reducible assumption) _ ?_; assumption)); walk_at "MINE back"; (case' kr => (intro v9 h9 tk9 hv9 F9 N9; obtain ⟨t9, hw9⟩ := hv9; subst hw9)))))
local macro_rules | `(tactic| walk_at "call builtin:str.join") => `(tactic| (k_here; (with_reducible show wpAny _ _ (call (Value.builtin "str.join") [Value.str _ _, Value.ref _]) _ _ _); k_dflt (refine' join_call ?k1 ?k2 ?k3 ?k4 ?_; (case k1 => exact News.isList (by k_asm) (by k_mem)); (case k2 => assumption); (case k3 => exact delim_map_len _ _ _); (case k4 => exact min_count (by assumption))); intro _ _))
def lawB (c : Nat) : PySem.Str := cat ((PySem.Str.utf8Of c).map fun a => pct a.toNat)
theorem compEnd_same {h₀ : Heap} {L I C D : Addr} {m : PySem.Str → Option Value} {s₁ : Shared} {oI oC oD : Obj} {S : List (Addr × Obj) → Prop} {rest : Value → List (Addr × Obj) → Prop} {y : Value} {h' : Heap} {tk : Nat} {news' : List (Addr × Obj)}
    (F : Fr h₀ L h' m) (N : News h₀ L h' ((I, oI) :: (C, oC) :: (D, oD) :: news')) (off : LCg.Off3 I C D news') (hS : S news') (r : rest y news') :
    LCg.CompEnd h₀ L m s₁ I oI C oC D oD S rest y { s₁ with heap := h', toks := tk } := LCg.CompEnd.intro F N news' (fun _ h => h) off hS r
local macro_rules | `(tactic| walk_at "CompEnd") => `(tactic| k_dflt (refine' compEnd_same ?F ?N ?off ?hS ?kr; (case F => k_asm); (case N => k_asm); (case off => k_asm); (case hS => lcg_src)))
theorem hex_text : ∀ n : Nat, n < 256 → (PySem.Str.ofString "%" ++ Txt.item (PySem.Str.ofString "0123456789ABCDEF") (Int.fdiv (n : Int) 16) ++ Txt.item (PySem.Str.ofString "0123456789ABCDEF") (Int.fmod (n : Int) 16) : PySem.Str) = pct n := by decide +kernel
theorem hex_text' {z : Int} {n : Nat} (hn : n < 256) (e : z = n) : (PySem.Str.ofString "%" ++ Txt.item (PySem.Str.ofString "0123456789ABCDEF") (Int.fdiv z 16) ++ Txt.item (PySem.Str.ofString "0123456789ABCDEF") (Int.fmod z 16) : PySem.Str) = pct n := by
  subst e
  exact hex_text n hn
inductive HexVals : List Value → List Int → Prop
  | nil : HexVals [] []
  | cons (z : Int) (t : Tok) {vs zs} (h0 : 0 ≤ z) (h1 : z < 256) : HexVals vs zs → HexVals (.str (PySem.Str.ofString "%" ++ Txt.item (PySem.Str.ofString "0123456789ABCDEF") (Int.fdiv z 16) ++ Txt.item (PySem.Str.ofString "0123456789ABCDEF") (Int.fmod z 16)) t :: vs) (z :: zs)
theorem HexVals.strs {vs : List Value} {zs : List Int} (h : HexVals vs zs) : StrsAre vs (zs.map fun z => pct z.toNat) := by
  induction h with
  | nil => exact StrsAre.nil
  | cons z t h0 h1 _ ih =>
    have e : z = ((z.toNat : Nat) : Int) := by omega
    rw [hex_text' (n := z.toNat) (by omega) e]
    exact StrsAre.cons _ _ ih
theorem join_hexes {prog : Program} {w : World} {A : Around} {E : Value → Shared → Prop} {s : Shared} {t : Tok} {Q : Value → Shared → Prop} {D : Addr} {vs : List Value} {zs : List Int} (hl : s.heap.IsList D vs.toArray) (hi : HexVals vs zs)
    (hn : zs.length ≤ 8000) (h : ∀ t' k, Q (.str (cat (zs.map fun z => pct z.toNat)) t') { s with toks := k }) : wpAny (model prog w) A (call (.builtin "str.join") [.str (PySem.Str.ofString "") t, .ref D]) Q E s := by
  refine join_call hl hi.strs (fun y hy => ?_) (by simpa using hn) h
  obtain ⟨z, _, rfl⟩ := List.mem_map.mp hy
  simp [pct, PySem.Str.length]
theorem lawB_lo : ∀ c : Nat, c < 128 → cat ([(c : Int)].map fun z => pct z.toNat) = lawB c := by decide +kernel
theorem lawB_233 : ∀ c : Nat, c = 233 → cat ([192 + Int.fdiv (c : Int) 64, 128 + Int.fmod (c : Int) 64].map fun z => pct z.toNat) = lawB c := by
  rintro c rfl
  decide +kernel
theorem lawB_8364 : ∀ c : Nat, c = 8364 → cat ([224 + Int.fdiv (c : Int) 4096, 128 + Int.fmod (Int.fdiv (c : Int) 64) 64, 128 + Int.fmod (c : Int) 64].map fun z => pct z.toNat) = lawB c := by
  rintro c rfl
  decide +kernel
theorem z_bnd {c n : Nat} {f : Int → Int} (hc : c = n) (h : 0 ≤ f (n : Int)) : 0 ≤ f (c : Int) := hc ▸ h
theorem z_bnd' {c n : Nat} {f : Int → Int} (hc : c = n) (h : f (n : Int) < 256) : f (c : Int) < 256 := hc ▸ h
local macro_rules | `(tactic| walk_at "MINE hexes") => `(tactic| first | exact HexVals.nil | (refine' HexVals.cons _ _ ?h0 ?h1 ?hr; (case h0 => first | omega | exact z_bnd (f := fun z => 192 + Int.fdiv z 64) (by assumption) (by decide) | exact z_bnd (f := fun z => 224 + Int.fdiv z 4096) (by assumption) (by decide) | exact z_bnd (f := fun z => 128 + Int.fmod z 64) (by assumption) (by decide) | exact z_bnd (f := fun z => 128 + Int.fmod (Int.fdiv z 64) 64) (by assumption) (by decide)); (case h1 => first | omega | exact z_bnd' (f := fun z => 192 + Int.fdiv z 64) (by assumption) (by decide) | exact z_bnd' (f := fun z => 224 + Int.fdiv z 4096) (by assumption) (by decide) | exact z_bnd' (f := fun z => 128 + Int.fmod z 64) (by assumption) (by decide) | exact z_bnd' (f := fun z => 128 + Int.fmod (Int.fdiv z 64) 64) (by assumption) (by decide)); (case hr => walk_at "MINE hexes")))
local macro_rules | `(tactic| walk_at "call builtin:str.join") => `(tactic| (k_here; (with_reducible show wpAny _ _ (call (Value.builtin "str.join") [Value.str _ _, Value.ref _]) _ _ _); k_dflt (refine' join_hexes ?k1 ?k2 ?k3 ?_; (case k1 => exact News.isList (by k_asm) (by k_mem)); (case k2 => walk_at "MINE hexes"); (case k3 => exact Nat.le_of_ble_eq_true rfl)); intro _ _))
set_option maxRecDepth 100000 in
set_option maxHeartbeats 8000000 in
theorem lb1 {prog : Program} {w : World} {c : Nat} {t : Tok} (hc : c < 128) :
    Gives prog w (Mine.hd.heap_39 w.params) (.ref 231) [.str ⟨#[c]⟩ t] [] 6 60 (fun r => ∃ t', r = .str (lawB c) t') := by
  unfold Gives
  intro dp un gd cn cs a ccd cl outer A₀ base h₀ L m news s p loose mean mg mb Q E B F X N T hk hd hu hret
  refine wpAny_call ?_
  walk_at "MINE enter"
  k_steps
  exact hret _ _ _ ⟨_, congrArg (Value.str · _) (lawB_lo c hc)⟩ (by assumption) (by first | exact news_tail (by assumption) | exact news_tail (news_tail (by assumption)))
set_option maxRecDepth 100000 in
set_option maxHeartbeats 8000000 in
theorem lb2 {prog : Program} {w : World} {c : Nat} {t : Tok} (hc : c = 233) :
    Gives prog w (Mine.hd.heap_39 w.params) (.ref 231) [.str ⟨#[c]⟩ t] [] 6 60 (fun r => ∃ t', r = .str (lawB c) t') := by
  unfold Gives
  intro dp un gd cn cs a ccd cl outer A₀ base h₀ L m news s p loose mean mg mb Q E B F X N T hk hd hu hret
  refine wpAny_call ?_
  walk_at "MINE enter"
  k_steps
  walk_at "CompEnd"
  k_steps
  exact hret _ _ _ ⟨_, congrArg (Value.str · _) (lawB_233 c hc)⟩ (by assumption) (by first | exact news_tail (by assumption) | exact news_tail (news_tail (by assumption)))
set_option maxRecDepth 100000 in
set_option maxHeartbeats 8000000 in
theorem lb3 {prog : Program} {w : World} {c : Nat} {t : Tok} (hc : c = 8364) :
    Gives prog w (Mine.hd.heap_39 w.params) (.ref 231) [.str ⟨#[c]⟩ t] [] 6 60 (fun r => ∃ t', r = .str (lawB c) t') := by
  unfold Gives
  intro dp un gd cn cs a ccd cl outer A₀ base h₀ L m news s p loose mean mg mb Q E B F X N T hk hd hu hret
  refine wpAny_call ?_
  walk_at "MINE enter"
  k_steps
  walk_at "CompEnd"
  k_steps
  walk_at "CompEnd"
  k_steps
  exact hret _ _ _ ⟨_, congrArg (Value.str · _) (lawB_8364 c hc)⟩ (by assumption) (by first | exact news_tail (by assumption) | exact news_tail (news_tail (by assumption)))
theorem law_bytes {prog : Program} {w : World} {c : Nat} {t : Tok} (hc : c < 128 ∨ c = 233 ∨ c = 8364) :
    Gives prog w (Mine.hd.heap_39 w.params) (.ref 231) [.str ⟨#[c]⟩ t] [] 6 60 (fun r => ∃ t', r = .str (lawB c) t') := by
  rcases hc with h | h | h
  · exact lb1 h
  · exact lb2 h
  · exact lb3 h
end
section
local macro_rules | `(tactic| walk_at "MINE pad0") => `(tactic| fail)
theorem calmLW : True := by w_top off; trivial
local macro_rules | `(tactic| k_room) => `(tactic| ktr_room)
local macro_rules | `(tactic| k_units) => `(tactic| ktr_units)
local macro_rules | `(tactic| walk_at "MINE enter") => `(tactic| k_dflt (refine' code_def ?k1 ?k2 ?k3 ?k4 ?k5 ?kA ?kF ?kK ?k6 ?k7 ?k8 ?k9 ?kB ?_ ?c2 ?c3 ?c4 ?c5; (case kA => exact rfl); (case kF => exact rfl); (case kK => assumption); (case k1 => k_asm); (case k2 => k_asm); (case k3 => k_asm); (case k4 => k_asm); (case k5 => k_asm); (case k6 => k_is); (case k7 => k_is); (case k8 => ktr_room); (case k9 => first | exact BindsTo.of_eq rfl | exact binds_K (by k_in) rfl (by k_is) rfl rfl rfl); (case c5 => decide); (case kB => exact locs rfl); (case c2 => exact rfl); (case c3 => exact rfl); (case c4 => exact rfl); k_whole; intro g' L' h' FG' F' N' B' X' T'; (try dsimp only); (try k_lift B'); (try k_fold)))
local macro_rules | `(tactic| walk_at "getMethod str") => `(tactic| (k_here; with_reducible refine encode_method ?_))
local macro_rules | `(tactic| walk_at "call builtin:str.encode") => `(tactic| (k_here; (with_reducible show wpAny _ _ (call (Value.builtin "str.encode") [Value.str _ _, Value.str _ _]) _ _ _); refine' encode_call ?k1 ?k2 ?k3 ?_; (case k1 => assumption); (case k2 => omega); (case k3 => first | exact Or.inl rfl | exact Or.inr rfl); intro _ _))
local macro_rules | `(tactic| walk_at "eval ListComp") => `(tactic| (k_here; (with_reducible show wpAny _ _ (eval (Expr.ListComp _ [⟨_, Expr.Name (PySem.Str.ofString "bytestr") _, _, _⟩] _ _) _) _ _ _); k_dflt (refine' ListComp_B ?k0 ?k1 ?k2 ?k3 ?k4 ?k5 ?_ ?k6; (case k0 => k_asm); (case k1 => with_unfolding_all rfl); (case k2 => decide); (case k3 => rfl); (case k4 => decide); (case k5 => rfl); (case k6 => intro _; rfl))))
local macro_rules | `(tactic| walk_at "SrcB") => `(tactic| k_dflt (refine' SrcB.intro ?k1 ?k2 ?k3 ?k4 ?k5 ?kt ?kf; (case k1 => with_reducible assumption); (case k2 => rfl); (case k3 => k_asm); (case k4 => k_asm); (case k5 => exact bytes_room (by assumption)); (case' kt => (intro b9 u9 g9 hb9; unfold Turn; intro I' oI' C' oC' D' m' ys' h' tk' E' hC' hx' F' N' off' ne'; (have hlt9 := b9.toNat_lt))); (case' kf => (intro ys9 g9 hy9))))
local macro_rules | `(tactic| walk_at "CompEnd") => `(tactic| k_dflt (exact ⟨_, _, _, rfl, by assumption, by assumption, by assumption, trivial, rfl, _, rfl⟩))
local macro_rules | `(tactic| walk_at "MINE back") => `(tactic| ((case kB => k_asm); (case kF => k_asm); (case kX => k_asm); (case kN => k_asm); (case kT => k_asm); (case kK => first | exact rfl | assumption); (case kd => ktr_room); (case ku => ktr_units)))
local macro_rules | `(tactic| walk_at "call ref") => `(tactic| (k_here; (with_reducible show wpAny _ _ (call (Value.ref _) [Value.ref _, Value.int _ _]) _ _ _); k_dflt (refine' quote_int ?kS ?kl _ _ _ _ _ _ _ _ _ _ _ _ _ _ _ _ _ _ _ _ _ _ _ ?kB ?kF ?kX ?kN ?kT ?kK ?kd ?ku ?kr; (case kS => with_reducible assumption); (case kl => omega); walk_at "MINE back"; (case' kr => (intro v9 h9 tk9 hv9 F9 N9; obtain ⟨t9, hw9⟩ := hv9; subst hw9)))))
local macro_rules | `(tactic| walk_at "call builtin:str.join") => `(tactic| (k_here; (with_reducible show wpAny _ _ (call (Value.builtin "str.join") [Value.str _ _, Value.ref _]) _ _ _); k_dflt (refine' join_call ?k1 ?k2 ?k3 ?k4 ?_; (case k1 => exact News.isList (by k_asm) (by k_mem)); (case k2 => assumption); (case k3 => exact quote_map_len _ _ _); (case k4 => exact enc_count (by assumption))); intro _ _))
local macro_rules | `(tactic| walk_at "eval ListComp") => `(tactic| (k_here; (with_reducible show wpAny _ _ (eval (Expr.ListComp (Expr.IfExp _ _ _ _) [⟨_, Expr.Name (PySem.Str.ofString "text") _, _, _⟩] _ _) _) _ _ _); k_dflt (refine' ListComp_S ?k0 ?k1 ?k2 ?k3 ?k4 ?k5 ?_ ?k6; (case k0 => k_asm); (case k1 => with_unfolding_all rfl); (case k2 => decide); (case k3 => rfl); (case k4 => decide); (case k5 => rfl); (case k6 => intro _; rfl))))
local macro_rules | `(tactic| walk_at "SrcS") => `(tactic| k_dflt (refine' SrcS.introD ?k1 ?k1b ?k2 ?k3 ?k4 ?k5 ?kt ?kf; (case k1 => with_reducible assumption); (case k1b => with_reducible assumption); (case k2 => rfl); (case k3 => k_asm); (case k4 => k_asm); (case k5 => exact text_room (by assumption)); (case' kt => (intro b9 u9 g9 hb9; unfold Turn; intro I' oI' C' oC' D' m' ys' h' tk' E' hC' hx' F' N' off' ne')); (case' kf => (intro ys9 g9 hy9))))
local macro_rules | `(tactic| walk_at "CompEnd") => `(tactic| k_dflt (refine' ⟨_, _, _, rfl, by assumption, by assumption, by assumption, trivial, rfl, _, congrArg (fun z => Value.str z _) ?_⟩; first | exact rfl | exact delim_in (by assumption) | exact delim_out (by assumption)))
local macro_rules | `(tactic| walk_at "call ref") => `(tactic| (k_here; (with_reducible show wpAny _ _ (call (Value.ref _) [Value.ref _, Value.str _ _]) _ _ _); k_dflt (refine' quote_str ?kS ?kl _ _ _ _ _ _ _ _ _ _ _ _ _ _ _ _ _ _ _ _ _ _ _ ?kB ?kF ?kX ?kN ?kT ?kK ?kd ?ku ?kr; (case kS => with_reducible assumption); (case kl => (refine (show DelimOk _ from by with_reducible assumption) _ ?_; assumption)); walk_at "MINE back"; (case' kr => (intro v9 h9 tk9 hv9 F9 N9; obtain ⟨t9, hw9⟩ := hv9; subst hw9)))))
local macro_rules | `(tactic| walk_at "call builtin:str.join") => `(tactic| (k_here; (with_reducible show wpAny _ _ (call (Value.builtin "str.join") [Value.str _ _, Value.ref _]) _ _ _); k_dflt (refine' join_call ?k1 ?k2 ?k3 ?k4 ?_; (case k1 => exact News.isList (by k_asm) (by k_mem)); (case k2 => assumption); (case k3 => exact delim_map_len _ _ _); (case k4 => exact min_count (by assumption))); intro _ _))
def heldW (m₀ : PySem.Str → Option Value) (u : PySem.Str → Option Value) (acc : PySem.Str) (ta : Tok) : PySem.Str → Option Value := fun y =>
  if y = PySem.Str.ofString "found" then some (.str acc ta) else if y = PySem.Str.ofString "sign" then u y else if y = PySem.Str.ofString "is_kept" then u y else m₀ y
def JW (m₀ : PySem.Str → Option Value) (news : List (Addr × Obj)) (acc : PySem.Str) (m' : PySem.Str → Option Value) (nx : List (Addr × Obj)) : Prop :=
  nx = news ∧ ∃ ta, m' (PySem.Str.ofString "found") = some (.str acc ta) ∧ ∀ z, z ≠ PySem.Str.ofString "found" → z ≠ PySem.Str.ofString "sign" → z ≠ PySem.Str.ofString "is_kept" → m' z = m₀ z
theorem heldW_eq {m₀ m' : PySem.Str → Option Value} {acc : PySem.Str} {ta : Tok} (hf : m' (PySem.Str.ofString "found") = some (.str acc ta)) (h : ∀ z, z ≠ PySem.Str.ofString "found" → z ≠ PySem.Str.ofString "sign" → z ≠ PySem.Str.ofString "is_kept" → m' z = m₀ z) : m' = heldW m₀ m' acc ta := by
  funext y
  unfold heldW
  by_cases h1 : y = PySem.Str.ofString "found"
  · rw [if_pos h1, h1, hf]
  · rw [if_neg h1]
    by_cases h2 : y = PySem.Str.ofString "sign"
    · rw [if_pos h2]
    · rw [if_neg h2]
      by_cases h3 : y = PySem.Str.ofString "is_kept"
      · rw [if_pos h3]
      · rw [if_neg h3]
        exact h y h1 h2 h3
theorem cat_snoc (ys : List PySem.Str) (y : PySem.Str) : cat (ys ++ [y]) = cat ys ++ y := by
  refine PySem.Str.ext' ?_
  rw [PySem.Str.cps_append]
  refine Array.toList_inj.mp ?_
  simp [cat]
theorem cat_len {ys : List PySem.Str} {k : Nat} (h : ∀ y ∈ ys, y.length ≤ k) : (cat ys).length ≤ ys.length * k := by
  have e : (cat ys).length = (ys.map (·.length)).sum := by
    unfold cat PySem.Str.length
    simp [List.length_flatMap]
  rw [e]
  exact sum_len h
theorem text_loop {prog : Program} {w : World} {A : Around} {E : Value → Shared → Prop} {s : Shared} {h₀ : Heap} {env : Env} {body : List Stmt} {b : PySem.Str} {tb t0 : Tok} {g : Nat → PySem.Str} {m₀ : PySem.Str → Option Value} {news : List (Addr × Obj)} {Q : Flow → Shared → Prop}
    (hh : A.handled = none) (hb : b.length ≤ 1000) (hg : ∀ c ∈ b.cps.toList, (g c).length ≤ 9) (F : Fr h₀ env.locals s.heap m₀) (N : News h₀ env.locals s.heap news) (hf : m₀ (PySem.Str.ofString "found") = some (.str (PySem.Str.ofString "") t0))
    (turn : ∀ c ∈ b.cps.toList, ∀ u0 (u : PySem.Str → Option Value) acc ta h tk own, acc.length ≤ 9000 → Fr h₀ env.locals h (fun y => if y = PySem.Str.ofString "sign" then some (.str ⟨#[c]⟩ u0) else heldW m₀ u acc ta y) → News h₀ env.locals h (news ++ own) →
      wpAny (model prog w) A (execs body env) (InvPostN h₀ env.locals (JW m₀ news (acc ++ g c)) own (news.map (·.1)) { s with heap := h, toks := tk } Q) E { s with heap := h, toks := tk })
    (done : ∀ (u : PySem.Str → Option Value) ta h tk, Fr h₀ env.locals h (heldW m₀ u (cat (b.cps.toList.map g)) ta) → News h₀ env.locals h news → Q .next { s with heap := h, toks := tk }) :
    wpAny (model prog w) A (pyIter (.str b tb)) (fun it s₂ => LoopAtV prog w A h₀ env (PySem.Str.ofString "sign") body Q E it s₂) E s := by
  refine wpAny_pyIter_str fun o St W hst => ?_
  refine loop_invN (fun i m nx => JW m₀ news (cat ((b.cps.toList.take i).map g)) m nx) (W A hh) ?_ ?_ ?_ ?_ hst (F.push _) (fun p hp => ⟨Heap.get?_push_of_some _ (N p hp).1, (N p hp).2⟩) ⟨rfl, t0, hf, fun _ _ _ _ => rfl⟩ ?_ ?_
  · intro hm
    exact absurd F.ns.lt ((List.mem_singleton.mp hm) ▸ Nat.lt_irrefl _)
  · intro b hb
    rw [List.mem_singleton.mp hb]
    exact next_is_new F
  · intro p hp hI
    exact absurd (Heap.lt_size (N p hp).1) ((List.mem_singleton.mp hI) ▸ Nat.lt_irrefl _)
  · intro p hp hI
    exact absurd (Heap.lt_size (N p hp).1) ((List.mem_singleton.mp hI) ▸ Nat.lt_irrefl _)
  · rintro i v m₁ nx h tk own hi hP _ _ ⟨rfl, ta, hfo, hm⟩ F₁ N₁
    obtain ⟨c, u, hc, rfl⟩ := hP
    have hi' : b.cps.toList[i]? = some c := by simpa using hc
    have e : cat ((b.cps.toList.take (i + 1)).map g) = cat ((b.cps.toList.take i).map g) ++ g c := by
      rw [List.take_add_one, hi', List.map_append]
      exact cat_snoc _ _
    rw [e]
    rw [heldW_eq hfo hm] at F₁
    refine turn c (List.mem_of_getElem? hi') u m₁ _ ta h tk own ?_ F₁ N₁
    have := cat_len (ys := (b.cps.toList.take i).map g) (k := 9) (fun y hy => by
      obtain ⟨c, hc, rfl⟩ := List.mem_map.mp hy
      exact hg c (List.mem_of_mem_take hc))
    have h2 : (b.cps.toList.take i).length ≤ 1000 := Nat.le_trans (List.length_take_le' _ _) (by simpa [PySem.Str.length] using hb)
    simp only [List.length_map] at this
    omega
  · rintro m₁ nx h tk ⟨rfl, ta, hfo, hm⟩ F₁ N₁
    rw [List.take_of_length_le (by simp)] at hfo
    rw [heldW_eq hfo hm] at F₁
    exact done m₁ ta h tk F₁ N₁
abbrev plainS : PySem.Str := PySem.Str.ofString "aZ09-._~"
def gW (lt br : PySem.Str) : Bool → Nat → PySem.Str
  | true, c => if (Builtin.Str.occurrences (plainS ++ lt) ⟨#[c]⟩ 0 (plainS ++ lt).length 1).isEmpty = true then lawB c else ⟨#[c]⟩
  | false, c => if (Builtin.Str.occurrences br ⟨#[c]⟩ 0 br.length 1).isEmpty = true then ⟨#[c]⟩ else lawB c
theorem lawB_len : ∀ c : Nat, (c < 128 ∨ c = 233 ∨ c = 8364) → (lawB c).length ≤ 9 := by
  rintro c (h | rfl | rfl)
  · revert c; decide +kernel
  · decide +kernel
  · decide +kernel
theorem gW_len {lt br : PySem.Str} {wh : Bool} {c : Nat} (h : c < 128 ∨ c = 233 ∨ c = 8364) : (gW lt br wh c).length ≤ 9 := by
  cases wh <;> (show PySem.Str.length (ite _ _ _) ≤ 9) <;> split <;> first | exact lawB_len c h | exact (by decide : 1 ≤ 9)
def GoodT (x : PySem.Str) : Prop := ∀ c ∈ x.cps.toList, Good c
theorem GoodT.at {x : PySem.Str} (h : GoodT x) {c : Nat} (hc : c ∈ x.cps.toList) : Good c := h c hc
theorem GoodT.len {x : PySem.Str} (h : GoodT x) {c : Nat} (hc : c ∈ x.cps.toList) : (lawB c).length ≤ 9 := lawB_len c (h c hc)
theorem w_end {h₀ : Heap} {L : Addr} {news own : List (Addr × Obj)} {m₀ m' : PySem.Str → Option Value} {acc acc' : PySem.Str} {ta : Tok} {h' : Heap} {tk : Nat} {s₁ : Shared}
    (F : Fr h₀ L h' m') (N : News h₀ L h' (news ++ own)) (hf : m' (PySem.Str.ofString "found") = some (.str acc' ta)) (ea : acc' = acc)
    (hm : ∀ z, z ≠ PySem.Str.ofString "found" → z ≠ PySem.Str.ofString "sign" → z ≠ PySem.Str.ofString "is_kept" → m' z = m₀ z) :
    InvEndN h₀ L (JW m₀ news acc) own (news.map (·.1)) s₁ { s₁ with heap := h', toks := tk } :=
  InvEndN.intro (nx := news) F N ⟨rfl, ta, ea ▸ hf, hm⟩ rfl (fun _ h => List.mem_append.mpr (.inl h)) (fun _ h => List.mem_append.mpr (.inr h))
local macro_rules | `(tactic| walk_at "call ref") => `(tactic| (k_here; (with_reducible show wpAny _ _ (call (Value.ref 231) [Value.str _ _]) _ _ _); k_dflt (refine' law_bytes ?kl _ _ _ _ _ _ _ _ _ _ _ _ _ _ _ _ _ _ _ _ _ _ _ ?kB ?kF ?kX ?kN ?kT ?kK ?kd ?ku ?kr; (case kl => exact GoodT.at (by assumption) (by assumption)); walk_at "MINE back"; (case' kr => (intro v9 h9 tk9 hv9 F9 N9; obtain ⟨t9, hw9⟩ := hv9; subst hw9; have hlen9 := GoodT.len (by assumption) (by assumption))))))
local macro_rules | `(tactic| walk_at "exec For Name Name cons nil") => `(tactic| (k_here; (rename Fr _ _ _ _ => lF'); (with_unfolding_all refine' For_invVF lF' ?k1 ?k2 ?_; (case k1 => exact rfl); (case k2 => exact rfl); k_whole)))
local macro_rules | `(tactic| walk_at "pyIter str") => `(tactic| (k_here; (with_reducible show wpAny _ _ (pyIter (Value.str _ _)) (fun it s₂ => LoopAtV _ _ _ _ _ _ _ _ _ it s₂) _ _); k_dflt (refine' text_loop ?ho ?hz ?hg ?F ?N ?hf ?kt ?kd; (case ho => rfl); (case hz => assumption); (case F => k_asm); (case N => k_asm); (case hf => rfl); (case hg => assumption); (case' kt => (intro c9 hc9 u09 u9 acc9 ta9 h9 tk9 own9 hacc9 F9 N9)); (case' kd => (intro u9 ta9 h9 tk9 F9 N9)))))
theorem gT_out {lt br : PySem.Str} {c : Nat} (h : (Builtin.Str.occurrences (plainS ++ lt) ⟨#[c]⟩ 0 (plainS ++ lt).length 1).isEmpty = true) (acc : PySem.Str) : acc ++ lawB c = acc ++ gW lt br true c := by
  show _ = acc ++ ite _ _ _
  rw [if_pos h]
theorem gT_in {lt br : PySem.Str} {c : Nat} (h : (Builtin.Str.occurrences (plainS ++ lt) ⟨#[c]⟩ 0 (plainS ++ lt).length 1).isEmpty = false) (acc : PySem.Str) : acc ++ ⟨#[c]⟩ = acc ++ gW lt br true c := by
  show _ = acc ++ ite _ _ _
  rw [if_neg (by rw [h]; decide)]
theorem gF_out {lt br : PySem.Str} {c : Nat} (h : (Builtin.Str.occurrences br ⟨#[c]⟩ 0 br.length 1).isEmpty = true) (acc : PySem.Str) : acc ++ ⟨#[c]⟩ = acc ++ gW lt br false c := by
  show _ = acc ++ ite _ _ _
  rw [if_pos h]
theorem gF_in {lt br : PySem.Str} {c : Nat} (h : (Builtin.Str.occurrences br ⟨#[c]⟩ 0 br.length 1).isEmpty = false) (acc : PySem.Str) : acc ++ lawB c = acc ++ gW lt br false c := by
  show _ = acc ++ ite _ _ _
  rw [if_neg (by rw [h]; decide)]
set_option maxRecDepth 100000 in
set_option maxHeartbeats 8000000 in
theorem lwT {prog : Program} {w : World} {x lt br : PySem.Str} {t tl tb : Tok} (hx : x.length ≤ 1000) (hl : lt.length ≤ 50) (hgood : GoodT x) (hg : ∀ c ∈ x.cps.toList, (gW lt br true c).length ≤ 9) :
    Gives prog w (Mine.hd.heap_39 w.params) (.ref 238) [.str x t, .str lt tl, .str br tb, .bool true] [] 8 80 (fun r => ∃ t', r = .str (cat (x.cps.toList.map (gW lt br true))) t') := by
  unfold Gives
  intro dp un gd cn cs a ccd cl outer A₀ base h₀ L m news s p loose mean mg mb Q E B F X N T hk hd hu hret
  refine wpAny_call ?_
  walk_at "MINE enter"
  k_steps
  · exact hret _ _ _ ⟨_, rfl⟩ (by assumption) (by assumption)
  all_goals refine w_end (by assumption) (by assumption) rfl ?_ (fun z a b c => by simp only [heldW, if_neg a, if_neg b, if_neg c])
  all_goals first | exact gT_out (by assumption) _ | exact gT_in (by assumption) _ | exact gF_out (by assumption) _ | exact gF_in (by assumption) _
set_option maxRecDepth 100000 in
set_option maxHeartbeats 8000000 in
theorem lwF {prog : Program} {w : World} {x lt br : PySem.Str} {t tl tb : Tok} (hx : x.length ≤ 1000) (hl : lt.length ≤ 50) (hl2 : br.length ≤ 50) (hgood : GoodT x) (hg : ∀ c ∈ x.cps.toList, (gW lt br false c).length ≤ 9) :
    Gives prog w (Mine.hd.heap_39 w.params) (.ref 238) [.str x t, .str lt tl, .str br tb, .bool false] [] 8 80 (fun r => ∃ t', r = .str (cat (x.cps.toList.map (gW lt br false))) t') := by
  unfold Gives
  intro dp un gd cn cs a ccd cl outer A₀ base h₀ L m news s p loose mean mg mb Q E B F X N T hk hd hu hret
  refine wpAny_call ?_
  walk_at "MINE enter"
  k_steps
  · exact hret _ _ _ ⟨_, rfl⟩ (by assumption) (by assumption)
  all_goals refine w_end (by assumption) (by assumption) rfl ?_ (fun z a b c => by simp only [heldW, if_neg a, if_neg b, if_neg c])
  all_goals first | exact gT_out (by assumption) _ | exact gT_in (by assumption) _ | exact gF_out (by assumption) _ | exact gF_in (by assumption) _
end
section
theorem calmLT : True := by w_top off; trivial
local macro_rules | `(tactic| k_room) => `(tactic| ktr_room)
local macro_rules | `(tactic| k_units) => `(tactic| ktr_units)
local macro_rules | `(tactic| walk_at "MINE enterC") => `(tactic| k_dflt (refine' code_defC ?k1 ?k2 ?k3 ?k4 ?k5 ?kA ?kF ?kK ?k6 ?k7 ?k8 ?k9 ?kB ?kD ?_ ?c2 ?c3 ?c4; (case kA => exact rfl); (case kF => exact rfl); (case kK => assumption); (case k1 => k_asm); (case k2 => k_asm); (case k3 => k_asm); (case k4 => k_asm); (case k5 => k_asm); (case k6 => k_is); (case k7 => k_is); (case k8 => ktr_room); (case k9 => first | exact BindsTo.of_eq rfl | exact binds_K (by k_in) rfl (by k_is) rfl rfl rfl); (case kB => exact rfl); (case kD => decide +kernel); (case c2 => exact rfl); (case c3 => exact rfl); (case c4 => exact rfl); k_whole; intro g' L' h' tk' cells' FG' F' N' Y' B' X' T' l1; (try k_lt l1); k_cells Y'; (try simp only [List.cons_append, List.nil_append] at N'); (try dsimp only); (try k_lift B'); (try k_fold)))
abbrev PP : Program := RowW.prog (OpenRow.toRowW (OpenLaw.row PySem.Challenge.rw_fe0140_01))
abbrev signS : PySem.Str := PySem.Str.ofString "aZ09-._~ !$&'()*+,;=:@/?#[]%\"<>^|é€"
def alphaL : List Nat := signS.cps.toList
abbrev AlphaT (y : PySem.Str) : Prop := y.length ≤ 1 ∧ ∀ c ∈ y.cps.toList, c ∈ alphaL
def TextOk (x : PySem.Str) : Prop := x.length ≤ 8 ∧ ∀ c ∈ x.cps.toList, c ∈ alphaL
theorem alpha_items : ∀ n : Nat, n < 35 → AlphaT (Txt.item signS (n : Int)) := by decide +kernel
theorem alpha_item (z : Int) : AlphaT (Txt.item signS (Int.fmod z ((35 : Nat) : Int))) := by
  have h0 := Int.fmod_nonneg_of_pos z (by decide : (0 : Int) < ((35 : Nat) : Int))
  have h1 := Int.fmod_lt_of_pos z (by decide : (0 : Int) < ((35 : Nat) : Int))
  have e : Int.fmod z ((35 : Nat) : Int) = (((Int.fmod z ((35 : Nat) : Int)).toNat : Nat) : Int) := by omega
  rw [e]
  exact alpha_items _ (by omega)
theorem alpha_empty : AlphaT PySem.Str.empty := by decide +kernel
theorem alpha_join {n : Nat} {g : Int → PySem.Str} (h : ∀ a, AlphaT (g a)) (hn : n ≤ 8) : TextOk (Txt.join (PySem.Str.ofString "") ((rangeKs 0 n).map g)) := by
  rw [join_cat]
  refine ⟨?_, fun c hc => ?_⟩
  · have := cat_len (ys := (rangeKs 0 n).map g) (k := 1) (fun y hy => by
      obtain ⟨a, _, rfl⟩ := List.mem_map.mp hy
      exact (h a).1)
    rw [List.length_map, rangeKs_length] at this
    omega
  · unfold cat at hc
    simp only [List.mem_flatMap, List.mem_map] at hc
    obtain ⟨y, ⟨a, _, rfl⟩, hc⟩ := hc
    exact (h a).2 c hc
theorem cnt8 (z : Int) : Int.toNat (1 + Int.fmod z 8 - 0) ≤ 8 := by
  have h0 := Int.fmod_nonneg_of_pos z (by decide : (0 : Int) < 8)
  have h1 := Int.fmod_lt_of_pos z (by decide : (0 : Int) < 8)
  omega
set_option maxRecDepth 100000 in
set_option maxHeartbeats 8000000 in
theorem law_text {w : World} {sc b : Addr} {ob : Obj} {vals : List Value} {ks : List Int} (hI : IntsAre vals ks) (hlen : ¬ ((63 : Nat) : Int) < (ks.length : Int)) (dp un : Nat) (gd : Option (List Code)) (cn : PySem.Str) (cs : Scope) (a : Addr) (ccd : Value) (cl : List (PySem.Str × Addr)) (outer : List Env) (A₀ : Around) (base h₀ : Heap) (L : Addr) (m : PySem.Str → Option Value) (s : Shared)
    (p : Program) (loose : List PySem.Str) (mean : ExcName → Option Value) (mg mb : PySem.Str → Option Value) (Q E : Value → Shared → Prop)
    (hL : base.IsList sc vals.toArray) (B : Below A₀ base outer h₀) (F : Fr h₀ L s.heap m) (X : (Mine.hd.heap_39 w.params).In h₀) (N : News h₀ L s.heap [(b, ob)]) (T : Top p loose mean mg mb h₀) (hk : cs.kind = .function) (hd : dp + 10 < recursionLimit) (hu : un + 100 < cLine)
    (hret : ∀ v h' tk', (∃ x t, v = .str x t ∧ TextOk x) → Fr h₀ L h' m → News h₀ L h' [(b, ob)] → Q v { s with heap := h', toks := tk' }) :
    wpAny (model PP w) (ktrTop dp un gd cn cs L a ccd cl outer) (call (.ref 226) [.ref sc] []) Q E s := by
  refine wpAny_call ?_
  walk_at "MINE enterC"
  k_steps
  all_goals exact hret _ _ _ ⟨_, _, rfl, alpha_join (fun a => by (repeat' split) <;> first | exact alpha_item _ | exact alpha_empty) (cnt8 _)⟩ (by assumption) (by first | assumption | exact news_tail (by assumption) | exact news_tail (news_tail (by assumption)) | exact news_tail (news_tail (news_tail (by assumption))))
end
section
theorem calmPure : True := by w_top off; trivial
section
def encC (S : PySem.Str) (c : Nat) : PySem.Str := cat ((PySem.Str.utf8Of c).map fun a => quoteS S a.toNat)
theorem cat_list (ys : List PySem.Str) : (cat ys).cps.toList = ys.flatMap fun y => y.cps.toList := by simp [cat]
theorem str_ext {x y : PySem.Str} (h : x.cps.toList = y.cps.toList) : x = y := PySem.Str.ext' (Array.toList_inj.mp h)
theorem encMax_cat (S x : PySem.Str) : encMax S x = cat (x.cps.toList.map (encC S)) := by
  refine str_ext ?_
  unfold encMax
  rw [cat_list, cat_list]
  unfold bytesOf encC
  induction x.cps.toList with
  | nil => rfl
  | cons c r ih =>
    simp only [List.flatMap_cons, List.map_append, List.map_cons, List.flatMap_append]
    rw [ih, cat_list]
theorem flatMap_same {α β : Type} {l : List α} {f g : α → List β} (h : ∀ c ∈ l, f c = g c) : l.flatMap f = l.flatMap g := by
  induction l with
  | nil => rfl
  | cons c r ih =>
    rw [List.flatMap_cons, List.flatMap_cons, h c (by simp), ih fun c hc => h c (by simp [hc])]
theorem cat_same {l : List Nat} {f g : Nat → PySem.Str} (h : ∀ c ∈ l, f c = g c) : cat (l.map f) = cat (l.map g) := by
  rw [List.map_congr_left h]
theorem encMax_twice {S x : PySem.Str} (h : ∀ c ∈ x.cps.toList, cat ((encC S c).cps.toList.map (encC S)) = encC S c) : encMax S (encMax S x) = encMax S x := by
  rw [encMax_cat, encMax_cat]
  refine str_ext ?_
  simp only [cat_list, List.map_flatMap, List.flatMap_map, List.flatMap_assoc]
  refine flatMap_same fun c hc => ?_
  have e := congrArg (fun y => y.cps.toList) (h c hc)
  rw [cat_list, List.flatMap_map] at e
  exact e
theorem cat_len3 (l : List Nat) (f : Nat → PySem.Str) (k : Nat) (h : ∀ c ∈ l, (f c).length ≤ k) : (cat (l.map f)).length ≤ l.length * k := by
  have := cat_len (ys := l.map f) (k := k) (fun y hy => by
    obtain ⟨c, hc, rfl⟩ := List.mem_map.mp hy
    exact h c hc)
  rwa [List.length_map] at this
theorem cat_mem {l : List Nat} {f : Nat → PySem.Str} {p : Nat → Prop} (h : ∀ c ∈ l, ∀ d ∈ (f c).cps.toList, p d) : ∀ d ∈ (cat (l.map f)).cps.toList, p d := by
  intro d hd
  rw [cat_list] at hd
  simp only [List.mem_flatMap, List.mem_map] at hd
  obtain ⟨y, ⟨c, hc, rfl⟩, hd⟩ := hd
  exact h c hc d hd

/-- the byte a is written as itself -/
abbrev kept (S : PySem.Str) (a : UInt8) : Bool := !(Builtin.Str.occurrences S ⟨#[a.toNat]⟩ 0 S.length 1).isEmpty
def parse (S : PySem.Str) : List UInt8 → List UInt8 × List (Nat × List UInt8)
  | [] => ([], [])
  | a :: r => if kept S a = true then (a :: (parse S r).1, (parse S r).2) else ([], (a.toNat, (parse S r).1) :: (parse S r).2)
theorem parse_cons (S : PySem.Str) (a : UInt8) (r : List UInt8) : parse S (a :: r) = if kept S a = true then (a :: (parse S r).1, (parse S r).2) else ([], (a.toNat, (parse S r).1) :: (parse S r).2) := rfl
theorem quote_kept {S : PySem.Str} {a : UInt8} (h : kept S a = true) : quoteS S a.toNat = ⟨#[a.toNat]⟩ := by
  unfold quoteS
  simp only [kept, Bool.not_eq_true'] at h
  rw [h]
  rfl
theorem quote_out {S : PySem.Str} {a : UInt8} (h : ¬ kept S a = true) : quoteS S a.toNat = pct a.toNat := by
  unfold quoteS
  simp only [kept, Bool.not_eq_true', Bool.not_eq_false] at h
  rw [h]
  rfl
theorem hexd128 : ∀ d : Nat, d < 16 → hexd d < 128 ∧ hexd d ≠ 37 := by decide +kernel
theorem pct_bytes {n : Nat} (h : n < 256) : bytesOf (pct n).cps.toList = 37 :: Mine.hx n := by
  have h1 := (hexd128 (n / 16) (by omega)).1
  have h2 := (hexd128 (n % 16) (by omega)).1
  show bytesOf [37, hexd (n / 16), hexd (n % 16)] = _
  unfold bytesOf
  simp only [List.flatMap_cons, List.flatMap_nil]
  rw [utf8_ascii h1, utf8_ascii h2, utf8_ascii (by decide)]
  rfl
theorem hx_no37 : ∀ n : Nat, n < 256 → ∀ c ∈ Mine.hx n, c ≠ 37 := by decide +kernel
theorem byte_lt (a : UInt8) : a.toNat < 256 := a.toNat_lt
theorem one_bytes {a : UInt8} (h : a.toNat < 128) : bytesOf [a.toNat] = [a] := by
  unfold bytesOf
  simp only [List.flatMap_cons, List.flatMap_nil, List.append_nil]
  rw [utf8_ascii h]
  simp
/-- what must hold of a byte -/
abbrev ByteOk (S D : PySem.Str) (ap : Bool) (a : UInt8) : Prop :=
  (kept S a = true → a.toNat < 128 ∧ a ≠ 37) ∧ (¬ kept S a = true → (Builtin.Str.occurrences D ⟨#[a.toNat]⟩ 0 D.length 1).isEmpty = true ∧ (ap = true ∨ a.toNat ≠ 37))
theorem flat_cons (a : List UInt8) (b : List (List UInt8)) : flat (a :: b) = 37 :: (a ++ flat b) := by simp [flat]
theorem parse_bytes {S D : PySem.Str} {ap : Bool} {bs : List UInt8} (h : ∀ a ∈ bs, ByteOk S D ap a) :
    bytesOf (cat (bs.map fun a => quoteS S a.toNat)).cps.toList = (parse S bs).1 ++ flat (chunks (parse S bs).2) := by
  induction bs with
  | nil => rfl
  | cons a r ih =>
    have ih := ih fun a ha => h a (by simp [ha])
    have h1 := h a (by simp)
    have e : (cat ((a :: r).map fun a => quoteS S a.toNat)).cps.toList = (quoteS S a.toNat).cps.toList ++ (cat (r.map fun a => quoteS S a.toNat)).cps.toList := by
      rw [cat_list, cat_list]
      simp
    rw [e, bytesOf_app, ih]
    rw [parse_cons]
    by_cases hk : kept S a = true
    · rw [if_pos hk, quote_kept hk]
      show bytesOf [a.toNat] ++ _ = _
      rw [one_bytes (h1.1 hk).1]
      rfl
    · rw [if_neg hk, quote_out hk, pct_bytes (byte_lt a)]
      simp [chunks, flat_cons, List.append_assoc]
theorem parse_clean {S D : PySem.Str} {ap : Bool} {bs : List UInt8} (h : ∀ a ∈ bs, ByteOk S D ap a) :
    (∀ c ∈ (parse S bs).1, c ≠ 37) ∧ (∀ p ∈ (parse S bs).2, p.1 < 256 ∧ (Builtin.Str.occurrences D ⟨#[p.1]⟩ 0 D.length 1).isEmpty = true ∧ (ap = true ∨ p.1 ≠ 37) ∧ ∀ c ∈ p.2, c ≠ 37) := by
  induction bs with
  | nil => exact ⟨fun _ h => (by cases h), fun _ h => (by cases h)⟩
  | cons a r ih =>
    obtain ⟨i1, i2⟩ := ih fun a ha => h a (by simp [ha])
    have h1 := h a (by simp)
    rw [parse_cons]
    by_cases hk : kept S a = true
    · rw [if_pos hk]
      refine ⟨fun c hc => ?_, i2⟩
      rcases List.mem_cons.mp hc with rfl | hc
      · exact (h1.1 hk).2
      · exact i1 c hc
    · rw [if_neg hk]
      refine ⟨fun _ h => (by cases h), fun p hp => ?_⟩
      rcases List.mem_cons.mp hp with rfl | hp
      · exact ⟨byte_lt a, (h1.2 hk).1, (h1.2 hk).2, i1⟩
      · exact i2 p hp
theorem parse_res (S : PySem.Str) (bs : List UInt8) : (resAt (parse S bs).1 (parse S bs).2).flatten = bs := by
  unfold resAt
  induction bs with
  | nil => rfl
  | cons a r ih =>
    rw [parse_cons]
    by_cases hk : kept S a = true
    · rw [if_pos hk]
      simp only [List.flatten_cons, List.cons_append] at ih ⊢
      rw [ih]
    · rw [if_neg hk]
      simp only [List.flatten_cons, List.flatMap_cons, List.flatten_append, List.flatten_nil, List.nil_append] at ih ⊢
      have e : [a.toNat.toUInt8] ++ ((parse S r).1 ++ List.flatten (List.flatMap (fun p => [[Nat.toUInt8 (Prod.fst p)], Prod.snd p]) (Prod.snd (parse S r)))) = a :: r := by
        rw [ih]
        simp
      simpa [List.append_assoc] using e
theorem parse_nil {S : PySem.Str} {bs : List UInt8} (h : (parse S bs).2 = []) : ∀ a ∈ bs, kept S a = true := by
  induction bs with
  | nil => exact fun _ h => (by cases h)
  | cons a r ih =>
    rw [parse_cons] at h
    by_cases hk : kept S a = true
    · rw [if_pos hk] at h
      intro b hb
      rcases List.mem_cons.mp hb with rfl | hb
      · exact hk
      · exact ih h b hb
    · rw [if_neg hk] at h
      cases h
/-- what must hold of a sign -/
abbrev SignOk (S D : PySem.Str) (ap : Bool) (c : Nat) : Prop :=
  (∀ a ∈ PySem.Str.utf8Of c, ByteOk S D ap a) ∧ ((∀ a ∈ PySem.Str.utf8Of c, kept S a = true) → encC S c = ⟨#[c]⟩) ∧ (c < 128 ∨ c = 233 ∨ c = 8364)
theorem cat_ones (l : List Nat) : cat (l.map fun c => (⟨#[c]⟩ : PySem.Str)) = ⟨l.toArray⟩ := by
  refine str_ext ?_
  rw [cat_list]
  induction l with
  | nil => rfl
  | cons c r ih => simp_all
theorem decOk_of {S D : PySem.Str} {ap : Bool} {y : PySem.Str} (hy : y.length ≤ 8) (h : ∀ c ∈ y.cps.toList, SignOk S D ap c) : DecOk D ap (encMax S y) y.cps.toList := by
  have hlen : y.cps.toList.length = y.length := by simp [PySem.Str.length]
  have hb : ∀ a ∈ bytesOf y.cps.toList, ByteOk S D ap a := by
    intro a ha
    obtain ⟨c, hc, ha⟩ := List.mem_flatMap.mp ha
    exact (h c hc).1 a ha
  have hbl := bytesOf_len y.cps.toList
  have hx : (encMax S y).length ≤ 1000 := by
    have := cat_len (ys := (bytesOf y.cps.toList).map fun a => quoteS S a.toNat) (k := 3) (fun z hz => by
      obtain ⟨a, _, rfl⟩ := List.mem_map.mp hz
      exact quote_len _ _)
    rw [List.length_map] at this
    unfold encMax
    omega
  have hcl : ∀ d ∈ (encMax S y).cps.toList, d < 128 := by
    intro d hd
    unfold encMax at hd
    rw [cat_list] at hd
    simp only [List.mem_flatMap, List.mem_map] at hd
    obtain ⟨z, ⟨a, ha, rfl⟩, hd⟩ := hd
    by_cases hk : kept S a = true
    · rw [quote_kept hk] at hd
      rw [List.mem_singleton.mp hd]
      exact ((hb a ha).1 hk).1
    · rw [quote_out hk] at hd
      have hl := byte_lt a
      have h1 := (hexd128 (a.toNat / 16) (by omega)).1
      have h2 := (hexd128 (a.toNat % 16) (by omega)).1
      rcases List.mem_cons.mp hd with rfl | hd
      · decide
      rcases List.mem_cons.mp hd with rfl | hd
      · exact h1
      · rw [List.mem_singleton.mp hd]
        exact h2
  have hxb := bytesOf_len (encMax S y).cps.toList
  have hxl : (encMax S y).cps.toList.length = (encMax S y).length := by simp [PySem.Str.length]
  have hpb : bytesOf (encMax S y).cps.toList = (parse S (bytesOf y.cps.toList)).1 ++ flat (chunks (parse S (bytesOf y.cps.toList)).2) := parse_bytes hb
  obtain ⟨c1, c2⟩ := parse_clean hb
  have hr := parse_res S (bytesOf y.cps.toList)
  have hn := parse_nil (S := S) (bs := bytesOf y.cps.toList)
  refine ⟨hx, fun c hc => ?_, by omega, (parse S (bytesOf y.cps.toList)).1, c1, ?_⟩
  · have := hcl c hc
    unfold PySem.Str.isSurrogate
    simp
    omega
  generalize (parse S (bytesOf y.cps.toList)).1 = hd at *
  generalize hits : (parse S (bytesOf y.cps.toList)).2 = its at *
  cases its with
  | nil =>
    refine .inl ⟨hpb, ?_⟩
    have hn := hn rfl
    rw [encMax_cat, cat_same (g := fun c => ⟨#[c]⟩) fun c hc => (h c hc).2.1 fun a ha => hn a (List.mem_flatMap.mpr ⟨c, hc, ha⟩), cat_ones]
  | cons p its =>
    refine .inr ⟨p.1, p.2, its, hpb, ?_, ?_, ?_, hr, by omega, fun c hc => (h c hc).2.2, by omega, ?_⟩
    · intro ch hch c hc
      have : ch ∈ chunks (p :: its) := hch
      obtain ⟨q, hq, rfl⟩ := List.mem_map.mp this
      rcases List.mem_append.mp hc with hc | hc
      · exact hx_no37 _ (c2 q hq).1 c hc
      · exact (c2 q hq).2.2.2 c hc
    · intro n r hnr
      refine ⟨(c2 _ hnr).1, (c2 _ hnr).2.1, (c2 _ hnr).2.2.1, ?_⟩
      have := flat_mem (l := Mine.hx n ++ r) (chs := chunks (p :: its)) (List.mem_map.mpr ⟨_, hnr, rfl⟩)
      rw [hpb, List.length_append] at hxb
      omega
    · have := flat_count (chunks (p :: its))
      rw [hpb, List.length_append] at hxb
      have e : (chunks (p :: its)).length = (p :: its).length := by simp [chunks]
      show (p :: its).length ≤ 8000
      omega
    · intro e
      rw [e] at hr
      have e2 := congrArg List.length hr
      simp [resAt, bytesOf] at e2
end
end
section
theorem calmRows0 : True := by w_top off; trivial
def inBare (D : PySem.Str) (c : Nat) : Bool := (c != 37) && (Builtin.Str.occurrences D ⟨#[c]⟩ 0 D.length 1).isEmpty
def bare (D x : PySem.Str) : PySem.Str := ⟨(x.cps.toList.filter (inBare D)).toArray⟩
def struck (x : PySem.Str) : PySem.Str := ⟨(x.cps.toList.filter (· != 37)).toArray⟩
def inL (l : List Nat) (n : Nat) : Bool := l.any (Nat.beq n)
theorem inL_eq (l : List Nat) (n : Nat) : inL l n = decide (n ∈ l) := by
  unfold inL
  induction l with
  | nil => simp
  | cons a r ih =>
    rw [List.any_cons, ih, Bool.eq_iff_iff]
    simp [Nat.beq_eq]
theorem occ_in (D : PySem.Str) (c : Nat) : (Builtin.Str.occurrences D ⟨#[c]⟩ 0 D.length 1).isEmpty = !(inL D.cps.toList c) := by
  rw [inL_eq, ← PySem.StrLaws.found_one D c, Bool.not_not]
def pctL (n : Nat) : List Nat := [37, hexd (n / 16), hexd (n % 16)]
def quoteL (S : List Nat) (n : Nat) : List Nat := if inL S n = true then [n] else pctL n
theorem quote_L (S : PySem.Str) (n : Nat) : (quoteS S n).cps.toList = quoteL S.cps.toList n := by
  unfold quoteS quoteL
  rw [occ_in]
  cases inL S.cps.toList n <;> rfl
def bytesL (c : Nat) : List Nat := (PySem.Str.utf8Of c).map UInt8.toNat
theorem enc_L (S : PySem.Str) (c : Nat) : (encC S c).cps.toList = (bytesL c).flatMap (quoteL S.cps.toList) := by
  unfold encC bytesL
  rw [cat_list, List.flatMap_map, List.flatMap_map]
  exact flatMap_same fun a _ => quote_L S a.toNat
theorem law_L (c : Nat) : (lawB c).cps.toList = (bytesL c).flatMap pctL := by
  unfold lawB bytesL
  rw [cat_list, List.flatMap_map, List.flatMap_map]
  rfl
theorem gT_L (lt D : PySem.Str) (c : Nat) : (gW lt D true c).cps.toList = if inL (plainS ++ lt).cps.toList c = true then [c] else (bytesL c).flatMap pctL := by
  show (ite _ _ _ : PySem.Str).cps.toList = _
  rw [occ_in, ← law_L]
  cases inL (plainS ++ lt).cps.toList c <;> rfl
theorem gF_L (lt D : PySem.Str) (c : Nat) : (gW lt D false c).cps.toList = if inL D.cps.toList c = true then (bytesL c).flatMap pctL else [c] := by
  show (ite _ _ _ : PySem.Str).cps.toList = _
  rw [occ_in, ← law_L]
  cases inL D.cps.toList c <;> rfl
theorem delim_L (S D : PySem.Str) (c : Nat) : (delimS S D c).cps.toList = if inL D.cps.toList c = true then quoteL S.cps.toList c else [c] := by
  unfold delimS
  rw [occ_in, ← quote_L]
  cases inL D.cps.toList c <;> rfl
def signL (S D : List Nat) (ap : Bool) (c : Nat) (bs : List Nat) : Bool :=
  bs.all (fun a => if inL S a = true then Nat.blt a 128 && !(Nat.beq a 37) else !(inL D a) && (ap || !(Nat.beq a 37))) && (!(bs.all (inL S)) || (bs.flatMap (quoteL S) == [c]))
def wholeL (S pl : List Nat) (c : Nat) (bs : List Nat) : Bool := bs.flatMap (quoteL S) == (if inL pl c = true then [c] else bs.flatMap pctL)
def leastL (S D : List Nat) (c : Nat) (bs : List Nat) : Bool := (if inL D c = true then quoteL S c else [c]) == (if inL D c = true then bs.flatMap pctL else [c])
def againL (S : List Nat) (bs : List Nat) : Bool := (bs.flatMap (quoteL S)).all (fun d => Nat.blt d 128) && ((bs.flatMap (quoteL S)).flatMap (quoteL S) == bs.flatMap (quoteL S))
abbrev alphaB : List (Nat × List Nat) := [(97, [97]), (90, [90]), (48, [48]), (57, [57]), (45, [45]), (46, [46]), (95, [95]), (126, [126]), (32, [32]), (33, [33]), (36, [36]), (38, [38]), (39, [39]), (40, [40]), (41, [41]), (42, [42]), (43, [43]), (44, [44]), (59, [59]), (61, [61]), (58, [58]), (64, [64]), (47, [47]), (63, [63]), (35, [35]), (91, [91]), (93, [93]), (37, [37]), (34, [34]), (60, [60]), (62, [62]), (94, [94]), (124, [124]), (233, [195, 169]), (8364, [226, 130, 172])]
theorem alphaB_ok : alphaL.map (fun c => (c, bytesL c)) = alphaB := by decide +kernel
theorem by_alpha {p : Nat → List Nat → Bool} (h : alphaB.all (fun q => p q.1 q.2) = true) : ∀ c ∈ alphaL, p c (bytesL c) = true := by
  intro c hc
  refine List.all_eq_true.mp h (c, bytesL c) ?_
  rw [← alphaB_ok]
  exact List.mem_map.mpr ⟨c, hc, rfl⟩
theorem alphaGood : ∀ c ∈ alphaL, Good c := fun c hc => by
  have := by_alpha (p := fun c _ => Nat.blt c 128 || Nat.beq c 233 || Nat.beq c 8364) (by decide +kernel) c hc
  simp only [Bool.or_eq_true, Nat.blt_eq, Nat.beq_eq] at this
  unfold Good
  omega
theorem bytes_lo {d : Nat} (h : d < 128) : bytesL d = [d] := by
  unfold bytesL
  rw [utf8_ascii h]
  simp only [List.map_cons, List.map_nil]
  congr 1
  show d.toUInt8.toNat = d
  simp
  omega
theorem whole_of {S lt D : PySem.Str} {sl pl : List Nat} (hs : S.cps.toList = sl) (hp : (plainS ++ lt).cps.toList = pl) (h : alphaB.all (fun q => wholeL sl pl q.1 q.2) = true) : ∀ c ∈ alphaL, encC S c = gW lt D true c := by
  intro c hc
  refine str_ext ?_
  rw [enc_L, gT_L, hs, hp]
  exact eq_of_beq (by_alpha (p := wholeL sl pl) h c hc)
theorem least_of {S lt D : PySem.Str} {sl dl : List Nat} (hs : S.cps.toList = sl) (hd : D.cps.toList = dl) (h : alphaB.all (fun q => leastL sl dl q.1 q.2) = true) : ∀ c ∈ alphaL, delimS S D c = gW lt D false c := by
  intro c hc
  refine str_ext ?_
  rw [delim_L, gF_L, hs, hd]
  exact eq_of_beq (by_alpha (p := leastL sl dl) h c hc)
theorem again_of {S : PySem.Str} {sl : List Nat} (hs : S.cps.toList = sl) (h : alphaB.all (fun q => againL sl q.2) = true) : ∀ c ∈ alphaL, cat ((encC S c).cps.toList.map (encC S)) = encC S c := by
  intro c hc
  have := by_alpha (p := fun _ b => againL sl b) h c hc
  simp only [againL, Bool.and_eq_true, List.all_eq_true, Nat.blt_eq] at this
  obtain ⟨h1, h2⟩ := this
  refine str_ext ?_
  rw [cat_list, List.flatMap_map, enc_L, hs]
  refine Eq.trans (flatMap_same fun d hd => ?_) (eq_of_beq h2)
  rw [enc_L, bytes_lo (h1 d hd), hs]
  simp
theorem sign_of {S D : PySem.Str} {ap : Bool} {sl dl : List Nat} (hs : S.cps.toList = sl) (hd : D.cps.toList = dl) {c : Nat} (hg : Good c) (h : signL sl dl ap c (bytesL c) = true) : SignOk S D ap c := by
  simp only [signL, Bool.and_eq_true, List.all_eq_true] at h
  obtain ⟨h1, h2⟩ := h
  refine ⟨fun a ha => ?_, fun hk => ?_, hg⟩
  · have h1 := h1 a.toNat (List.mem_map.mpr ⟨a, ha, rfl⟩)
    have hk : kept S a = inL sl a.toNat := by
      show (!List.isEmpty _) = _
      rw [occ_in, Bool.not_not, hs]
    refine ⟨fun e => ?_, fun e => ?_⟩
    · rw [hk] at e
      rw [if_pos e] at h1
      simp only [Bool.and_eq_true, Nat.blt_eq, Bool.not_eq_true', beq_eq_false_iff_ne] at h1
      refine ⟨h1.1, fun e2 => ?_⟩
      have := h1.2
      rw [e2] at this
      exact absurd this (by decide)
    · rw [hk] at e
      rw [if_neg e] at h1
      simp only [Bool.and_eq_true, Bool.or_eq_true, Bool.not_eq_true'] at h1
      refine ⟨by rw [occ_in, hd, h1.1]; rfl, h1.2.imp id fun e2 e3 => ?_⟩
      rw [e3] at e2
      exact absurd e2 (by decide)
  · refine str_ext ?_
    rw [enc_L, hs]
    have h3 : ((bytesL c).all (inL sl)) = true := by
      refine List.all_eq_true.mpr fun b hb => ?_
      obtain ⟨a, ha, rfl⟩ := List.mem_map.mp hb
      have := hk a ha
      simp only [kept, occ_in, Bool.not_not, hs] at this
      exact this
    rw [h3] at h2
    exact eq_of_beq (by simpa using h2)
theorem bare_of {S D D2 : PySem.Str} {sl dl dl2 : List Nat} (hs : S.cps.toList = sl) (hd : D.cps.toList = dl) (hd2 : D2.cps.toList = dl2) (h : alphaB.all (fun q => Nat.beq q.1 37 || inL dl q.1 || signL sl dl2 false q.1 q.2) = true) :
    ∀ c ∈ alphaL, inBare D c = true → SignOk S D2 false c := by
  intro c hc hb
  have h1 := by_alpha (p := fun c b => Nat.beq c 37 || inL dl c || signL sl dl2 false c b) h c hc
  unfold inBare at hb
  rw [occ_in, hd] at hb
  simp only [Bool.and_eq_true, bne_iff_ne, Bool.not_eq_true'] at hb
  simp only [Bool.or_eq_true, Nat.beq_eq, hb.1, hb.2, Bool.false_eq_true, false_or] at h1
  exact sign_of hs hd2 (alphaGood c hc) h1
theorem struck_of {S D : PySem.Str} {sl : List Nat} (hs : S.cps.toList = sl) (hd : D.cps.toList = []) (h : alphaB.all (fun q => Nat.beq q.1 37 || signL sl [] true q.1 q.2) = true) :
    ∀ c ∈ alphaL, (c != 37) = true → SignOk S D true c := by
  intro c hc hb
  have h1 := by_alpha (p := fun c b => Nat.beq c 37 || signL sl [] true c b) h c hc
  simp only [bne_iff_ne] at hb
  simp only [Bool.or_eq_true, Nat.beq_eq, hb, false_or] at h1
  exact sign_of hs hd (alphaGood c hc) h1
theorem nil_l : (PySem.Str.ofString "").cps.toList = [] := by decide +kernel
theorem dU_l : dU.cps.toList = [58, 47, 63, 35, 91, 93, 64] := by decide +kernel
theorem dP_l : dP.cps.toList = [47, 63, 35, 91, 93] := by decide +kernel
theorem dL_l : dL.cps.toList = [58, 47, 63, 35, 91, 93] := by decide +kernel
theorem dK_l : dK.cps.toList = [35, 91, 93, 38, 61] := by decide +kernel
theorem dV_l : dV.cps.toList = [35, 91, 93, 38] := by decide +kernel
theorem dF_l : dF.cps.toList = [35, 91, 93] := by decide +kernel
theorem sU_l : sU.cps.toList = [126, 45, 46, 95, 48, 49, 50, 51, 52, 53, 54, 55, 56, 57, 65, 66, 67, 68, 69, 70, 71, 72, 73, 74, 75, 76, 77, 78, 79, 80, 81, 82, 83, 84, 85, 86, 87, 88, 89, 90, 97, 98, 99, 100, 101, 102, 103, 104, 105, 106, 107, 108, 109, 110, 111, 112, 113, 114, 115, 116, 117, 118, 119, 120, 121, 122, 33, 36, 38, 39, 40, 41, 42, 43, 44, 59, 61, 37] := by decide +kernel
theorem sP_l : sP.cps.toList = [126, 45, 46, 95, 48, 49, 50, 51, 52, 53, 54, 55, 56, 57, 65, 66, 67, 68, 69, 70, 71, 72, 73, 74, 75, 76, 77, 78, 79, 80, 81, 82, 83, 84, 85, 86, 87, 88, 89, 90, 97, 98, 99, 100, 101, 102, 103, 104, 105, 106, 107, 108, 109, 110, 111, 112, 113, 114, 115, 116, 117, 118, 119, 120, 121, 122, 33, 36, 38, 39, 40, 41, 42, 43, 44, 59, 61, 37, 58, 64] := by decide +kernel
theorem sL_l : sL.cps.toList = [126, 45, 46, 95, 48, 49, 50, 51, 52, 53, 54, 55, 56, 57, 65, 66, 67, 68, 69, 70, 71, 72, 73, 74, 75, 76, 77, 78, 79, 80, 81, 82, 83, 84, 85, 86, 87, 88, 89, 90, 97, 98, 99, 100, 101, 102, 103, 104, 105, 106, 107, 108, 109, 110, 111, 112, 113, 114, 115, 116, 117, 118, 119, 120, 121, 122, 33, 36, 38, 39, 40, 41, 42, 43, 44, 59, 61, 37, 64] := by decide +kernel
theorem sK_l : sK.cps.toList = [126, 45, 46, 95, 48, 49, 50, 51, 52, 53, 54, 55, 56, 57, 65, 66, 67, 68, 69, 70, 71, 72, 73, 74, 75, 76, 77, 78, 79, 80, 81, 82, 83, 84, 85, 86, 87, 88, 89, 90, 97, 98, 99, 100, 101, 102, 103, 104, 105, 106, 107, 108, 109, 110, 111, 112, 113, 114, 115, 116, 117, 118, 119, 120, 121, 122, 33, 36, 39, 40, 41, 42, 43, 44, 59, 37, 58, 64, 47, 63] := by decide +kernel
theorem sV_l : sV.cps.toList = [126, 45, 46, 95, 48, 49, 50, 51, 52, 53, 54, 55, 56, 57, 65, 66, 67, 68, 69, 70, 71, 72, 73, 74, 75, 76, 77, 78, 79, 80, 81, 82, 83, 84, 85, 86, 87, 88, 89, 90, 97, 98, 99, 100, 101, 102, 103, 104, 105, 106, 107, 108, 109, 110, 111, 112, 113, 114, 115, 116, 117, 118, 119, 120, 121, 122, 33, 36, 39, 40, 41, 42, 43, 44, 59, 61, 37, 58, 64, 47, 63] := by decide +kernel
theorem sF_l : sF.cps.toList = [126, 45, 46, 95, 48, 49, 50, 51, 52, 53, 54, 55, 56, 57, 65, 66, 67, 68, 69, 70, 71, 72, 73, 74, 75, 76, 77, 78, 79, 80, 81, 82, 83, 84, 85, 86, 87, 88, 89, 90, 97, 98, 99, 100, 101, 102, 103, 104, 105, 106, 107, 108, 109, 110, 111, 112, 113, 114, 115, 116, 117, 118, 119, 120, 121, 122, 33, 36, 38, 39, 40, 41, 42, 43, 44, 59, 61, 37, 58, 64, 47, 63] := by decide +kernel
theorem sR_l : sR.cps.toList = [126, 45, 46, 95, 48, 49, 50, 51, 52, 53, 54, 55, 56, 57, 65, 66, 67, 68, 69, 70, 71, 72, 73, 74, 75, 76, 77, 78, 79, 80, 81, 82, 83, 84, 85, 86, 87, 88, 89, 90, 97, 98, 99, 100, 101, 102, 103, 104, 105, 106, 107, 108, 109, 110, 111, 112, 113, 114, 115, 116, 117, 118, 119, 120, 121, 122] := by decide +kernel
abbrev ltU : PySem.Str := PySem.Str.ofString "!$&'()*+,;=%"
theorem ltU_l : (plainS ++ ltU).cps.toList = [97, 90, 48, 57, 45, 46, 95, 126, 33, 36, 38, 39, 40, 41, 42, 43, 44, 59, 61, 37] := by decide +kernel
theorem w0U : ∀ c ∈ alphaL, encC sU c = gW ltU dU true c := whole_of sU_l ltU_l (by decide +kernel)
theorem l0U : ∀ c ∈ alphaL, delimS sU dU c = gW ltU dU false c := least_of sU_l dU_l (by decide +kernel)
theorem a0U : ∀ c ∈ alphaL, cat ((encC sU c).cps.toList.map (encC sU)) = encC sU c := again_of sU_l (by decide +kernel)
theorem b0U : ∀ c ∈ alphaL, inBare dU c = true → SignOk sU dU false c := bare_of sU_l dU_l dU_l (by decide +kernel)
theorem p0U : ∀ c ∈ alphaL, (c != 37) = true → SignOk sU (PySem.Str.ofString "") true c := struck_of sU_l nil_l (by decide +kernel)
abbrev ltP : PySem.Str := PySem.Str.ofString "!$&'()*+,;=%:@"
theorem ltP_l : (plainS ++ ltP).cps.toList = [97, 90, 48, 57, 45, 46, 95, 126, 33, 36, 38, 39, 40, 41, 42, 43, 44, 59, 61, 37, 58, 64] := by decide +kernel
theorem w0P : ∀ c ∈ alphaL, encC sP c = gW ltP dP true c := whole_of sP_l ltP_l (by decide +kernel)
theorem l0P : ∀ c ∈ alphaL, delimS sP dP c = gW ltP dP false c := least_of sP_l dP_l (by decide +kernel)
theorem a0P : ∀ c ∈ alphaL, cat ((encC sP c).cps.toList.map (encC sP)) = encC sP c := again_of sP_l (by decide +kernel)
theorem b0P : ∀ c ∈ alphaL, inBare dP c = true → SignOk sP dP false c := bare_of sP_l dP_l dP_l (by decide +kernel)
theorem p0P : ∀ c ∈ alphaL, (c != 37) = true → SignOk sP (PySem.Str.ofString "") true c := struck_of sP_l nil_l (by decide +kernel)
abbrev ltL : PySem.Str := PySem.Str.ofString "!$&'()*+,;=%@"
theorem ltL_l : (plainS ++ ltL).cps.toList = [97, 90, 48, 57, 45, 46, 95, 126, 33, 36, 38, 39, 40, 41, 42, 43, 44, 59, 61, 37, 64] := by decide +kernel
theorem w0L : ∀ c ∈ alphaL, encC sL c = gW ltL dL true c := whole_of sL_l ltL_l (by decide +kernel)
theorem l0L : ∀ c ∈ alphaL, delimS sL dL c = gW ltL dL false c := least_of sL_l dL_l (by decide +kernel)
theorem a0L : ∀ c ∈ alphaL, cat ((encC sL c).cps.toList.map (encC sL)) = encC sL c := again_of sL_l (by decide +kernel)
theorem b0L : ∀ c ∈ alphaL, inBare dL c = true → SignOk sL dP false c := bare_of sL_l dL_l dP_l (by decide +kernel)
theorem p0L : ∀ c ∈ alphaL, (c != 37) = true → SignOk sL (PySem.Str.ofString "") true c := struck_of sL_l nil_l (by decide +kernel)
abbrev ltK : PySem.Str := PySem.Str.ofString "!$'()*+,;%:@/?"
theorem ltK_l : (plainS ++ ltK).cps.toList = [97, 90, 48, 57, 45, 46, 95, 126, 33, 36, 39, 40, 41, 42, 43, 44, 59, 37, 58, 64, 47, 63] := by decide +kernel
theorem w0K : ∀ c ∈ alphaL, encC sK c = gW ltK dK true c := whole_of sK_l ltK_l (by decide +kernel)
theorem l0K : ∀ c ∈ alphaL, delimS sK dK c = gW ltK dK false c := least_of sK_l dK_l (by decide +kernel)
theorem a0K : ∀ c ∈ alphaL, cat ((encC sK c).cps.toList.map (encC sK)) = encC sK c := again_of sK_l (by decide +kernel)
theorem b0K : ∀ c ∈ alphaL, inBare dK c = true → SignOk sK dK false c := bare_of sK_l dK_l dK_l (by decide +kernel)
theorem p0K : ∀ c ∈ alphaL, (c != 37) = true → SignOk sK (PySem.Str.ofString "") true c := struck_of sK_l nil_l (by decide +kernel)
abbrev ltV : PySem.Str := PySem.Str.ofString "!$'()*+,;=%:@/?"
theorem ltV_l : (plainS ++ ltV).cps.toList = [97, 90, 48, 57, 45, 46, 95, 126, 33, 36, 39, 40, 41, 42, 43, 44, 59, 61, 37, 58, 64, 47, 63] := by decide +kernel
theorem w0V : ∀ c ∈ alphaL, encC sV c = gW ltV dV true c := whole_of sV_l ltV_l (by decide +kernel)
theorem l0V : ∀ c ∈ alphaL, delimS sV dV c = gW ltV dV false c := least_of sV_l dV_l (by decide +kernel)
theorem a0V : ∀ c ∈ alphaL, cat ((encC sV c).cps.toList.map (encC sV)) = encC sV c := again_of sV_l (by decide +kernel)
theorem b0V : ∀ c ∈ alphaL, inBare dV c = true → SignOk sV dV false c := bare_of sV_l dV_l dV_l (by decide +kernel)
theorem p0V : ∀ c ∈ alphaL, (c != 37) = true → SignOk sV (PySem.Str.ofString "") true c := struck_of sV_l nil_l (by decide +kernel)
abbrev ltF : PySem.Str := PySem.Str.ofString "!$&'()*+,;=%:@/?"
theorem ltF_l : (plainS ++ ltF).cps.toList = [97, 90, 48, 57, 45, 46, 95, 126, 33, 36, 38, 39, 40, 41, 42, 43, 44, 59, 61, 37, 58, 64, 47, 63] := by decide +kernel
theorem w0F : ∀ c ∈ alphaL, encC sF c = gW ltF dF true c := whole_of sF_l ltF_l (by decide +kernel)
theorem l0F : ∀ c ∈ alphaL, delimS sF dF c = gW ltF dF false c := least_of sF_l dF_l (by decide +kernel)
theorem a0F : ∀ c ∈ alphaL, cat ((encC sF c).cps.toList.map (encC sF)) = encC sF c := again_of sF_l (by decide +kernel)
theorem b0F : ∀ c ∈ alphaL, inBare dF c = true → SignOk sF dF false c := bare_of sF_l dF_l dF_l (by decide +kernel)
theorem p0F : ∀ c ∈ alphaL, (c != 37) = true → SignOk sF (PySem.Str.ofString "") true c := struck_of sF_l nil_l (by decide +kernel)
theorem ltR_l : (plainS ++ PySem.Str.ofString "").cps.toList = [97, 90, 48, 57, 45, 46, 95, 126] := by decide +kernel
theorem w0R : ∀ c ∈ alphaL, encC sR c = gW (PySem.Str.ofString "") (PySem.Str.ofString "") true c := whole_of sR_l ltR_l (by decide +kernel)
theorem d0R : ∀ c ∈ alphaL, SignOk sR (PySem.Str.ofString "") true c := fun c hc => sign_of sR_l nil_l (alphaGood c hc) (by_alpha (p := signL [126, 45, 46, 95, 48, 49, 50, 51, 52, 53, 54, 55, 56, 57, 65, 66, 67, 68, 69, 70, 71, 72, 73, 74, 75, 76, 77, 78, 79, 80, 81, 82, 83, 84, 85, 86, 87, 88, 89, 90, 97, 98, 99, 100, 101, 102, 103, 104, 105, 106, 107, 108, 109, 110, 111, 112, 113, 114, 115, 116, 117, 118, 119, 120, 121, 122] [] true) (by decide +kernel) c hc)
end
section
theorem calmCtx : True := by w_top off; trivial
def EncTo (S x y : PySem.Str) : Prop := x.length ≤ 1000 ∧ Clean x ∧ encMax S x = y
def LeastTo (S D x y : PySem.Str) : Prop := x.length ≤ 1000 ∧ encMin S D x = y
def DecTo (D : PySem.Str) (ap : Bool) (x y : PySem.Str) : Prop := ∃ l, DecOk D ap x l ∧ y = ⟨l.toArray⟩
theorem good_clean {x : PySem.Str} (h : GoodT x) : Clean x := by
  intro c hc
  have := h c hc
  unfold Good at this
  unfold PySem.Str.isSurrogate
  simp
  omega
theorem TextOk.good {x : PySem.Str} (h : TextOk x) : GoodT x := fun c hc => alphaGood c (h.2 c hc)
theorem TextOk.small {x : PySem.Str} (h : TextOk x) : x.length ≤ 1000 := Nat.le_trans h.1 (by decide)
theorem TextOk.gw {x lt br : PySem.Str} {wh : Bool} (h : TextOk x) : ∀ c ∈ x.cps.toList, (gW lt br wh c).length ≤ 9 := fun c hc => gW_len (h.good c hc)
def written (lt br : PySem.Str) (wh : Bool) (x : PySem.Str) : PySem.Str := cat (x.cps.toList.map (gW lt br wh))
theorem flen (x : PySem.Str) (p : Nat → Bool) : (⟨(x.cps.toList.filter p).toArray⟩ : PySem.Str).length ≤ x.length := by
  show (x.cps.toList.filter p).toArray.size ≤ x.cps.size
  rw [List.size_toArray, ← Array.length_toList]
  exact List.length_filter_le ..
theorem fsub {x : PySem.Str} (h : TextOk x) (p : Nat → Bool) : TextOk ⟨(x.cps.toList.filter p).toArray⟩ :=
  ⟨Nat.le_trans (flen x p) h.1, fun c hc => h.2 c (List.mem_filter.mp hc).1⟩
theorem enc_self {S x : PySem.Str} (h : TextOk x) : EncTo S x (encMax S x) := ⟨h.small, good_clean h.good, rfl⟩
theorem dec_self {S D : PySem.Str} {ap : Bool} {y : PySem.Str} (h : TextOk y) (hs : ∀ c ∈ y.cps.toList, SignOk S D ap c) : DecTo D ap (encMax S y) y := ⟨_, decOk_of h.1 hs, rfl⟩
theorem gw_good : ∀ {lt br : PySem.Str} {wh : Bool} {c : Nat}, Good c → ∀ d ∈ (gW lt br wh c).cps.toList, Good d := by
  have hl : ∀ c : Nat, Good c → ∀ d ∈ (lawB c).cps.toList, Good d := by
    rintro c (h | rfl | rfl)
    · exact (by decide +kernel : ∀ c : Nat, c < 128 → ∀ d ∈ (lawB c).cps.toList, (d < 128 ∨ d = 233 ∨ d = 8364)) c h
    · exact (by decide +kernel : ∀ d ∈ (lawB 233).cps.toList, (d < 128 ∨ d = 233 ∨ d = 8364))
    · exact (by decide +kernel : ∀ d ∈ (lawB 8364).cps.toList, (d < 128 ∨ d = 233 ∨ d = 8364))
  intro lt br wh c h d hd
  have key : gW lt br wh c = lawB c ∨ gW lt br wh c = ⟨#[c]⟩ := by
    cases wh <;> (show ite _ _ _ = _ ∨ ite _ _ _ = _) <;> split <;> simp
  rcases key with e | e
  · rw [e] at hd; exact hl c h d hd
  · rw [e] at hd; rw [List.mem_singleton.mp hd]; exact h
theorem written_small {lt br : PySem.Str} {wh : Bool} {x : PySem.Str} (h : TextOk x) : (written lt br wh x).length ≤ 1000 := by
  have := cat_len3 x.cps.toList (gW lt br wh) 9 h.gw
  have e : x.cps.toList.length = x.length := by simp [PySem.Str.length]
  have := h.1
  unfold written
  omega
theorem written_good {lt br : PySem.Str} {wh : Bool} {x : PySem.Str} (h : TextOk x) : GoodT (written lt br wh x) := cat_mem fun c hc => gw_good (h.good c hc)
theorem enc_whole {S lt br x : PySem.Str} (h0 : ∀ c ∈ alphaL, encC S c = gW lt br true c) (h : TextOk x) : encMax S x = written lt br true x := by
  rw [encMax_cat]
  exact cat_same fun c hc => h0 c (h.2 c hc)
theorem enc_wr {S lt br x : PySem.Str} (h0 : ∀ c ∈ alphaL, encC S c = gW lt br true c) (h : TextOk x) : EncTo S x (written lt br true x) := ⟨h.small, good_clean h.good, enc_whole h0 h⟩
theorem enc_ag {S lt br x : PySem.Str} (h0 : ∀ c ∈ alphaL, encC S c = gW lt br true c) (h1 : ∀ c ∈ alphaL, cat ((encC S c).cps.toList.map (encC S)) = encC S c) (h : TextOk x) : EncTo S (written lt br true x) (written lt br true x) :=
  ⟨written_small h, good_clean (written_good h), by rw [← enc_whole h0 h]; exact encMax_twice fun c hc => h1 c (h.2 c hc)⟩
theorem least_wr {S D lt br x : PySem.Str} (h0 : ∀ c ∈ alphaL, delimS S D c = gW lt br false c) (h : TextOk x) : LeastTo S D x (written lt br false x) := ⟨h.small, cat_same fun c hc => h0 c (h.2 c hc)⟩
theorem replace_struck {x : PySem.Str} : Txt.replace x (PySem.Str.ofString "%") (PySem.Str.ofString "") = struck x := by
  refine str_ext ?_
  show (Txt.replace x ⟨#[37]⟩ ⟨#[]⟩).cps.toList = _
  rw [replace_strikes]
  rfl
abbrev repl (x : PySem.Str) : PySem.Str := Txt.replace x (PySem.Str.ofString "%") (PySem.Str.ofString "")
theorem enc_bare {S D x : PySem.Str} (h : TextOk x) : EncTo S (bare D x) (encMax S (bare D x)) := enc_self (fsub h _)
theorem enc_repl {S x : PySem.Str} (h : TextOk x) : EncTo S (repl x) (encMax S (repl x)) := by
  rw [show repl x = struck x from replace_struck]
  exact enc_self (fsub h _)
theorem one_pct (c : Nat) : ((⟨#[c]⟩ : PySem.Str) != PySem.Str.ofString "%") = (c != 37) := by
  have e : PySem.Str.ofString "%" = ⟨#[37]⟩ := rfl
  rw [e]
  by_cases h : c = 37
  · subst h
    decide
  · have h1 : ((⟨#[c]⟩ : PySem.Str) != ⟨#[37]⟩) = true := by
      refine bne_iff_ne.mpr fun e => h ?_
      injection e with e
      injection e with e
      injection e
    rw [h1]
    simp [h]
theorem bare_in {D : PySem.Str} {c : Nat} (h1 : ((⟨#[c]⟩ : PySem.Str) != PySem.Str.ofString "%") = true) (h2 : (Builtin.Str.occurrences D ⟨#[c]⟩ 0 D.length 1).isEmpty = true) : inBare D c = true := by
  rw [one_pct] at h1
  unfold inBare
  rw [h1, h2]
  rfl
theorem bare_out1 {D : PySem.Str} {c : Nat} (h2 : (Builtin.Str.occurrences D ⟨#[c]⟩ 0 D.length 1).isEmpty = false) : inBare D c = false := by
  unfold inBare
  rw [h2]
  simp
theorem bare_out2 {D : PySem.Str} {c : Nat} (h1 : ((⟨#[c]⟩ : PySem.Str) != PySem.Str.ofString "%") = false) : inBare D c = false := by
  rw [one_pct] at h1
  unfold inBare
  rw [h1]
  rfl
theorem join_bare {prog : Program} {w : World} {A : Around} {E : Value → Shared → Prop} {s : Shared} {t : Tok} {Q : Value → Shared → Prop} {B : Addr} {D x : PySem.Str} {items : Array Value} (hl : s.heap.IsList B items) (hi : StrsAre items.toList ((x.cps.toList.filter (inBare D)).map fun c => (⟨#[c]⟩ : PySem.Str))) (hx : TextOk x)
    (h : ∀ t' k, Q (.str (bare D x) t') { s with toks := k }) : wpAny (model prog w) A (call (.builtin "str.join") [.str (PySem.Str.ofString "") t, .ref B]) Q E s := by
  refine join_call hl hi (fun y hy => ?_) ?_ ?_
  · obtain ⟨c, _, rfl⟩ := List.mem_map.mp hy
    exact (by decide : 1 ≤ 16)
  · rw [List.length_map]
    have h1 := List.length_filter_le (inBare D) x.cps.toList
    have h2 : x.cps.toList.length = x.length := by simp [PySem.Str.length]
    have := hx.1
    omega
  · rw [cat_ones]
    exact h
theorem dec_bare {S D D' x : PySem.Str} (h0 : ∀ c ∈ alphaL, inBare D' c = true → SignOk S D false c) (h : TextOk x) : DecTo D false (encMax S (bare D' x)) (bare D' x) :=
  dec_self (fsub h _) fun c hc => by
    have := List.mem_filter.mp hc
    exact h0 c (h.2 c this.1) this.2
theorem dec_struck {S x : PySem.Str} (h0 : ∀ c ∈ alphaL, (c != 37) = true → SignOk S (PySem.Str.ofString "") true c) (h : TextOk x) : DecTo (PySem.Str.ofString "") true (encMax S (repl x)) (repl x) := by
  rw [show repl x = struck x from replace_struck]
  refine dec_self (fsub h _) fun c hc => ?_
  have := List.mem_filter.mp hc
  exact h0 c (h.2 c this.1) this.2
theorem dec_R {x : PySem.Str} (h : TextOk x) : DecTo (PySem.Str.ofString "") true (written (PySem.Str.ofString "") (PySem.Str.ofString "") true x) x := by
  rw [← enc_whole w0R h]
  exact dec_self h fun c hc => d0R c (h.2 c hc)
theorem SrcF.introD {prog : Program} {w : World} {A : Around} {h₀ : Heap} {L : Addr} {m : PySem.Str → Option Value} {env : Env} {ct elt : Expr} {x : PySem.Str} {scope : Scope} {cl : List (PySem.Str × Addr)} {s : Shared} {news : List (Addr × Obj)}
    {b : PySem.Str} {tb td : Tok} {D : PySem.Str} {c : Addr} {o : Obj} {Q : Value → Shared → Prop} (hh : A.handled = none) (F : Fr h₀ L s.heap m) (N : News h₀ L s.heap news) (_hc : cl.lookup (PySem.Str.ofString "barred") = some c) (_hm : (c, o) ∈ news) (_hd : o.data = .cell (some (.str D td))) (hb : TextOk b)
    (turn : ∀ (a : Nat) (u : Tok) (hp : Heap), a ∈ b.cps.toList → TurnF prog w A h₀ L m env ct elt x scope cl { s with heap := hp } news (.str ⟨#[a]⟩ u) a (inBare D))
    (fin : ∀ ys hp, StrsAre ys ((b.cps.toList.filter (inBare D)).map fun c => (⟨#[c]⟩ : PySem.Str)) → LCg.FinE h₀ L m { s with heap := hp } Q ys news) : SrcF prog w A h₀ L m env ct elt x scope cl Q (.str b tb) s :=
  SrcF.intro (inBare D) hh F N (text_room hb.small) turn fin
section
variable {prog : Program} {w : World} {K : Frag} {f : Value} {vs : List Value} {kw : List (PySem.Str × Value)} {nd nu : Nat} {R : Value → Prop}
   {dp un : Nat} {gd : Option (List Code)} {cn : PySem.Str} {cs : Scope} {a : Addr} {ccd : Value} {cl : List (PySem.Str × Addr)} {outer : List Env} {A₀ : Around} {base h₀ : Heap} {L : Addr} {m : PySem.Str → Option Value} {news : List (Addr × Obj)} {s : Shared}
    {p : Program} {loose : List PySem.Str} {mean : ExcName → Option Value} {mg mb : PySem.Str → Option Value} {Q E : Value → Shared → Prop}
theorem Gives.use (G : Gives prog w K f vs kw nd nu R) (B : Below A₀ base outer h₀) (F : Fr h₀ L s.heap m) (X : K.In h₀) (N : News h₀ L s.heap news) (T : Top p loose mean mg mb h₀) (hk : cs.kind = .function) (hd : dp + nd < recursionLimit) (hu : un + nu < cLine)
    (hret : ∀ v h' tk', R v → Fr h₀ L h' m → News h₀ L h' news → Q v { s with heap := h', toks := tk' }) :
    wpAny (model prog w) (ktrTop dp un gd cn cs L a ccd cl outer) (call f vs kw) Q E s := G dp un gd cn cs a ccd cl outer A₀ base h₀ L m news s p loose mean mg mb Q E B F X N T hk hd hu hret
theorem Gives.useT (G : Gives prog w K f vs kw nd nu R) (hp : 1 ≤ s.toks) (B : Below A₀ base outer h₀) (F : Fr h₀ L s.heap m) (X : K.In h₀) (N : News h₀ L s.heap news) (T : Top p loose mean mg mb h₀) (hk : cs.kind = .function) (hd : dp + nd < recursionLimit) (hu : un + nu < cLine)
    (hret : ∀ v h' tk', 1 ≤ tk' → R v → Fr h₀ L h' m → News h₀ L h' news → Q v { s with heap := h', toks := tk' }) :
    wpAny (model prog w) (ktrTop dp un gd cn cs L a ccd cl outer) (call f vs kw) Q E s :=
  wpAny_with_toks hp (Gives.use G B F X N T hk hd hu fun v h' tk' r F' N' hle => hret v h' tk' hle r F' N')
end
theorem repl_call {prog : Program} {w : World} {A : Around} {E : Value → Shared → Prop} {s : Shared} {x : PySem.Str} {t u v : Tok} {Q : Value → Shared → Prop} (hx : TextOk x) (hu : 1 ≤ u) (hv : v = u + 1) (hp : 1 ≤ s.toks)
    (hq : ∀ t' k, 1 ≤ k → Q (.str (repl x) t') { s with toks := k }) : wpAny (model prog w) A (call (.builtin "str.replace") [.str x t, .str (PySem.Str.ofString "%") u, .str (PySem.Str.ofString "") v]) Q E s := by
  subst hv
  exact wpAny_with_toks hp (SC.replaceW (Nat.ne_of_gt hu) (Nat.succ_ne_zero u) (Nat.ne_of_lt (Nat.lt_succ_self u)) (by decide +kernel) (Nat.le_trans hx.small (by decide)) (by decide +kernel) fun t' k hk => hq t' k hk)
section
variable {prog : Program} {w : World} {x y : PySem.Str} {t : Tok}
theorem lwT' {lt br : PySem.Str} {tl tb : Tok} (h : TextOk x) (hl : lt.length ≤ 50) :
    Gives prog w (Mine.hd.heap_39 w.params) (.ref 238) [.str x t, .str lt tl, .str br tb, .bool true] [] 8 80 (fun r => ∃ t', r = .str (written lt br true x) t') := lwT h.small hl h.good h.gw
theorem lwF' {lt br : PySem.Str} {tl tb : Tok} (h : TextOk x) (hl : lt.length ≤ 50) (hl2 : br.length ≤ 50) :
    Gives prog w (Mine.hd.heap_39 w.params) (.ref 238) [.str x t, .str lt tl, .str br tb, .bool false] [] 8 80 (fun r => ∃ t', r = .str (written lt br false x) t') := lwF h.small hl hl2 h.good h.gw
theorem enR (h : EncTo sR x y) : Gives prog w (Mine.hd.heap_39 w.params) (.ref 130) [.str x t] [] 4 30 (fun r => ∃ t', r = .str y t') := by
  obtain ⟨h1, h2, rfl⟩ := h
  exact maxR h1 h2
theorem deN (h : DecTo (PySem.Str.ofString "") true x y) : Gives prog w (Mine.hd.heap_39 w.params) (.ref 214) [.str x t] [] 6 60 (fun r => ∃ t', r = .str y t') := by
  obtain ⟨l, h1, rfl⟩ := h
  exact pdecN h1
theorem enU (h : EncTo sU x y) : Gives prog w (Mine.hd.heap_39 w.params) (.ref 166) [.str x t] [] 4 30 (fun r => ∃ t', r = .str y t') := by
  obtain ⟨h1, h2, rfl⟩ := h
  exact maxU h1 h2
theorem leU (h : LeastTo sU dU x y) : Gives prog w (Mine.hd.heap_39 w.params) (.ref 166) [.str x t, .bool false] [] 4 30 (fun r => ∃ t', r = .str y t') := by
  obtain ⟨h1, rfl⟩ := h
  exact minU h1
theorem enP (h : EncTo sP x y) : Gives prog w (Mine.hd.heap_39 w.params) (.ref 136) [.str x t] [] 4 30 (fun r => ∃ t', r = .str y t') := by
  obtain ⟨h1, h2, rfl⟩ := h
  exact maxP h1 h2
theorem leP (h : LeastTo sP dP x y) : Gives prog w (Mine.hd.heap_39 w.params) (.ref 136) [.str x t, .bool false] [] 4 30 (fun r => ∃ t', r = .str y t') := by
  obtain ⟨h1, rfl⟩ := h
  exact minP h1
theorem enL (h : EncTo sL x y) : Gives prog w (Mine.hd.heap_39 w.params) (.ref 142) [.str x t] [] 4 30 (fun r => ∃ t', r = .str y t') := by
  obtain ⟨h1, h2, rfl⟩ := h
  exact maxL h1 h2
theorem leL (h : LeastTo sL dL x y) : Gives prog w (Mine.hd.heap_39 w.params) (.ref 142) [.str x t, .bool false] [] 4 30 (fun r => ∃ t', r = .str y t') := by
  obtain ⟨h1, rfl⟩ := h
  exact minL h1
theorem enK (h : EncTo sK x y) : Gives prog w (Mine.hd.heap_39 w.params) (.ref 148) [.str x t] [] 4 30 (fun r => ∃ t', r = .str y t') := by
  obtain ⟨h1, h2, rfl⟩ := h
  exact maxK h1 h2
theorem leK (h : LeastTo sK dK x y) : Gives prog w (Mine.hd.heap_39 w.params) (.ref 148) [.str x t, .bool false] [] 4 30 (fun r => ∃ t', r = .str y t') := by
  obtain ⟨h1, rfl⟩ := h
  exact minK h1
theorem enV (h : EncTo sV x y) : Gives prog w (Mine.hd.heap_39 w.params) (.ref 154) [.str x t] [] 4 30 (fun r => ∃ t', r = .str y t') := by
  obtain ⟨h1, h2, rfl⟩ := h
  exact maxV h1 h2
theorem leV (h : LeastTo sV dV x y) : Gives prog w (Mine.hd.heap_39 w.params) (.ref 154) [.str x t, .bool false] [] 4 30 (fun r => ∃ t', r = .str y t') := by
  obtain ⟨h1, rfl⟩ := h
  exact minV h1
theorem enF (h : EncTo sF x y) : Gives prog w (Mine.hd.heap_39 w.params) (.ref 160) [.str x t] [] 4 30 (fun r => ∃ t', r = .str y t') := by
  obtain ⟨h1, h2, rfl⟩ := h
  exact maxF h1 h2
theorem leF (h : LeastTo sF dF x y) : Gives prog w (Mine.hd.heap_39 w.params) (.ref 160) [.str x t, .bool false] [] 4 30 (fun r => ∃ t', r = .str y t') := by
  obtain ⟨h1, rfl⟩ := h
  exact minF h1
theorem deU (h : DecTo dU false x y) : Gives prog w (Mine.hd.heap_39 w.params) (.ref 174) [.str x t] [] 7 70 (fun r => ∃ t', r = .str y t') := by
  obtain ⟨l, h1, rfl⟩ := h
  exact decpU h1
theorem deP (h : DecTo dP false x y) : Gives prog w (Mine.hd.heap_39 w.params) (.ref 182) [.str x t] [] 7 70 (fun r => ∃ t', r = .str y t') := by
  obtain ⟨l, h1, rfl⟩ := h
  exact decpP h1
theorem deK (h : DecTo dK false x y) : Gives prog w (Mine.hd.heap_39 w.params) (.ref 190) [.str x t] [] 7 70 (fun r => ∃ t', r = .str y t') := by
  obtain ⟨l, h1, rfl⟩ := h
  exact decpK h1
theorem deV (h : DecTo dV false x y) : Gives prog w (Mine.hd.heap_39 w.params) (.ref 198) [.str x t] [] 7 70 (fun r => ∃ t', r = .str y t') := by
  obtain ⟨l, h1, rfl⟩ := h
  exact decpV h1
theorem deF (h : DecTo dF false x y) : Gives prog w (Mine.hd.heap_39 w.params) (.ref 206) [.str x t] [] 7 70 (fun r => ∃ t', r = .str y t') := by
  obtain ⟨l, h1, rfl⟩ := h
  exact decpF h1
end
/-- what a row of the table gives for the text x -/
structure RowOk (prog : Program) (w : World) (e d : Addr) (S D lt x : PySem.Str) : Prop where
  ke : keepIn (Mine.hd.heap_39 w.params) (.ref e) = true
  kd : keepIn (Mine.hd.heap_39 w.params) (.ref d) = true
  e1 : ∀ t, Gives prog w (Mine.hd.heap_39 w.params) (.ref e) [.str x t] [] 4 30 (fun r => ∃ t', r = .str (written lt D true x) t')
  e2 : ∀ t, Gives prog w (Mine.hd.heap_39 w.params) (.ref e) [.str x t, .bool false] [] 4 30 (fun r => ∃ t', r = .str (written lt D false x) t')
  e3 : ∀ t, Gives prog w (Mine.hd.heap_39 w.params) (.ref e) [.str (written lt D true x) t] [] 4 30 (fun r => ∃ t', r = .str (written lt D true x) t')
  e4 : ∀ t, Gives prog w (Mine.hd.heap_39 w.params) (.ref e) [.str (bare D x) t] [] 4 30 (fun r => ∃ t', r = .str (encMax S (bare D x)) t')
  e5 : ∀ t, Gives prog w (Mine.hd.heap_39 w.params) (.ref d) [.str (encMax S (bare D x)) t] [] 7 70 (fun r => ∃ t', r = .str (bare D x) t')
  e6 : ∀ t, Gives prog w (Mine.hd.heap_39 w.params) (.ref e) [.str (repl x) t] [] 4 30 (fun r => ∃ t', r = .str (encMax S (repl x)) t')
  e7 : ∀ t, Gives prog w (Mine.hd.heap_39 w.params) (.ref 214) [.str (encMax S (repl x)) t] [] 6 60 (fun r => ∃ t', r = .str (repl x) t')
  e8 : ∀ t tl tb, Gives prog w (Mine.hd.heap_39 w.params) (.ref 238) [.str x t, .str lt tl, .str D tb, .bool true] [] 8 80 (fun r => ∃ t', r = .str (written lt D true x) t')
  e9 : ∀ t tl tb, Gives prog w (Mine.hd.heap_39 w.params) (.ref 238) [.str x t, .str lt tl, .str D tb, .bool false] [] 8 80 (fun r => ∃ t', r = .str (written lt D false x) t')
section
variable {prog : Program} {w : World} {x : PySem.Str}
theorem row0U (h : TextOk x) : RowOk prog w 166 174 sU dU ltU x where
  ke := by k_is
  kd := by k_is
  e1 _ := enU (enc_wr w0U h)
  e2 _ := leU (least_wr l0U h)
  e3 _ := enU (enc_ag w0U a0U h)
  e4 _ := enU (enc_bare h)
  e5 _ := deU (dec_bare b0U h)
  e6 _ := enU (enc_repl h)
  e7 _ := deN (dec_struck p0U h)
  e8 _ _ _ := lwT' h (by decide +kernel)
  e9 _ _ _ := lwF' h (by decide +kernel) (by decide +kernel)
theorem row0P (h : TextOk x) : RowOk prog w 136 182 sP dP ltP x where
  ke := by k_is
  kd := by k_is
  e1 _ := enP (enc_wr w0P h)
  e2 _ := leP (least_wr l0P h)
  e3 _ := enP (enc_ag w0P a0P h)
  e4 _ := enP (enc_bare h)
  e5 _ := deP (dec_bare b0P h)
  e6 _ := enP (enc_repl h)
  e7 _ := deN (dec_struck p0P h)
  e8 _ _ _ := lwT' h (by decide +kernel)
  e9 _ _ _ := lwF' h (by decide +kernel) (by decide +kernel)
theorem row0L (h : TextOk x) : RowOk prog w 142 182 sL dL ltL x where
  ke := by k_is
  kd := by k_is
  e1 _ := enL (enc_wr w0L h)
  e2 _ := leL (least_wr l0L h)
  e3 _ := enL (enc_ag w0L a0L h)
  e4 _ := enL (enc_bare h)
  e5 _ := deP (dec_bare b0L h)
  e6 _ := enL (enc_repl h)
  e7 _ := deN (dec_struck p0L h)
  e8 _ _ _ := lwT' h (by decide +kernel)
  e9 _ _ _ := lwF' h (by decide +kernel) (by decide +kernel)
theorem row0K (h : TextOk x) : RowOk prog w 148 190 sK dK ltK x where
  ke := by k_is
  kd := by k_is
  e1 _ := enK (enc_wr w0K h)
  e2 _ := leK (least_wr l0K h)
  e3 _ := enK (enc_ag w0K a0K h)
  e4 _ := enK (enc_bare h)
  e5 _ := deK (dec_bare b0K h)
  e6 _ := enK (enc_repl h)
  e7 _ := deN (dec_struck p0K h)
  e8 _ _ _ := lwT' h (by decide +kernel)
  e9 _ _ _ := lwF' h (by decide +kernel) (by decide +kernel)
theorem row0V (h : TextOk x) : RowOk prog w 154 198 sV dV ltV x where
  ke := by k_is
  kd := by k_is
  e1 _ := enV (enc_wr w0V h)
  e2 _ := leV (least_wr l0V h)
  e3 _ := enV (enc_ag w0V a0V h)
  e4 _ := enV (enc_bare h)
  e5 _ := deV (dec_bare b0V h)
  e6 _ := enV (enc_repl h)
  e7 _ := deN (dec_struck p0V h)
  e8 _ _ _ := lwT' h (by decide +kernel)
  e9 _ _ _ := lwF' h (by decide +kernel) (by decide +kernel)
theorem row0F (h : TextOk x) : RowOk prog w 160 206 sF dF ltF x where
  ke := by k_is
  kd := by k_is
  e1 _ := enF (enc_wr w0F h)
  e2 _ := leF (least_wr l0F h)
  e3 _ := enF (enc_ag w0F a0F h)
  e4 _ := enF (enc_bare h)
  e5 _ := deF (dec_bare b0F h)
  e6 _ := enF (enc_repl h)
  e7 _ := deN (dec_struck p0F h)
  e8 _ _ _ := lwT' h (by decide +kernel)
  e9 _ _ _ := lwF' h (by decide +kernel) (by decide +kernel)
theorem rowU (h : TextOk x) : RowOk prog w 166 174 sU dU (PySem.Str.ofString "!$&'()*+,;=%") x := by
  have e : PySem.Str.ofString "!$&'()*+,;=%" = ltU := by decide +kernel
  rw [e]
  exact row0U h
theorem rowP (h : TextOk x) : RowOk prog w 136 182 sP dP (PySem.Str.ofString "!$&'()*+,;=%:@") x := by
  have e : PySem.Str.ofString "!$&'()*+,;=%:@" = ltP := by decide +kernel
  rw [e]
  exact row0P h
theorem rowL (h : TextOk x) : RowOk prog w 142 182 sL dL (PySem.Str.ofString "!$&'()*+,;=%@") x := by
  have e : PySem.Str.ofString "!$&'()*+,;=%@" = ltL := by decide +kernel
  rw [e]
  exact row0L h
theorem rowK (h : TextOk x) : RowOk prog w 148 190 sK dK (PySem.Str.ofString "!$'()*+,;%:@/?") x := by
  have e : PySem.Str.ofString "!$'()*+,;%:@/?" = ltK := by decide +kernel
  rw [e]
  exact row0K h
theorem rowV (h : TextOk x) : RowOk prog w 154 198 sV dV (PySem.Str.ofString "!$'()*+,;=%:@/?") x := by
  have e : PySem.Str.ofString "!$'()*+,;=%:@/?" = ltV := by decide +kernel
  rw [e]
  exact row0V h
theorem rowF (h : TextOk x) : RowOk prog w 160 206 sF dF (PySem.Str.ofString "!$&'()*+,;=%:@/?") x := by
  have e : PySem.Str.ofString "!$&'()*+,;=%:@/?" = ltF := by decide +kernel
  rw [e]
  exact row0F h
end
section
variable {w : World} {A : Around} {body : List Stmt} {env : Env} {h₀ : Heap} {L : Addr} {E : Value → Shared → Prop} {x : PySem.Str} {c : Addr}
abbrev heldT (x : PySem.Str) (tx : Tok) (m : PySem.Str → Option Value) : PySem.Str → Option Value := fun y => if y = PySem.Str.ofString "text" then some (.str x tx) else m y
abbrev heldR (e d : Addr) (lt : PySem.Str) (tl : Tok) (x : PySem.Str) (tx : Tok) (m : PySem.Str → Option Value) : PySem.Str → Option Value := fun y =>
  if y = PySem.Str.ofString "let" then some (.str lt tl) else if y = PySem.Str.ofString "decode" then some (.ref d) else if y = PySem.Str.ofString "encode" then some (.ref e) else if y = PySem.Str.ofString "text" then some (.str x tx) else m y
/-- how a turn goes on -/
def TurnRet (h₀ : Heap) (L : Addr) (x : PySem.Str) (tx : Tok) (news : List (Addr × Obj)) (Q : Flow → Shared → Prop) (s : Shared) : Prop :=
  ∀ h' tk m', Fr h₀ L h' (heldT x tx m') → News h₀ L h' news → Q .next { s with heap := h', toks := tk }
theorem TurnRet.use {tx : Tok} {news all : List (Addr × Obj)} {Q : Flow → Shared → Prop} {s : Shared} {h' : Heap} {tk : Nat} {m' : PySem.Str → Option Value} (H : TurnRet h₀ L x tx news Q s) (F : Fr h₀ L h' m') (N : News h₀ L h' all) (hm : m' (PySem.Str.ofString "text") = some (.str x tx)) (hs : ∀ p ∈ news, p ∈ all) :
    Q .next { s with heap := h', toks := tk } := by
  refine H h' tk m' ?_ fun p hp => N p (hs p hp)
  have e : heldT x tx m' = m' := by
    funext y
    show (if y = _ then _ else _) = _
    split
    · rename_i h
      rw [h, hm]
    · rfl
  rw [e]
  exact F
/-- one turn of law's loop, whatever the row -/
def TurnAll (w : World) (A : Around) (body : List Stmt) (env : Env) (h₀ : Heap) (L : Addr) (E : Value → Shared → Prop) (x : PySem.Str) (c : Addr) : Prop :=
  ∀ (e d : Addr) (S D lt : PySem.Str) (tx tl tb : Tok) (ob : Obj) (m : PySem.Str → Option Value) (news : List (Addr × Obj)) (s : Shared) (Q : Flow → Shared → Prop),
    RowOk PP w e d S D lt x → Fr h₀ L s.heap (heldR e d lt tl x tx m) → News h₀ L s.heap ((c, ob) :: news) → ob.data = .cell (some (.str D tb)) → TurnRet h₀ L x tx ((c, ob) :: news) Q s →
    wpAny (model PP w) A (execs body env) Q E s
theorem with_turn {Q : Flow → Shared → Prop} {s : Shared} {m : PySem.Str → Option Value} (_F : Fr h₀ L s.heap m) (_hx : TextOk x) (_hc : env.cells.lookup (PySem.Str.ofString "barred") = some c) (turn : TurnAll w A body env h₀ L E x c) (use : TurnAll w A body env h₀ L E x c → wpAny (model PP w) A (execs body env) Q E s) :
    wpAny (model PP w) A (execs body env) Q E s := use turn
theorem held_eq {m : PySem.Str → Option Value} {e d : Addr} {lt : PySem.Str} {tl tx : Tok} (h1 : m (PySem.Str.ofString "let") = some (.str lt tl)) (h2 : m (PySem.Str.ofString "decode") = some (.ref d)) (h3 : m (PySem.Str.ofString "encode") = some (.ref e)) (h4 : m (PySem.Str.ofString "text") = some (.str x tx)) : heldR e d lt tl x tx m = m := by
  funext y
  show (if y = _ then _ else _) = _
  split
  · rename_i h
    rw [h, h1]
  · split
    · rename_i h
      rw [h, h2]
    · split
      · rename_i h
        rw [h, h3]
      · split
        · rename_i h
          rw [h, h4]
        · rfl
theorem TurnAll.use {e d : Addr} {S D lt : PySem.Str} {tx tl tb : Tok} {ob : Obj} {m : PySem.Str → Option Value} {news : List (Addr × Obj)} {s : Shared} {Q : Flow → Shared → Prop} (H : TurnAll w A body env h₀ L E x c)
    (F : Fr h₀ L s.heap m) (N : News h₀ L s.heap news) (h1 : m (PySem.Str.ofString "let") = some (.str lt tl)) (h2 : m (PySem.Str.ofString "decode") = some (.ref d)) (h3 : m (PySem.Str.ofString "encode") = some (.ref e)) (h4 : m (PySem.Str.ofString "text") = some (.str x tx))
    (hm : (c, ob) ∈ news) (hd : ob.data = .cell (some (.str D tb))) (R : RowOk PP w e d S D lt x) (hret : ∀ h' tk m', Fr h₀ L h' (heldT x tx m') → News h₀ L h' news → Q .next { s with heap := h', toks := tk }) :
    wpAny (model PP w) A (execs body env) Q E s := by
  refine H e d S D lt tx tl tb ob m news s Q R ?_ (fun p hp => ?_) hd fun h' tk m' F' N' => hret h' tk m' F' (news_tail N')
  · rw [held_eq h1 h2 h3 h4]
    exact F
  · rcases List.mem_cons.mp hp with rfl | hp
    · exact N _ hm
    · exact N p hp
end
end
section
theorem calmLwA : True := by w_top off; trivial
local macro_rules | `(tactic| k_room) => `(tactic| ktr_room)
local macro_rules | `(tactic| k_units) => `(tactic| ktr_units)
theorem ne_same {prog : Program} {w : World} {A : Around} {E : Value → Shared → Prop} {s : Shared} {x : PySem.Str} {t u : Tok} {Q : Value → Shared → Prop} (h : Q (.bool false) s) : wpAny (model prog w) A (compareOp .NotEq (.str x t) (.str x u)) Q E s := by
  refine P.ne_str ?_
  simpa using h
theorem eq_same {prog : Program} {w : World} {A : Around} {E : Value → Shared → Prop} {s : Shared} {x : PySem.Str} {t u : Tok} {Q : Value → Shared → Prop} (h : Q (.bool true) s) : wpAny (model prog w) A (compareOp .Eq (.str x t) (.str x u)) Q E s := by
  refine P.eq_str ?_
  simpa using h
theorem gen_pos {α : Type} {M : Model} {A : Around} {c : Sem α} {Q : α → Shared → Prop} {E : Value → Shared → Prop} {h g d X o} (hX : 1 ≤ X) (H : ∀ tk, 1 ≤ tk → wpAny M A c Q E (Shared.mk h g d tk o)) : wpAny M A c Q E (Shared.mk h g d X o) := H X hX
local macro_rules | `(tactic| walk_at "compareOp NotEq str str") => `(tactic| (k_here; (with_reducible show wpAny _ _ (compareOp _ (Value.str (written _ _ _ _) _) (Value.str _ _)) _ _ _); k_dflt (refine' ne_same ?_)))
local macro_rules | `(tactic| walk_at "compareOp NotEq str str") => `(tactic| (k_here; (with_reducible show wpAny _ _ (compareOp _ (Value.str (bare _ _) _) (Value.str _ _)) _ _ _); k_dflt (refine' ne_same ?_)))
local macro_rules | `(tactic| walk_at "compareOp NotEq str str") => `(tactic| (k_here; (with_reducible show wpAny _ _ (compareOp _ (Value.str (Txt.replace _ _ _) _) (Value.str _ _)) _ _ _); k_dflt (refine' ne_same ?_)))
local macro_rules | `(tactic| walk_at "compareOp Eq str str") => `(tactic| (k_here; k_dflt (refine' eq_same ?_)))
local macro_rules | `(tactic| walk_at "MINE back") => `(tactic| ((case kB => k_asm); (case kF => k_asm); (case kX => k_asm); (case kN => k_asm); (case kT => k_asm); (case kK => first | exact rfl | assumption); (case kd => ktr_room); (case ku => ktr_units)))
local macro_rules | `(tactic| walk_at "newTuple") => `(tactic| (k_here; k_dflt (refine' kup_newTuple ?F ?N ?_ ?z; (case F => k_asm); (case N => k_asm); (case z => (rw [PySem.sizeLine_eq]; simp only [List.length_cons, List.length_nil]; omega))); intro D' h' F' N' l1; (try k_lt l1)))
local macro_rules | `(tactic| walk_at "call ref") => `(tactic| (k_here; (with_reducible show wpAny _ _ (call (Value.ref 226) [_]) _ _ _); k_dflt (refine' law_text ?kI ?kl _ _ _ _ _ _ _ _ _ _ _ _ _ _ _ _ _ _ _ _ _ _ ?kL ?kB ?kF ?kX ?kN ?kT ?kK ?kd ?ku ?_; (case kI => assumption); (case kl => assumption); (case kL => assumption); walk_at "MINE back"; (intro v9 h9 tk9 hv9 F9 N9; obtain ⟨x9, t9, hw9, hx9⟩ := hv9; subst hw9))))
local macro_rules | `(tactic| walk_at "call ref") => `(tactic| (k_here; (with_reducible show wpAny _ _ (call (Value.ref _) [Value.str _ _]) _ _ _); k_dflt (first | (refine' Gives.useT ?kG ?kp ?kB ?kF ?kX ?kN ?kT ?kK ?kd ?ku ?_; (case kG => with_reducible first | exact RowOk.e1 (by assumption) _ | exact RowOk.e3 (by assumption) _ | exact RowOk.e4 (by assumption) _ | exact RowOk.e5 (by assumption) _ | exact RowOk.e6 (by assumption) _ | exact RowOk.e7 (by assumption) _ | exact enR (enc_wr w0R (by assumption)) | exact deN (dec_R (by assumption))); (case kp => assumption); walk_at "MINE back"; (intro v9 h9 tk9 hp9 hv9 F9 N9; obtain ⟨t9, hw9⟩ := hv9; subst hw9)) | (refine' Gives.use ?kG ?kB ?kF ?kX ?kN ?kT ?kK ?kd ?ku ?_; (case kG => with_reducible first | exact RowOk.e1 (by assumption) _ | exact RowOk.e3 (by assumption) _ | exact RowOk.e4 (by assumption) _ | exact RowOk.e5 (by assumption) _ | exact RowOk.e6 (by assumption) _ | exact RowOk.e7 (by assumption) _ | exact enR (enc_wr w0R (by assumption)) | exact deN (dec_R (by assumption))); walk_at "MINE back"; (intro v9 h9 tk9 hv9 F9 N9; obtain ⟨t9, hw9⟩ := hv9; subst hw9)))))
local macro_rules | `(tactic| walk_at "call ref") => `(tactic| (k_here; (with_reducible show wpAny _ _ (call (Value.ref _) [Value.str _ _, Value.bool false]) _ _ _); k_dflt (first | (refine' Gives.useT ?kG ?kp ?kB ?kF ?kX ?kN ?kT ?kK ?kd ?ku ?_; (case kG => with_reducible exact RowOk.e2 (by assumption) _); (case kp => assumption); walk_at "MINE back"; (intro v9 h9 tk9 hp9 hv9 F9 N9; obtain ⟨t9, hw9⟩ := hv9; subst hw9)) | (refine' Gives.use ?kG ?kB ?kF ?kX ?kN ?kT ?kK ?kd ?ku ?_; (case kG => with_reducible exact RowOk.e2 (by assumption) _); walk_at "MINE back"; (intro v9 h9 tk9 hv9 F9 N9; obtain ⟨t9, hw9⟩ := hv9; subst hw9)))))
local macro_rules | `(tactic| walk_at "call ref") => `(tactic| (k_here; (with_reducible show wpAny _ _ (call (Value.ref 238) [Value.str _ _, Value.str _ _, Value.str _ _, Value.bool true]) _ _ _); k_dflt (first | (refine' Gives.useT ?kG ?kp ?kB ?kF ?kX ?kN ?kT ?kK ?kd ?ku ?_; (case kG => first | (with_reducible exact RowOk.e8 (by assumption) _ _ _) | exact lwT' (by assumption) (by decide +kernel)); (case kp => assumption); walk_at "MINE back"; (intro v9 h9 tk9 hp9 hv9 F9 N9; obtain ⟨t9, hw9⟩ := hv9; subst hw9)) | (refine' Gives.use ?kG ?kB ?kF ?kX ?kN ?kT ?kK ?kd ?ku ?_; (case kG => first | (with_reducible exact RowOk.e8 (by assumption) _ _ _) | exact lwT' (by assumption) (by decide +kernel)); walk_at "MINE back"; (intro v9 h9 tk9 hv9 F9 N9; obtain ⟨t9, hw9⟩ := hv9; subst hw9)))))
local macro_rules | `(tactic| walk_at "call ref") => `(tactic| (k_here; (with_reducible show wpAny _ _ (call (Value.ref 238) [Value.str _ _, Value.str _ _, Value.str _ _, Value.bool false]) _ _ _); k_dflt (first | (refine' Gives.useT ?kG ?kp ?kB ?kF ?kX ?kN ?kT ?kK ?kd ?ku ?_; (case kG => with_reducible exact RowOk.e9 (by assumption) _ _ _); (case kp => assumption); walk_at "MINE back"; (intro v9 h9 tk9 hp9 hv9 F9 N9; obtain ⟨t9, hw9⟩ := hv9; subst hw9)) | (refine' Gives.use ?kG ?kB ?kF ?kX ?kN ?kT ?kK ?kd ?ku ?_; (case kG => with_reducible exact RowOk.e9 (by assumption) _ _ _); walk_at "MINE back"; (intro v9 h9 tk9 hv9 F9 N9; obtain ⟨t9, hw9⟩ := hv9; subst hw9)))))
local macro_rules | `(tactic| walk_at "eval ListComp") => `(tactic| (k_here; (with_reducible show wpAny _ _ (eval (Expr.ListComp _ [⟨_, Expr.Name (PySem.Str.ofString "text") _, [_], _⟩] _ _) _) _ _ _); k_dflt (refine' ListComp_F ?k0 ?k1 ?k2 ?k3 ?k4 ?k5 ?_ ?k6; (case k0 => k_asm); (case k1 => with_unfolding_all rfl); (case k2 => decide); (case k3 => rfl); (case k4 => decide); (case k5 => rfl); (case k6 => intro _; rfl))))
local macro_rules | `(tactic| walk_at "SrcF") => `(tactic| k_dflt (refine' SrcF.introD ?k2 ?k3 ?k4 ?k5 ?k6 ?k7 ?k1 ?_ ?_; (case k2 => rfl); (case k3 => k_asm); (case k4 => k_asm); (case k5 => rfl); (case k6 => k_mem); (case k7 => k_asm); (case k1 => with_reducible assumption)))
local macro_rules | `(tactic| walk_at "TurnF") => `(tactic| k_dflt (unfold TurnF; intro I' oI' C' oC' D' m' ys' h' tk' E' hC' hx' F' N' off' ne'))
local macro_rules | `(tactic| walk_at "CompEnd") => `(tactic| k_dflt (first | exact ⟨_, _, _, rfl, by assumption, by assumption, by assumption, trivial, rfl, bare_in (by assumption) (by assumption), _, rfl⟩ | exact ⟨_, _, _, rfl, by assumption, by assumption, by assumption, trivial, rfl, bare_out1 (by assumption)⟩ | exact ⟨_, _, _, rfl, by assumption, by assumption, by assumption, trivial, rfl, bare_out2 (by assumption)⟩))
local macro_rules | `(tactic| walk_at "call builtin:str.join") => `(tactic| (k_here; (with_reducible show wpAny _ _ (call (Value.builtin "str.join") [Value.str _ _, Value.ref _]) _ _ _); k_dflt (refine' join_bare ?k1 ?k2 ?k3 ?_; (case k1 => exact News.isList (by k_asm) (by k_mem)); (case k2 => assumption); (case k3 => assumption)); intro _ _))
local macro_rules | `(tactic| walk_at "call builtin:str.replace") => `(tactic| (k_here; k_dflt (refine' repl_call ?k1 ?k2 ?k3 ?k4 ?_; (case k1 => assumption); (case k2 => assumption); (case k3 => exact rfl); (case k4 => first | assumption | exact Nat.le_add_left 1 _)); intro _ _ _))
local macro_rules | `(tactic| walk_at "execs cons") => `(tactic| (k_here; k_dflt (refine' gen_pos (Nat.le_add_left 1 _) ?_); intro tk9 hp9))
local macro_rules | `(tactic| walk_at "execs cons") => `(tactic| (k_here; (with_reducible show wpAny _ _ (execs (Stmt.Assign [Expr.Tuple _ _ _] _ _ :: _) _) _ _ _); (fail_if_success (with_reducible rename RowOk _ _ _ _ _ _ _ _ => hq9)); (fail_if_success (with_reducible rename TurnAll _ _ _ _ _ _ _ _ _ => hq9)); k_dflt (refine' with_turn ?kF ?kx ?kc ?_ ?_; (case kF => k_asm); (case kx => assumption); (case kc => rfl))))

local macro_rules | `(tactic| walk_at "execs cons") => `(tactic| (k_here; (with_reducible show wpAny _ _ (execs (Stmt.Assign [Expr.Tuple _ _ _] _ _ :: _) _) _ _ _); k_dflt (refine' TurnAll.use ?kH ?kF ?kN ?k1 ?k2 ?k3 ?k4 ?km ?kd ?kR ?_; (case kH => with_reducible assumption); (case kF => k_asm); (case kN => k_asm); (case k1 => rfl); (case k2 => rfl); (case k3 => rfl); (case k4 => rfl); (case km => k_mem); (case kd => k_asm); (case kR => with_reducible first | exact rowU (by assumption) | exact rowP (by assumption) | exact rowL (by assumption) | exact rowK (by assumption) | exact rowV (by assumption) | exact rowF (by assumption))); intro h9 tk9 m9 F9 N9))
local macro_rules | `(tactic| walk_at "callWith ref") => `(tactic| (k_here; k_dflt (refine' callWith_K ?k1 ?k2 ?_; (case k1 => k_asm); (case k2 => with_reducible first | exact RowOk.ke (by assumption) | exact RowOk.kd (by assumption)); k_whole)))
local macro_rules | `(tactic| walk_at "TurnAll") => `(tactic| (k_dflt (unfold TurnAll); intro e9 d9 S9 D9 lt9 tx9 tl9 tb9 ob9 m9 news9 s9 Q9 hR9 F9 N9 hb9 hret9))
set_option maxRecDepth 100000 in
set_option maxHeartbeats 8000000 in
theorem lawA : PySem.Challenge.rw_fe0140_01.Holds := hd (by
  k_go0
  (all_goals try k_fold)
  k_steps
  exact TurnRet.use (by assumption) (by assumption) (by assumption) rfl (fun _ h => by first | exact h | exact .tail _ h | exact .tail _ (.tail _ h) | exact .tail _ (.tail _ (.tail _ h)) | exact .tail _ (.tail _ (.tail _ (.tail _ h)))))
end
end Mine
theorem PySem.Challenge.cw_fe0140_01_holds : PySem.Challenge.rw_fe0140_01.Holds := by
  exact Mine.lawA
